import JvmDerived
import JvmDerived.Pilot.@@N@@Statement
import JvmDerived.Pilot.@@N@@Code
set_option linter.unusedVariables false
set_option linter.unusedSimpArgs false
@@BLOCK:NumsL.lean.txt@@
namespace Jvm.RoadKit
open Sem ClassFile Op Lib Jvm.Stand Jvm.Free Jvm.LawKit
section New
variable {p : Program} {l : Launch} {e : Env} {R : Room} {s : State} {m : MethodId} {args : Array Value} {below : List Frame} {meth : Method} {c : Code} {T : State} {locs : List Loc} {cells slots : Nat}
theorem retI (X : Stand p l e R s m args below meth c T locs cells slots) (hx : p.tables.exec = Jvm.exec) {pc : Nat} {Ls : Array Slot} {z : Int32} {rest : List Value} (hret : meth.sig.returnType = some .int) (hd : decode c.code pc = .ok (.ireturn, 1)) {fs : List Frame}
    (hl : ∀ (f : JFrame) (acts : List Action), f.method = m → f.locked = none → f.entered = [] → (doReturn e (T.setTop f) acts (some (.int z))).1 = T.setFrames fs) : Steps p.tables e below (T.setTop (mkF m pc Ls (.int z :: rest))) (T.setFrames fs) := by
  have hm' : T.vm.method? m = some meth := X.method'
  have hn : narrow .int (.int z) = .int z := rfl
  show Steps p.tables e below (T.setTop { method := m, pc := pc, locals := Ls, stack := _ :: rest, locked := none }) _
  jvm_step X.here [X.here.top, hx, hd, hm', hret, hn]
  first | (intro acts; rw [hl _ acts rfl rfl rfl]) | rw [hl _ _ rfl rfl rfl]
  exact Steps.refl _
end New
end Jvm.RoadKit
namespace Jvm.Pilot.@@N@@
open Jvm Jvm.ClassFile Sem Op Lib Jvm.Free Jvm.Stand Jvm.LawKit Jvm.RoadKit Bundle Jvm.Pilot.@@N@@.Jvm.D
def own_b : Bool → Int32
  | true => 1
  | false => 0
def own_set : Bool → List Value → Int32 → Int32 → List Value
  | true, vs, k, i => vs.set k.toNatClampNeg (.int i)
  | false, vs, _, _ => vs
def own_wt (p : Int32) : Int32 := if (p &&& (1 : Int32)) = (0 : Int32) then (0 : Int32) else ((p.toUInt32 >>> ((1 : Int32) &&& 31).toUInt32).toInt32)
theorem own_k0 (k : Int32) : k + own_b false = k := Int32.add_zero k
theorem own_cn0 : ¬ (0 : Int32) < 0 ∧ (0 : Int32).toNatClampNeg ≤ 4 := by decide
theorem own_f0 : (¬ (0 : Int32) < 0 ∧ (0 : Int32) < (4 : Int32)) ∧ (0 : Int32).toNatClampNeg < ([(.int (0 : Int32)), (.int (0 : Int32)), (.int (0 : Int32)), (.int (0 : Int32))] : List Value).length := by decide
theorem own_u0_0 : ∃ e : Int32, ([(.int (0 : Int32)), (.int (0 : Int32)), (.int (0 : Int32)), (.int (0 : Int32))] : List Value).getD ((0 : Int32)).toNatClampNeg (.int (0 : Int32)) = .int e := by exact ⟨_, rfl⟩
theorem own_u0_1 : ∃ e : Int32, ([(.int (0 : Int32)), (.int (0 : Int32)), (.int (0 : Int32)), (.int (0 : Int32))] : List Value).getD ((1 : Int32)).toNatClampNeg (.int (0 : Int32)) = .int e := by exact ⟨_, rfl⟩
theorem own_u0_2 : ∃ e : Int32, ([(.int (0 : Int32)), (.int (0 : Int32)), (.int (0 : Int32)), (.int (0 : Int32))] : List Value).getD ((2 : Int32)).toNatClampNeg (.int (0 : Int32)) = .int e := by exact ⟨_, rfl⟩
theorem own_u0_3 : ∃ e : Int32, ([(.int (0 : Int32)), (.int (0 : Int32)), (.int (0 : Int32)), (.int (0 : Int32))] : List Value).getD ((3 : Int32)).toNatClampNeg (.int (0 : Int32)) = .int e := by exact ⟨_, rfl⟩
theorem own_cn1 (c0 : Bool) : ¬ ((0 : Int32) + own_b c0) < 0 ∧ ((0 : Int32) + own_b c0).toNatClampNeg ≤ 4 := by cases c0 <;> decide
theorem own_f1 (c0 : Bool) : (¬ ((0 : Int32) + own_b c0) < 0 ∧ ((0 : Int32) + own_b c0) < (4 : Int32)) ∧ ((0 : Int32) + own_b c0).toNatClampNeg < ((own_set c0 [(.int (0 : Int32)), (.int (0 : Int32)), (.int (0 : Int32)), (.int (0 : Int32))] (0 : Int32) (0 : Int32)) : List Value).length := by cases c0 <;> decide
theorem own_g1_0 (c0 : Bool) (h : c0 = true) : ¬ (0 : Int32) < 0 ∧ (0 : Int32) < ((0 : Int32) + own_b c0) := by subst h; decide
theorem own_u1_0 (c0 : Bool) : ∃ e : Int32, ((own_set c0 [(.int (0 : Int32)), (.int (0 : Int32)), (.int (0 : Int32)), (.int (0 : Int32))] (0 : Int32) (0 : Int32)) : List Value).getD ((0 : Int32)).toNatClampNeg (.int (0 : Int32)) = .int e := by cases c0 <;> exact ⟨_, rfl⟩
theorem own_u1_1 (c0 : Bool) : ∃ e : Int32, ((own_set c0 [(.int (0 : Int32)), (.int (0 : Int32)), (.int (0 : Int32)), (.int (0 : Int32))] (0 : Int32) (0 : Int32)) : List Value).getD ((1 : Int32)).toNatClampNeg (.int (0 : Int32)) = .int e := by cases c0 <;> exact ⟨_, rfl⟩
theorem own_u1_2 (c0 : Bool) : ∃ e : Int32, ((own_set c0 [(.int (0 : Int32)), (.int (0 : Int32)), (.int (0 : Int32)), (.int (0 : Int32))] (0 : Int32) (0 : Int32)) : List Value).getD ((2 : Int32)).toNatClampNeg (.int (0 : Int32)) = .int e := by cases c0 <;> exact ⟨_, rfl⟩
theorem own_u1_3 (c0 : Bool) : ∃ e : Int32, ((own_set c0 [(.int (0 : Int32)), (.int (0 : Int32)), (.int (0 : Int32)), (.int (0 : Int32))] (0 : Int32) (0 : Int32)) : List Value).getD ((3 : Int32)).toNatClampNeg (.int (0 : Int32)) = .int e := by cases c0 <;> exact ⟨_, rfl⟩
theorem own_cn2 (c0 c1 : Bool) : ¬ (((0 : Int32) + own_b c0) + own_b c1) < 0 ∧ (((0 : Int32) + own_b c0) + own_b c1).toNatClampNeg ≤ 4 := by cases c0 <;> cases c1 <;> decide
theorem own_f2 (c0 c1 : Bool) : (¬ (((0 : Int32) + own_b c0) + own_b c1) < 0 ∧ (((0 : Int32) + own_b c0) + own_b c1) < (4 : Int32)) ∧ (((0 : Int32) + own_b c0) + own_b c1).toNatClampNeg < ((own_set c1 (own_set c0 [(.int (0 : Int32)), (.int (0 : Int32)), (.int (0 : Int32)), (.int (0 : Int32))] (0 : Int32) (0 : Int32)) ((0 : Int32) + own_b c0) (1 : Int32)) : List Value).length := by cases c0 <;> cases c1 <;> decide
theorem own_g2_0 (c0 c1 : Bool) (h : c0 = true) : ¬ (0 : Int32) < 0 ∧ (0 : Int32) < (((0 : Int32) + own_b c0) + own_b c1) := by subst h; cases c1 <;> decide
theorem own_g2_1 (c0 c1 : Bool) (h : c1 = true) : ¬ ((0 : Int32) + own_b c0) < 0 ∧ ((0 : Int32) + own_b c0) < (((0 : Int32) + own_b c0) + own_b c1) := by subst h; cases c0 <;> decide
theorem own_u2_0 (c0 c1 : Bool) : ∃ e : Int32, ((own_set c1 (own_set c0 [(.int (0 : Int32)), (.int (0 : Int32)), (.int (0 : Int32)), (.int (0 : Int32))] (0 : Int32) (0 : Int32)) ((0 : Int32) + own_b c0) (1 : Int32)) : List Value).getD ((0 : Int32)).toNatClampNeg (.int (0 : Int32)) = .int e := by cases c0 <;> cases c1 <;> exact ⟨_, rfl⟩
theorem own_u2_1 (c0 c1 : Bool) : ∃ e : Int32, ((own_set c1 (own_set c0 [(.int (0 : Int32)), (.int (0 : Int32)), (.int (0 : Int32)), (.int (0 : Int32))] (0 : Int32) (0 : Int32)) ((0 : Int32) + own_b c0) (1 : Int32)) : List Value).getD ((1 : Int32)).toNatClampNeg (.int (0 : Int32)) = .int e := by cases c0 <;> cases c1 <;> exact ⟨_, rfl⟩
theorem own_u2_2 (c0 c1 : Bool) : ∃ e : Int32, ((own_set c1 (own_set c0 [(.int (0 : Int32)), (.int (0 : Int32)), (.int (0 : Int32)), (.int (0 : Int32))] (0 : Int32) (0 : Int32)) ((0 : Int32) + own_b c0) (1 : Int32)) : List Value).getD ((2 : Int32)).toNatClampNeg (.int (0 : Int32)) = .int e := by cases c0 <;> cases c1 <;> exact ⟨_, rfl⟩
theorem own_u2_3 (c0 c1 : Bool) : ∃ e : Int32, ((own_set c1 (own_set c0 [(.int (0 : Int32)), (.int (0 : Int32)), (.int (0 : Int32)), (.int (0 : Int32))] (0 : Int32) (0 : Int32)) ((0 : Int32) + own_b c0) (1 : Int32)) : List Value).getD ((3 : Int32)).toNatClampNeg (.int (0 : Int32)) = .int e := by cases c0 <;> cases c1 <;> exact ⟨_, rfl⟩
theorem own_cn3 (c0 c1 c2 : Bool) : ¬ ((((0 : Int32) + own_b c0) + own_b c1) + own_b c2) < 0 ∧ ((((0 : Int32) + own_b c0) + own_b c1) + own_b c2).toNatClampNeg ≤ 4 := by cases c0 <;> cases c1 <;> cases c2 <;> decide
theorem own_f3 (c0 c1 c2 : Bool) : (¬ ((((0 : Int32) + own_b c0) + own_b c1) + own_b c2) < 0 ∧ ((((0 : Int32) + own_b c0) + own_b c1) + own_b c2) < (4 : Int32)) ∧ ((((0 : Int32) + own_b c0) + own_b c1) + own_b c2).toNatClampNeg < ((own_set c2 (own_set c1 (own_set c0 [(.int (0 : Int32)), (.int (0 : Int32)), (.int (0 : Int32)), (.int (0 : Int32))] (0 : Int32) (0 : Int32)) ((0 : Int32) + own_b c0) (1 : Int32)) (((0 : Int32) + own_b c0) + own_b c1) (2 : Int32)) : List Value).length := by cases c0 <;> cases c1 <;> cases c2 <;> decide
theorem own_g3_0 (c0 c1 c2 : Bool) (h : c0 = true) : ¬ (0 : Int32) < 0 ∧ (0 : Int32) < ((((0 : Int32) + own_b c0) + own_b c1) + own_b c2) := by subst h; cases c1 <;> cases c2 <;> decide
theorem own_g3_1 (c0 c1 c2 : Bool) (h : c1 = true) : ¬ ((0 : Int32) + own_b c0) < 0 ∧ ((0 : Int32) + own_b c0) < ((((0 : Int32) + own_b c0) + own_b c1) + own_b c2) := by subst h; cases c0 <;> cases c2 <;> decide
theorem own_g3_2 (c0 c1 c2 : Bool) (h : c2 = true) : ¬ (((0 : Int32) + own_b c0) + own_b c1) < 0 ∧ (((0 : Int32) + own_b c0) + own_b c1) < ((((0 : Int32) + own_b c0) + own_b c1) + own_b c2) := by subst h; cases c0 <;> cases c1 <;> decide
theorem own_u3_0 (c0 c1 c2 : Bool) : ∃ e : Int32, ((own_set c2 (own_set c1 (own_set c0 [(.int (0 : Int32)), (.int (0 : Int32)), (.int (0 : Int32)), (.int (0 : Int32))] (0 : Int32) (0 : Int32)) ((0 : Int32) + own_b c0) (1 : Int32)) (((0 : Int32) + own_b c0) + own_b c1) (2 : Int32)) : List Value).getD ((0 : Int32)).toNatClampNeg (.int (0 : Int32)) = .int e := by cases c0 <;> cases c1 <;> cases c2 <;> exact ⟨_, rfl⟩
theorem own_u3_1 (c0 c1 c2 : Bool) : ∃ e : Int32, ((own_set c2 (own_set c1 (own_set c0 [(.int (0 : Int32)), (.int (0 : Int32)), (.int (0 : Int32)), (.int (0 : Int32))] (0 : Int32) (0 : Int32)) ((0 : Int32) + own_b c0) (1 : Int32)) (((0 : Int32) + own_b c0) + own_b c1) (2 : Int32)) : List Value).getD ((1 : Int32)).toNatClampNeg (.int (0 : Int32)) = .int e := by cases c0 <;> cases c1 <;> cases c2 <;> exact ⟨_, rfl⟩
theorem own_u3_2 (c0 c1 c2 : Bool) : ∃ e : Int32, ((own_set c2 (own_set c1 (own_set c0 [(.int (0 : Int32)), (.int (0 : Int32)), (.int (0 : Int32)), (.int (0 : Int32))] (0 : Int32) (0 : Int32)) ((0 : Int32) + own_b c0) (1 : Int32)) (((0 : Int32) + own_b c0) + own_b c1) (2 : Int32)) : List Value).getD ((2 : Int32)).toNatClampNeg (.int (0 : Int32)) = .int e := by cases c0 <;> cases c1 <;> cases c2 <;> exact ⟨_, rfl⟩
theorem own_u3_3 (c0 c1 c2 : Bool) : ∃ e : Int32, ((own_set c2 (own_set c1 (own_set c0 [(.int (0 : Int32)), (.int (0 : Int32)), (.int (0 : Int32)), (.int (0 : Int32))] (0 : Int32) (0 : Int32)) ((0 : Int32) + own_b c0) (1 : Int32)) (((0 : Int32) + own_b c0) + own_b c1) (2 : Int32)) : List Value).getD ((3 : Int32)).toNatClampNeg (.int (0 : Int32)) = .int e := by cases c0 <;> cases c1 <;> cases c2 <;> exact ⟨_, rfl⟩
theorem own_cn4 (c0 c1 c2 c3 : Bool) : ¬ (((((0 : Int32) + own_b c0) + own_b c1) + own_b c2) + own_b c3) < 0 ∧ (((((0 : Int32) + own_b c0) + own_b c1) + own_b c2) + own_b c3).toNatClampNeg ≤ 4 := by cases c0 <;> cases c1 <;> cases c2 <;> cases c3 <;> decide
theorem own_g4_0 (c0 c1 c2 c3 : Bool) (h : c0 = true) : ¬ (0 : Int32) < 0 ∧ (0 : Int32) < (((((0 : Int32) + own_b c0) + own_b c1) + own_b c2) + own_b c3) := by subst h; cases c1 <;> cases c2 <;> cases c3 <;> decide
theorem own_g4_1 (c0 c1 c2 c3 : Bool) (h : c1 = true) : ¬ ((0 : Int32) + own_b c0) < 0 ∧ ((0 : Int32) + own_b c0) < (((((0 : Int32) + own_b c0) + own_b c1) + own_b c2) + own_b c3) := by subst h; cases c0 <;> cases c2 <;> cases c3 <;> decide
theorem own_g4_2 (c0 c1 c2 c3 : Bool) (h : c2 = true) : ¬ (((0 : Int32) + own_b c0) + own_b c1) < 0 ∧ (((0 : Int32) + own_b c0) + own_b c1) < (((((0 : Int32) + own_b c0) + own_b c1) + own_b c2) + own_b c3) := by subst h; cases c0 <;> cases c1 <;> cases c3 <;> decide
theorem own_g4_3 (c0 c1 c2 c3 : Bool) (h : c3 = true) : ¬ ((((0 : Int32) + own_b c0) + own_b c1) + own_b c2) < 0 ∧ ((((0 : Int32) + own_b c0) + own_b c1) + own_b c2) < (((((0 : Int32) + own_b c0) + own_b c1) + own_b c2) + own_b c3) := by subst h; cases c0 <;> cases c1 <;> cases c2 <;> decide
theorem own_u4_0 (c0 c1 c2 c3 : Bool) : ∃ e : Int32, ((own_set c3 (own_set c2 (own_set c1 (own_set c0 [(.int (0 : Int32)), (.int (0 : Int32)), (.int (0 : Int32)), (.int (0 : Int32))] (0 : Int32) (0 : Int32)) ((0 : Int32) + own_b c0) (1 : Int32)) (((0 : Int32) + own_b c0) + own_b c1) (2 : Int32)) ((((0 : Int32) + own_b c0) + own_b c1) + own_b c2) (3 : Int32)) : List Value).getD ((0 : Int32)).toNatClampNeg (.int (0 : Int32)) = .int e := by cases c0 <;> cases c1 <;> cases c2 <;> cases c3 <;> exact ⟨_, rfl⟩
theorem own_u4_1 (c0 c1 c2 c3 : Bool) : ∃ e : Int32, ((own_set c3 (own_set c2 (own_set c1 (own_set c0 [(.int (0 : Int32)), (.int (0 : Int32)), (.int (0 : Int32)), (.int (0 : Int32))] (0 : Int32) (0 : Int32)) ((0 : Int32) + own_b c0) (1 : Int32)) (((0 : Int32) + own_b c0) + own_b c1) (2 : Int32)) ((((0 : Int32) + own_b c0) + own_b c1) + own_b c2) (3 : Int32)) : List Value).getD ((1 : Int32)).toNatClampNeg (.int (0 : Int32)) = .int e := by cases c0 <;> cases c1 <;> cases c2 <;> cases c3 <;> exact ⟨_, rfl⟩
theorem own_u4_2 (c0 c1 c2 c3 : Bool) : ∃ e : Int32, ((own_set c3 (own_set c2 (own_set c1 (own_set c0 [(.int (0 : Int32)), (.int (0 : Int32)), (.int (0 : Int32)), (.int (0 : Int32))] (0 : Int32) (0 : Int32)) ((0 : Int32) + own_b c0) (1 : Int32)) (((0 : Int32) + own_b c0) + own_b c1) (2 : Int32)) ((((0 : Int32) + own_b c0) + own_b c1) + own_b c2) (3 : Int32)) : List Value).getD ((2 : Int32)).toNatClampNeg (.int (0 : Int32)) = .int e := by cases c0 <;> cases c1 <;> cases c2 <;> cases c3 <;> exact ⟨_, rfl⟩
theorem own_u4_3 (c0 c1 c2 c3 : Bool) : ∃ e : Int32, ((own_set c3 (own_set c2 (own_set c1 (own_set c0 [(.int (0 : Int32)), (.int (0 : Int32)), (.int (0 : Int32)), (.int (0 : Int32))] (0 : Int32) (0 : Int32)) ((0 : Int32) + own_b c0) (1 : Int32)) (((0 : Int32) + own_b c0) + own_b c1) (2 : Int32)) ((((0 : Int32) + own_b c0) + own_b c1) + own_b c2) (3 : Int32)) : List Value).getD ((3 : Int32)).toNatClampNeg (.int (0 : Int32)) = .int e := by cases c0 <;> cases c1 <;> cases c2 <;> cases c3 <;> exact ⟨_, rfl⟩
def QW (Z : State) (p1 : Int32) (h0 : Heap) (n0 : Nat) (v : Option Value) (h : Heap) (L : List Loc) : Prop := v = some (.int (own_wt p1)) ∧ Fr n0 L ∧ h = h0
theorem d1_0 : decode method_3_code 0 = .ok (.iload_n 0, 1) := by decide +kernel
theorem d1_1 : decode method_3_code 1 = .ok (.iconst 1, 1) := by decide +kernel
theorem d1_2 : decode method_3_code 2 = .ok (.iand, 1) := by decide +kernel
theorem d1_3 : decode method_3_code 3 = .ok (.ifCond .ne 7, 3) := by decide +kernel
theorem d1_6 : decode method_3_code 6 = .ok (.iconst 0, 1) := by decide +kernel
theorem d1_7 : decode method_3_code 7 = .ok (.goto 6, 3) := by decide +kernel
theorem d1_13 : decode method_3_code 13 = .ok (.ireturn, 1) := by decide +kernel
theorem pn_1 : plainName "com/example/steelyard/steelyard/CandidatesPositiveIndicesPinLaw" = true := by first | (simp [plainName, overriddenIn]; done) | decide +kernel
theorem ef_1 (m : MethodId) (x0 : Int32) : entryFrame m #[(.int x0)] 1 = mkF m 0 #[.val (.int x0)] [] := by first | (simp [entryFrame, mkF, argsToLocals, Value.category]; done) | rfl
set_option maxRecDepth 65536 in
set_option maxHeartbeats 40000000 in
theorem rmWa (l : Launch) (Z : State) (a0 : Array Value) (hw : ∀ d ∈ tables_1, d.before a0 Z = true) (ws : List Jvm.Cond) (p1 : Int32) (h0 : Heap) (n0 : Nat) (Z0 : n0 ≤ h0.size) (hc3 : (p1 &&& (1 : Int32)) = (0 : Int32)) :
    MetFree l (⟨"com/example/steelyard/steelyard/CandidatesPositiveIndicesPinLaw", "weightOf", "(I)I"⟩ : MethodName) (head1 (Jvm.Cond.code (⟨"com/example/steelyard/steelyard/CandidatesPositiveIndicesPinLaw", "weightOf", "(I)I"⟩ : MethodName) method_3_code 1 (some .int) :: ws) ({ frames := 0, cells := 0, slots := 0, locals := 0 } : Room)) (fun a U => a = #[(.int p1)] ∧ Z.Warmed39 U.vm ∧ U.heap = h0) (fun _ _ _ _ _ => True) (fun _ U o U' => ∃ v L, o = .returned v ∧ QW Z p1 h0 n0 v U'.heap L ∧ FrameEnd U o U' L ({ frames := 0, cells := 0, slots := 0, locals := 0 } : Room).cells ({ frames := 0, cells := 0, slots := 0, locals := 0 } : Room).slots) := by
  refine MetFree.of_bodySF (plainFor_of_name pn_1) hisR ?_
  intro p e s m args below meth c s₁ Bd hml0 hP hK
  obtain ⟨rfl, hZ, hh⟩ := hP
  have hx := Bd.exec
  have hby := Bd.bytes
  have hml : c.maxLocals = 1 := hml0
  have hown : s.vm.findClass "com/example/steelyard/steelyard/CandidatesPositiveIndicesPinLaw" = some m.cls := findClass_of_methodNamed Bd.named
  have hnm := (name_of_methodNamed Bd.named Bd.method).1
  have X0 : Stand p l e ({ frames := 0, cells := 0, slots := 0, locals := 0 } : Room) s m #[(.int p1)] below meth c s₁ [] 0 0 := Stand.of_body Bd
  have e0 : s₁.heap = h0 := by rw [← hh, Bd.state]; rfl
  have N0 := Fr.nil n0
  have pre0 : ∀ tz, Steps p.tables e below (s₁.setTop (mkF m 0 #[.val (.int p1)] [])) tz → Steps p.tables e below (s₁.setTop (entryFrame m #[(.int p1)] 1)) tz := fun tz kz => castTop (ef_1 m p1) kz
  obtain ⟨fs, hr, hrun, hended, hW, hsame⟩ := X0.leave (v := some (.int (0 : Int32))) (fun h => by rw [Bd.returns] at h; cases h)
  refine ⟨_, _, pre0 _ ?_, hrun, hended, _, _, rfl, ?_, ⟨_, rfl⟩, hW, hsame.mono (by decide) (by decide)⟩
  · show Steps p.tables e below (s₁.setTop (mkF m 0 #[.val (.int p1)] [])) _
    refine XS.iloadN X0.here hx rfl (hb hby d1_0) rfl ?_
    show Steps p.tables e below (s₁.setTop (mkF m 1 #[.val (.int p1)] [(.int p1)])) _
    refine XS.iconst X0.here hx rfl (hb hby d1_1) ?_
    show Steps p.tables e below (s₁.setTop (mkF m 2 #[.val (.int p1)] [(.int (1 : Int32)), (.int p1)])) _
    refine XS.iand X0.here hx rfl (hb hby d1_2) rfl ?_
    show Steps p.tables e below (s₁.setTop (mkF m 3 #[.val (.int p1)] [(.int (p1 &&& (1 : Int32)))])) _
    refine XS.ifNo X0.here hx rfl (hb hby d1_3) rfl ((if0 _ _).trans (teq (hc3 : (p1 &&& (1 : Int32)) = (0 : Int32))).2) ?_
    show Steps p.tables e below (s₁.setTop (mkF m 6 #[.val (.int p1)] [])) _
    refine XS.iconst X0.here hx rfl (hb hby d1_6) ?_
    show Steps p.tables e below (s₁.setTop (mkF m 7 #[.val (.int p1)] [(.int (0 : Int32))])) _
    refine XS.goto X0.here hx rfl (pc0 := 7) (pc' := 13) rfl (hb hby d1_7) (by decide) (by decide) ?_
    show Steps p.tables e below (s₁.setTop (mkF m 13 #[.val (.int p1)] [(.int (0 : Int32))])) _
    exact retI X0 hx Bd.returns (hb hby d1_13) hr
  · show QW Z p1 h0 n0 _ s₁.heap _
    rw [e0]
    exact ⟨congrArg (fun z => some (Value.int z)) (if_pos hc3).symm, N0, rfl⟩
theorem d1_10 : decode method_3_code 10 = .ok (.iload_n 0, 1) := by decide +kernel
theorem d1_11 : decode method_3_code 11 = .ok (.iconst 1, 1) := by decide +kernel
theorem d1_12 : decode method_3_code 12 = .ok (.iushr, 1) := by decide +kernel
set_option maxRecDepth 65536 in
set_option maxHeartbeats 40000000 in
theorem rmWb (l : Launch) (Z : State) (a0 : Array Value) (hw : ∀ d ∈ tables_1, d.before a0 Z = true) (ws : List Jvm.Cond) (p1 : Int32) (h0 : Heap) (n0 : Nat) (Z0 : n0 ≤ h0.size) (hc3 : ¬ ((p1 &&& (1 : Int32)) = (0 : Int32))) :
    MetFree l (⟨"com/example/steelyard/steelyard/CandidatesPositiveIndicesPinLaw", "weightOf", "(I)I"⟩ : MethodName) (head1 (Jvm.Cond.code (⟨"com/example/steelyard/steelyard/CandidatesPositiveIndicesPinLaw", "weightOf", "(I)I"⟩ : MethodName) method_3_code 1 (some .int) :: ws) ({ frames := 0, cells := 0, slots := 0, locals := 0 } : Room)) (fun a U => a = #[(.int p1)] ∧ Z.Warmed39 U.vm ∧ U.heap = h0) (fun _ _ _ _ _ => True) (fun _ U o U' => ∃ v L, o = .returned v ∧ QW Z p1 h0 n0 v U'.heap L ∧ FrameEnd U o U' L ({ frames := 0, cells := 0, slots := 0, locals := 0 } : Room).cells ({ frames := 0, cells := 0, slots := 0, locals := 0 } : Room).slots) := by
  refine MetFree.of_bodySF (plainFor_of_name pn_1) hisR ?_
  intro p e s m args below meth c s₁ Bd hml0 hP hK
  obtain ⟨rfl, hZ, hh⟩ := hP
  have hx := Bd.exec
  have hby := Bd.bytes
  have hml : c.maxLocals = 1 := hml0
  have hown : s.vm.findClass "com/example/steelyard/steelyard/CandidatesPositiveIndicesPinLaw" = some m.cls := findClass_of_methodNamed Bd.named
  have hnm := (name_of_methodNamed Bd.named Bd.method).1
  have X0 : Stand p l e ({ frames := 0, cells := 0, slots := 0, locals := 0 } : Room) s m #[(.int p1)] below meth c s₁ [] 0 0 := Stand.of_body Bd
  have e0 : s₁.heap = h0 := by rw [← hh, Bd.state]; rfl
  have N0 := Fr.nil n0
  have pre0 : ∀ tz, Steps p.tables e below (s₁.setTop (mkF m 0 #[.val (.int p1)] [])) tz → Steps p.tables e below (s₁.setTop (entryFrame m #[(.int p1)] 1)) tz := fun tz kz => castTop (ef_1 m p1) kz
  obtain ⟨fs, hr, hrun, hended, hW, hsame⟩ := X0.leave (v := some (.int ((p1.toUInt32 >>> ((1 : Int32) &&& 31).toUInt32).toInt32))) (fun h => by rw [Bd.returns] at h; cases h)
  refine ⟨_, _, pre0 _ ?_, hrun, hended, _, _, rfl, ?_, ⟨_, rfl⟩, hW, hsame.mono (by decide) (by decide)⟩
  · show Steps p.tables e below (s₁.setTop (mkF m 0 #[.val (.int p1)] [])) _
    refine XS.iloadN X0.here hx rfl (hb hby d1_0) rfl ?_
    show Steps p.tables e below (s₁.setTop (mkF m 1 #[.val (.int p1)] [(.int p1)])) _
    refine XS.iconst X0.here hx rfl (hb hby d1_1) ?_
    show Steps p.tables e below (s₁.setTop (mkF m 2 #[.val (.int p1)] [(.int (1 : Int32)), (.int p1)])) _
    refine XS.iand X0.here hx rfl (hb hby d1_2) rfl ?_
    show Steps p.tables e below (s₁.setTop (mkF m 3 #[.val (.int p1)] [(.int (p1 &&& (1 : Int32)))])) _
    refine XS.ifYes X0.here hx rfl (pc0 := 3) (pc' := 10) rfl (hb hby d1_3) rfl ((if0 _ _).trans (feq (hc3 : ¬ ((p1 &&& (1 : Int32)) = (0 : Int32)))).2) (by decide) (by decide) ?_
    show Steps p.tables e below (s₁.setTop (mkF m 10 #[.val (.int p1)] [])) _
    refine XS.iloadN X0.here hx rfl (hb hby d1_10) rfl ?_
    show Steps p.tables e below (s₁.setTop (mkF m 11 #[.val (.int p1)] [(.int p1)])) _
    refine XS.iconst X0.here hx rfl (hb hby d1_11) ?_
    show Steps p.tables e below (s₁.setTop (mkF m 12 #[.val (.int p1)] [(.int (1 : Int32)), (.int p1)])) _
    refine XS.iushr X0.here hx rfl (hb hby d1_12) rfl ?_
    show Steps p.tables e below (s₁.setTop (mkF m 13 #[.val (.int p1)] [(.int ((p1.toUInt32 >>> ((1 : Int32) &&& 31).toUInt32).toInt32))])) _
    exact retI X0 hx Bd.returns (hb hby d1_13) hr
  · show QW Z p1 h0 n0 _ s₁.heap _
    rw [e0]
    exact ⟨congrArg (fun z => some (Value.int z)) (if_neg hc3).symm, N0, rfl⟩
theorem rmW (l : Launch) (Z : State) (a0 : Array Value) (hw : ∀ d ∈ tables_1, d.before a0 Z = true) (ws : List Jvm.Cond) (p1 : Int32) (h0 : Heap) (n0 : Nat) (Z0 : n0 ≤ h0.size) : MetFree l (⟨"com/example/steelyard/steelyard/CandidatesPositiveIndicesPinLaw", "weightOf", "(I)I"⟩ : MethodName) (head1 (Jvm.Cond.code (⟨"com/example/steelyard/steelyard/CandidatesPositiveIndicesPinLaw", "weightOf", "(I)I"⟩ : MethodName) method_3_code 1 (some .int) :: ws) ({ frames := 0, cells := 0, slots := 0, locals := 0 } : Room)) (fun a U => a = #[(.int p1)] ∧ Z.Warmed39 U.vm ∧ U.heap = h0) (fun _ _ _ _ _ => True) (fun _ U o U' => ∃ v L, o = .returned v ∧ QW Z p1 h0 n0 v U'.heap L ∧ FrameEnd U o U' L ({ frames := 0, cells := 0, slots := 0, locals := 0 } : Room).cells ({ frames := 0, cells := 0, slots := 0, locals := 0 } : Room).slots) := by
  by_cases h : (p1 &&& (1 : Int32)) = (0 : Int32)
  · exact rmWa l Z a0 hw ws p1 h0 n0 Z0 h
  · exact rmWb l Z a0 hw ws p1 h0 n0 Z0 h
theorem d2_10 : decode prog_8_method_7_code 10 = .ok (.iload 4, 2) := by decide +kernel
theorem d2_12 : decode prog_8_method_7_code 12 = .ok (.iload_n 3, 1) := by decide +kernel
theorem d2_13 : decode prog_8_method_7_code 13 = .ok (.if_icmp .ge 23, 3) := by decide +kernel
theorem d2_16 : decode prog_8_method_7_code 16 = .ok (.aload_n 2, 1) := by decide +kernel
theorem d2_17 : decode prog_8_method_7_code 17 = .ok (.iload 4, 2) := by decide +kernel
theorem d2_19 : decode prog_8_method_7_code 19 = .ok (.iaload, 1) := by decide +kernel
theorem d2_20 : decode prog_8_method_7_code 20 = .ok (.istore 5, 2) := by decide +kernel
theorem d2_22 : decode prog_8_method_7_code 22 = .ok (.iload 5, 2) := by decide +kernel
theorem d2_24 : decode prog_8_method_7_code 24 = .ok (.ifCond .le 6, 3) := by decide +kernel
theorem d2_27 : decode prog_8_method_7_code 27 = .ok (.iinc 1 1, 3) := by decide +kernel
theorem d2_30 : decode prog_8_method_7_code 30 = .ok (.iinc 4 1, 3) := by decide +kernel
theorem d2_33 : decode prog_8_method_7_code 33 = .ok (.goto (-23), 3) := by decide +kernel
set_option maxRecDepth 65536 in
set_option maxHeartbeats 40000000 in
theorem tn1y {p : Program} {l : Launch} {e : Env} {R : Room} {s : State} {m : MethodId} {args : Array Value} {below : List Frame} {meth : Method} {c : Code} {T0 : State} {locs : List Loc} {cells slots : Nat} {Z : State} {a0 : Array Value} {h0 : Heap} {n0 : Nat} (a1 : Addr) (cnt nn i i' x : Int32) (s5 : Slot) (ka : ClassId) (xs : List Value) (X0 : Stand p l e R s m args below meth c T0 locs cells slots) (hx : p.tables.exec = Jvm.exec) (hZ : Z.Warmed39 s.vm) (hw : ∀ d ∈ tables_1, d.before a0 Z = true) (hby : c.code = prog_8_method_7_code) (hml : c.maxLocals = 6) (hown : s.vm.findClass "com/example/steelyard/steelyard/Candidates" = some m.cls) (e0 : T0.heap = h0) (N0 : Fr n0 locs) (Z0 : n0 ≤ h0.size) (V_a : Arv Z h0 a1 ka .int nn xs (.int (0 : Int32))) (hlt : i < nn) (hin : ¬ i < 0 ∧ i < nn) (hu : xs.getD i.toNatClampNeg (.int (0 : Int32)) = (.int x)) (hi' : (i + (1 : Int32)) = i') (hst : storeLocals #[.val (.ref a1), .val (.int cnt), .val (.ref a1), .val (.int nn), .val (.int i), s5] 5 (.int x) = some #[.val (.ref a1), .val (.int cnt), .val (.ref a1), .val (.int nn), .val (.int i), .val (.int x)]) (hq : (0 : Int32) < x) :
    ∀ target, Steps p.tables e below (T0.setTop (mkF m 10 #[.val (.ref a1), .val (.int (cnt + (1 : Int32))), .val (.ref a1), .val (.int nn), .val (.int i'), .val (.int x)] [])) target → Steps p.tables e below (T0.setTop (mkF m 10 #[.val (.ref a1), .val (.int cnt), .val (.ref a1), .val (.int nn), .val (.int i), s5] [])) target := by
  obtain ⟨cl1, Ar1, q1, S1, M1, H1, G1⟩ := id V_a
  have hin1 : ¬ (i < 0 ∨ cl1.slots.size ≤ (i).toNatClampNeg) := inb_of S1 hin
  have hat1 : cl1.slots[(i).toNatClampNeg]? = some (.int x) := Has.at H1 hin1 hu
  intro target kt
  show Steps p.tables e below (T0.setTop (mkF m 10 #[.val (.ref a1), .val (.int cnt), .val (.ref a1), .val (.int nn), .val (.int i), s5] [])) _
  refine XS.iload X0.here hx rfl (hb hby d2_10) rfl ?_
  show Steps p.tables e below (T0.setTop (mkF m 12 #[.val (.ref a1), .val (.int cnt), .val (.ref a1), .val (.int nn), .val (.int i), s5] [(.int i)])) _
  refine XS.iloadN X0.here hx rfl (hb hby d2_12) rfl ?_
  show Steps p.tables e below (T0.setTop (mkF m 13 #[.val (.ref a1), .val (.int cnt), .val (.ref a1), .val (.int nn), .val (.int i), s5] [(.int nn), (.int i)])) _
  refine XS.icmpNo X0.here hx rfl (hb hby d2_13) rfl (tlt (hlt : i < nn)).2.1 ?_
  show Steps p.tables e below (T0.setTop (mkF m 16 #[.val (.ref a1), .val (.int cnt), .val (.ref a1), .val (.int nn), .val (.int i), s5] [])) _
  refine XS.aloadN X0.here hx rfl (hb hby d2_16) rfl rfl ?_
  show Steps p.tables e below (T0.setTop (mkF m 17 #[.val (.ref a1), .val (.int cnt), .val (.ref a1), .val (.int nn), .val (.int i), s5] [(.ref a1)])) _
  refine XS.iload X0.here hx rfl (hb hby d2_17) rfl ?_
  show Steps p.tables e below (T0.setTop (mkF m 19 #[.val (.ref a1), .val (.int cnt), .val (.ref a1), .val (.int nn), .val (.int i), s5] [(.int i), (.ref a1)])) _
  refine X0.iaload hx (j := i) (v := (.int x)) (by rw [e0]; exact Ar1.1) (State.isArrayOf_alike hZ.alike Ar1.2.1) Ar1.2.2 hin1 hat1 (g := (mkF m 19 #[.val (.ref a1), .val (.int cnt), .val (.ref a1), .val (.int nn), .val (.int i), s5] [(.int i), (.ref a1)])) rfl rfl (hb hby d2_19) _ ?_
  show Steps p.tables e below (T0.setTop (mkF m 20 #[.val (.ref a1), .val (.int cnt), .val (.ref a1), .val (.int nn), .val (.int i), s5] [(.int x)])) _
  refine XS.istore X0.here hx rfl (hb hby d2_20) rfl (l' := #[.val (.ref a1), .val (.int cnt), .val (.ref a1), .val (.int nn), .val (.int i), .val (.int x)]) hst ?_
  show Steps p.tables e below (T0.setTop (mkF m 22 #[.val (.ref a1), .val (.int cnt), .val (.ref a1), .val (.int nn), .val (.int i), .val (.int x)] [])) _
  refine XS.iload X0.here hx rfl (hb hby d2_22) rfl ?_
  show Steps p.tables e below (T0.setTop (mkF m 24 #[.val (.ref a1), .val (.int cnt), .val (.ref a1), .val (.int nn), .val (.int i), .val (.int x)] [(.int x)])) _
  refine XS.ifNo X0.here hx rfl (hb hby d2_24) rfl ((if0 _ _).trans (tlt (hq : (0 : Int32) < x)).2.2.2) ?_
  show Steps p.tables e below (T0.setTop (mkF m 27 #[.val (.ref a1), .val (.int cnt), .val (.ref a1), .val (.int nn), .val (.int i), .val (.int x)] [])) _
  refine XS.iinc X0.here hx rfl (hb hby d2_27) rfl (l' := #[.val (.ref a1), .val (.int (cnt + (1 : Int32))), .val (.ref a1), .val (.int nn), .val (.int i), .val (.int x)]) rfl ?_
  show Steps p.tables e below (T0.setTop (mkF m 30 #[.val (.ref a1), .val (.int (cnt + (1 : Int32))), .val (.ref a1), .val (.int nn), .val (.int i), .val (.int x)] [])) _
  refine XS.iinc X0.here hx rfl (hb hby d2_30) rfl (l' := #[.val (.ref a1), .val (.int (cnt + (1 : Int32))), .val (.ref a1), .val (.int nn), .val (.int (i + (1 : Int32))), .val (.int x)]) rfl ?_
  show Steps p.tables e below (T0.setTop (mkF m 33 #[.val (.ref a1), .val (.int (cnt + (1 : Int32))), .val (.ref a1), .val (.int nn), .val (.int (i + (1 : Int32))), .val (.int x)] [])) _
  rw [hi']
  show Steps p.tables e below (T0.setTop (mkF m 33 #[.val (.ref a1), .val (.int (cnt + (1 : Int32))), .val (.ref a1), .val (.int nn), .val (.int i'), .val (.int x)] [])) _
  refine XS.goto X0.here hx rfl (pc0 := 33) (pc' := 10) rfl (hb hby d2_33) (by decide) (by decide) ?_
  show Steps p.tables e below (T0.setTop (mkF m 10 #[.val (.ref a1), .val (.int (cnt + (1 : Int32))), .val (.ref a1), .val (.int nn), .val (.int i'), .val (.int x)] [])) _
  exact kt
set_option maxRecDepth 65536 in
set_option maxHeartbeats 40000000 in
theorem tn1n {p : Program} {l : Launch} {e : Env} {R : Room} {s : State} {m : MethodId} {args : Array Value} {below : List Frame} {meth : Method} {c : Code} {T0 : State} {locs : List Loc} {cells slots : Nat} {Z : State} {a0 : Array Value} {h0 : Heap} {n0 : Nat} (a1 : Addr) (cnt nn i i' x : Int32) (s5 : Slot) (ka : ClassId) (xs : List Value) (X0 : Stand p l e R s m args below meth c T0 locs cells slots) (hx : p.tables.exec = Jvm.exec) (hZ : Z.Warmed39 s.vm) (hw : ∀ d ∈ tables_1, d.before a0 Z = true) (hby : c.code = prog_8_method_7_code) (hml : c.maxLocals = 6) (hown : s.vm.findClass "com/example/steelyard/steelyard/Candidates" = some m.cls) (e0 : T0.heap = h0) (N0 : Fr n0 locs) (Z0 : n0 ≤ h0.size) (V_a : Arv Z h0 a1 ka .int nn xs (.int (0 : Int32))) (hlt : i < nn) (hin : ¬ i < 0 ∧ i < nn) (hu : xs.getD i.toNatClampNeg (.int (0 : Int32)) = (.int x)) (hi' : (i + (1 : Int32)) = i') (hst : storeLocals #[.val (.ref a1), .val (.int cnt), .val (.ref a1), .val (.int nn), .val (.int i), s5] 5 (.int x) = some #[.val (.ref a1), .val (.int cnt), .val (.ref a1), .val (.int nn), .val (.int i), .val (.int x)]) (hq : ¬ ((0 : Int32) < x)) :
    ∀ target, Steps p.tables e below (T0.setTop (mkF m 10 #[.val (.ref a1), .val (.int cnt), .val (.ref a1), .val (.int nn), .val (.int i'), .val (.int x)] [])) target → Steps p.tables e below (T0.setTop (mkF m 10 #[.val (.ref a1), .val (.int cnt), .val (.ref a1), .val (.int nn), .val (.int i), s5] [])) target := by
  obtain ⟨cl1, Ar1, q1, S1, M1, H1, G1⟩ := id V_a
  have hin1 : ¬ (i < 0 ∨ cl1.slots.size ≤ (i).toNatClampNeg) := inb_of S1 hin
  have hat1 : cl1.slots[(i).toNatClampNeg]? = some (.int x) := Has.at H1 hin1 hu
  intro target kt
  show Steps p.tables e below (T0.setTop (mkF m 10 #[.val (.ref a1), .val (.int cnt), .val (.ref a1), .val (.int nn), .val (.int i), s5] [])) _
  refine XS.iload X0.here hx rfl (hb hby d2_10) rfl ?_
  show Steps p.tables e below (T0.setTop (mkF m 12 #[.val (.ref a1), .val (.int cnt), .val (.ref a1), .val (.int nn), .val (.int i), s5] [(.int i)])) _
  refine XS.iloadN X0.here hx rfl (hb hby d2_12) rfl ?_
  show Steps p.tables e below (T0.setTop (mkF m 13 #[.val (.ref a1), .val (.int cnt), .val (.ref a1), .val (.int nn), .val (.int i), s5] [(.int nn), (.int i)])) _
  refine XS.icmpNo X0.here hx rfl (hb hby d2_13) rfl (tlt (hlt : i < nn)).2.1 ?_
  show Steps p.tables e below (T0.setTop (mkF m 16 #[.val (.ref a1), .val (.int cnt), .val (.ref a1), .val (.int nn), .val (.int i), s5] [])) _
  refine XS.aloadN X0.here hx rfl (hb hby d2_16) rfl rfl ?_
  show Steps p.tables e below (T0.setTop (mkF m 17 #[.val (.ref a1), .val (.int cnt), .val (.ref a1), .val (.int nn), .val (.int i), s5] [(.ref a1)])) _
  refine XS.iload X0.here hx rfl (hb hby d2_17) rfl ?_
  show Steps p.tables e below (T0.setTop (mkF m 19 #[.val (.ref a1), .val (.int cnt), .val (.ref a1), .val (.int nn), .val (.int i), s5] [(.int i), (.ref a1)])) _
  refine X0.iaload hx (j := i) (v := (.int x)) (by rw [e0]; exact Ar1.1) (State.isArrayOf_alike hZ.alike Ar1.2.1) Ar1.2.2 hin1 hat1 (g := (mkF m 19 #[.val (.ref a1), .val (.int cnt), .val (.ref a1), .val (.int nn), .val (.int i), s5] [(.int i), (.ref a1)])) rfl rfl (hb hby d2_19) _ ?_
  show Steps p.tables e below (T0.setTop (mkF m 20 #[.val (.ref a1), .val (.int cnt), .val (.ref a1), .val (.int nn), .val (.int i), s5] [(.int x)])) _
  refine XS.istore X0.here hx rfl (hb hby d2_20) rfl (l' := #[.val (.ref a1), .val (.int cnt), .val (.ref a1), .val (.int nn), .val (.int i), .val (.int x)]) hst ?_
  show Steps p.tables e below (T0.setTop (mkF m 22 #[.val (.ref a1), .val (.int cnt), .val (.ref a1), .val (.int nn), .val (.int i), .val (.int x)] [])) _
  refine XS.iload X0.here hx rfl (hb hby d2_22) rfl ?_
  show Steps p.tables e below (T0.setTop (mkF m 24 #[.val (.ref a1), .val (.int cnt), .val (.ref a1), .val (.int nn), .val (.int i), .val (.int x)] [(.int x)])) _
  refine XS.ifYes X0.here hx rfl (pc0 := 24) (pc' := 30) rfl (hb hby d2_24) rfl ((if0 _ _).trans (flt (hq : ¬ ((0 : Int32) < x))).2.2.2) (by decide) (by decide) ?_
  show Steps p.tables e below (T0.setTop (mkF m 30 #[.val (.ref a1), .val (.int cnt), .val (.ref a1), .val (.int nn), .val (.int i), .val (.int x)] [])) _
  refine XS.iinc X0.here hx rfl (hb hby d2_30) rfl (l' := #[.val (.ref a1), .val (.int cnt), .val (.ref a1), .val (.int nn), .val (.int (i + (1 : Int32))), .val (.int x)]) rfl ?_
  show Steps p.tables e below (T0.setTop (mkF m 33 #[.val (.ref a1), .val (.int cnt), .val (.ref a1), .val (.int nn), .val (.int (i + (1 : Int32))), .val (.int x)] [])) _
  rw [hi']
  show Steps p.tables e below (T0.setTop (mkF m 33 #[.val (.ref a1), .val (.int cnt), .val (.ref a1), .val (.int nn), .val (.int i'), .val (.int x)] [])) _
  refine XS.goto X0.here hx rfl (pc0 := 33) (pc' := 10) rfl (hb hby d2_33) (by decide) (by decide) ?_
  show Steps p.tables e below (T0.setTop (mkF m 10 #[.val (.ref a1), .val (.int cnt), .val (.ref a1), .val (.int nn), .val (.int i'), .val (.int x)] [])) _
  exact kt
theorem tn1 {p : Program} {l : Launch} {e : Env} {R : Room} {s : State} {m : MethodId} {args : Array Value} {below : List Frame} {meth : Method} {c : Code} {T0 : State} {locs : List Loc} {cells slots : Nat} {Z : State} {a0 : Array Value} {h0 : Heap} {n0 : Nat} (a1 : Addr) (cnt nn i i' x : Int32) (s5 : Slot) (ka : ClassId) (xs : List Value) (X0 : Stand p l e R s m args below meth c T0 locs cells slots) (hx : p.tables.exec = Jvm.exec) (hZ : Z.Warmed39 s.vm) (hw : ∀ d ∈ tables_1, d.before a0 Z = true) (hby : c.code = prog_8_method_7_code) (hml : c.maxLocals = 6) (hown : s.vm.findClass "com/example/steelyard/steelyard/Candidates" = some m.cls) (e0 : T0.heap = h0) (N0 : Fr n0 locs) (Z0 : n0 ≤ h0.size) (V_a : Arv Z h0 a1 ka .int nn xs (.int (0 : Int32))) (hlt : i < nn) (hin : ¬ i < 0 ∧ i < nn) (hu : xs.getD i.toNatClampNeg (.int (0 : Int32)) = (.int x)) (hi' : (i + (1 : Int32)) = i') (hst : storeLocals #[.val (.ref a1), .val (.int cnt), .val (.ref a1), .val (.int nn), .val (.int i), s5] 5 (.int x) = some #[.val (.ref a1), .val (.int cnt), .val (.ref a1), .val (.int nn), .val (.int i), .val (.int x)]) :
    ∀ target, Steps p.tables e below (T0.setTop (mkF m 10 #[.val (.ref a1), .val (.int (cnt + own_b (decide ((0 : Int32) < x)))), .val (.ref a1), .val (.int nn), .val (.int i'), .val (.int x)] [])) target → Steps p.tables e below (T0.setTop (mkF m 10 #[.val (.ref a1), .val (.int cnt), .val (.ref a1), .val (.int nn), .val (.int i), s5] [])) target := by
  by_cases hq : (0 : Int32) < x
  · rw [decide_eq_true hq]; exact tn1y a1 cnt nn i i' x s5 ka xs X0 hx hZ hw hby hml hown e0 N0 Z0 V_a hlt hin hu hi' hst hq
  · rw [decide_eq_false hq, own_k0]; exact tn1n a1 cnt nn i i' x s5 ka xs X0 hx hZ hw hby hml hown e0 N0 Z0 V_a hlt hin hu hi' hst hq
theorem d2_45 : decode prog_8_method_7_code 45 = .ok (.iload 4, 2) := by decide +kernel
theorem d2_47 : decode prog_8_method_7_code 47 = .ok (.aload_n 0, 1) := by decide +kernel
theorem d2_48 : decode prog_8_method_7_code 48 = .ok (.arraylength, 1) := by decide +kernel
theorem d2_49 : decode prog_8_method_7_code 49 = .ok (.if_icmp .ge 24, 3) := by decide +kernel
theorem d2_52 : decode prog_8_method_7_code 52 = .ok (.aload_n 0, 1) := by decide +kernel
theorem d2_53 : decode prog_8_method_7_code 53 = .ok (.iload 4, 2) := by decide +kernel
theorem d2_55 : decode prog_8_method_7_code 55 = .ok (.iaload, 1) := by decide +kernel
theorem d2_56 : decode prog_8_method_7_code 56 = .ok (.ifCond .le 11, 3) := by decide +kernel
theorem d2_59 : decode prog_8_method_7_code 59 = .ok (.aload_n 2, 1) := by decide +kernel
theorem d2_60 : decode prog_8_method_7_code 60 = .ok (.iload_n 3, 1) := by decide +kernel
theorem d2_61 : decode prog_8_method_7_code 61 = .ok (.iinc 3 1, 3) := by decide +kernel
theorem d2_64 : decode prog_8_method_7_code 64 = .ok (.iload 4, 2) := by decide +kernel
theorem d2_66 : decode prog_8_method_7_code 66 = .ok (.iastore, 1) := by decide +kernel
theorem d2_67 : decode prog_8_method_7_code 67 = .ok (.iinc 4 1, 3) := by decide +kernel
theorem d2_70 : decode prog_8_method_7_code 70 = .ok (.goto (-25), 3) := by decide +kernel
set_option maxRecDepth 65536 in
set_option maxHeartbeats 40000000 in
theorem tn2y {p : Program} {l : Launch} {e : Env} {R : Room} {s : State} {m : MethodId} {args : Array Value} {below : List Frame} {meth : Method} {c : Code} {T0 : State} {locs : List Loc} {cells slots : Nat} {Z : State} {a0 : Array Value} {h0 : Heap} {n0 : Nat} (a1 r : Addr) (cnt nn k i i' x x5 : Int32) (ka kr : ClassId) (xs vs : List Value) (X0 : Stand p l e R s m args below meth c T0 locs cells slots) (hx : p.tables.exec = Jvm.exec) (hZ : Z.Warmed39 s.vm) (hw : ∀ d ∈ tables_1, d.before a0 Z = true) (hby : c.code = prog_8_method_7_code) (hml : c.maxLocals = 6) (hown : s.vm.findClass "com/example/steelyard/steelyard/Candidates" = some m.cls) (e0 : T0.heap = h0) (N0 : Fr n0 locs) (Z0 : n0 ≤ h0.size) (V_a : Arv Z h0 a1 ka .int nn xs (.int (0 : Int32))) (V_r : Arv Z h0 r kr .int cnt vs (.int (0 : Int32))) (ne_ar : a1 ≠ r) (g_r : n0 ≤ r) (hlt : i < nn) (hin : ¬ i < 0 ∧ i < nn) (hu : xs.getD i.toNatClampNeg (.int (0 : Int32)) = (.int x)) (hi' : (i + (1 : Int32)) = i') (hk : (0 : Int32) < x → ¬ k < 0 ∧ k < cnt) (hl : k.toNatClampNeg < vs.length) (hq : (0 : Int32) < x) :
    ∃ (T' : State) (h' : Heap) (locs' : List Loc), Stand p l e R s m args below meth c T' locs' cells slots ∧ T'.heap = h' ∧ Fr n0 locs' ∧ n0 ≤ h'.size ∧ Keep h0 h' [r] ∧ Arv Z h' a1 ka .int nn xs (.int (0 : Int32)) ∧ Arv Z h' r kr .int cnt (vs.set k.toNatClampNeg (.int i)) (.int (0 : Int32)) ∧
      ∀ target, Steps p.tables e below (T'.setTop (mkF m 45 #[.val (.ref a1), .val (.int cnt), .val (.ref r), .val (.int (k + (1 : Int32))), .val (.int i'), .val (.int x5)] [])) target → Steps p.tables e below (T0.setTop (mkF m 45 #[.val (.ref a1), .val (.int cnt), .val (.ref r), .val (.int k), .val (.int i), .val (.int x5)] [])) target := by
  obtain ⟨cl1, Ar1, q1, S1, M1, H1, G1⟩ := id V_a
  obtain ⟨cl2, Ar2, q2, S2, M2, H2, G2⟩ := id V_a
  have hin2 : ¬ (i < 0 ∨ cl2.slots.size ≤ (i).toNatClampNeg) := inb_of S2 hin
  have hat2 : cl2.slots[(i).toNatClampNeg]? = some (.int x) := Has.at H2 hin2 hu
  obtain ⟨cl3, Ar3, q3, S3, M3, H3, G3⟩ := id V_r
  have hin4 : ¬ (k < 0 ∨ cl3.slots.size ≤ (k).toNatClampNeg) := inb_of S3 (hk hq)
  obtain ⟨T4, h4, X4, e4, W4, st4⟩ := stI X0 hx hZ e0 Ar3 (j := k) hin4 (g := (mkF m 66 #[.val (.ref a1), .val (.int cnt), .val (.ref r), .val (.int (k + (1 : Int32))), .val (.int i), .val (.int x5)] [(.int i), (.int k), (.ref r)])) rfl rfl (hb hby d2_66)
  have V4 := Arv.set Ar3 q3 S3 M3 H3 G3 rfl W4 k.toNatClampNeg rfl hl
  have V_a1_4 := V_a.other W4 ne_ar
  have Z4 : n0 ≤ h4.size := Nat.le_trans Z0 (Keep.of_wr W4).1
  have KC4 : Keep h0 h4 [r] := (Keep.refl h0 [r]).wr W4 (Or.inl (List.mem_of_getElem? (i := 0) rfl))
  have N4 := Fr.snoc X4 N0 g_r
  refine ⟨T4, _, _, X4, e4, N4, Z4, KC4, V_a1_4, V4, fun target kt => ?_⟩
  show Steps p.tables e below (T0.setTop (mkF m 45 #[.val (.ref a1), .val (.int cnt), .val (.ref r), .val (.int k), .val (.int i), .val (.int x5)] [])) _
  refine XS.iload X0.here hx rfl (hb hby d2_45) rfl ?_
  show Steps p.tables e below (T0.setTop (mkF m 47 #[.val (.ref a1), .val (.int cnt), .val (.ref r), .val (.int k), .val (.int i), .val (.int x5)] [(.int i)])) _
  refine XS.aloadN X0.here hx rfl (hb hby d2_47) rfl rfl ?_
  show Steps p.tables e below (T0.setTop (mkF m 48 #[.val (.ref a1), .val (.int cnt), .val (.ref r), .val (.int k), .val (.int i), .val (.int x5)] [(.ref a1), (.int i)])) _
  refine X0.arraylength hx (by rw [e0]; exact Ar1.1) (State.isArrayOf_alike hZ.alike Ar1.2.1) (g := (mkF m 48 #[.val (.ref a1), .val (.int cnt), .val (.ref r), .val (.int k), .val (.int i), .val (.int x5)] [(.ref a1), (.int i)])) rfl rfl (hb hby d2_48) _ ?_
  rw [len_of S1 M1]
  show Steps p.tables e below (T0.setTop (mkF m 49 #[.val (.ref a1), .val (.int cnt), .val (.ref r), .val (.int k), .val (.int i), .val (.int x5)] [(.int nn), (.int i)])) _
  refine XS.icmpNo X0.here hx rfl (hb hby d2_49) rfl (tlt (hlt : i < nn)).2.1 ?_
  show Steps p.tables e below (T0.setTop (mkF m 52 #[.val (.ref a1), .val (.int cnt), .val (.ref r), .val (.int k), .val (.int i), .val (.int x5)] [])) _
  refine XS.aloadN X0.here hx rfl (hb hby d2_52) rfl rfl ?_
  show Steps p.tables e below (T0.setTop (mkF m 53 #[.val (.ref a1), .val (.int cnt), .val (.ref r), .val (.int k), .val (.int i), .val (.int x5)] [(.ref a1)])) _
  refine XS.iload X0.here hx rfl (hb hby d2_53) rfl ?_
  show Steps p.tables e below (T0.setTop (mkF m 55 #[.val (.ref a1), .val (.int cnt), .val (.ref r), .val (.int k), .val (.int i), .val (.int x5)] [(.int i), (.ref a1)])) _
  refine X0.iaload hx (j := i) (v := (.int x)) (by rw [e0]; exact Ar2.1) (State.isArrayOf_alike hZ.alike Ar2.2.1) Ar2.2.2 hin2 hat2 (g := (mkF m 55 #[.val (.ref a1), .val (.int cnt), .val (.ref r), .val (.int k), .val (.int i), .val (.int x5)] [(.int i), (.ref a1)])) rfl rfl (hb hby d2_55) _ ?_
  show Steps p.tables e below (T0.setTop (mkF m 56 #[.val (.ref a1), .val (.int cnt), .val (.ref r), .val (.int k), .val (.int i), .val (.int x5)] [(.int x)])) _
  refine XS.ifNo X0.here hx rfl (hb hby d2_56) rfl ((if0 _ _).trans (tlt (hq : (0 : Int32) < x)).2.2.2) ?_
  show Steps p.tables e below (T0.setTop (mkF m 59 #[.val (.ref a1), .val (.int cnt), .val (.ref r), .val (.int k), .val (.int i), .val (.int x5)] [])) _
  refine XS.aloadN X0.here hx rfl (hb hby d2_59) rfl rfl ?_
  show Steps p.tables e below (T0.setTop (mkF m 60 #[.val (.ref a1), .val (.int cnt), .val (.ref r), .val (.int k), .val (.int i), .val (.int x5)] [(.ref r)])) _
  refine XS.iloadN X0.here hx rfl (hb hby d2_60) rfl ?_
  show Steps p.tables e below (T0.setTop (mkF m 61 #[.val (.ref a1), .val (.int cnt), .val (.ref r), .val (.int k), .val (.int i), .val (.int x5)] [(.int k), (.ref r)])) _
  refine XS.iinc X0.here hx rfl (hb hby d2_61) rfl (l' := #[.val (.ref a1), .val (.int cnt), .val (.ref r), .val (.int (k + (1 : Int32))), .val (.int i), .val (.int x5)]) rfl ?_
  show Steps p.tables e below (T0.setTop (mkF m 64 #[.val (.ref a1), .val (.int cnt), .val (.ref r), .val (.int (k + (1 : Int32))), .val (.int i), .val (.int x5)] [(.int k), (.ref r)])) _
  refine XS.iload X0.here hx rfl (hb hby d2_64) rfl ?_
  show Steps p.tables e below (T0.setTop (mkF m 66 #[.val (.ref a1), .val (.int cnt), .val (.ref r), .val (.int (k + (1 : Int32))), .val (.int i), .val (.int x5)] [(.int i), (.int k), (.ref r)])) _
  refine st4 _ ?_
  show Steps p.tables e below (T4.setTop (mkF m 67 #[.val (.ref a1), .val (.int cnt), .val (.ref r), .val (.int (k + (1 : Int32))), .val (.int i), .val (.int x5)] [])) _
  refine XS.iinc X4.here hx rfl (hb hby d2_67) rfl (l' := #[.val (.ref a1), .val (.int cnt), .val (.ref r), .val (.int (k + (1 : Int32))), .val (.int (i + (1 : Int32))), .val (.int x5)]) rfl ?_
  show Steps p.tables e below (T4.setTop (mkF m 70 #[.val (.ref a1), .val (.int cnt), .val (.ref r), .val (.int (k + (1 : Int32))), .val (.int (i + (1 : Int32))), .val (.int x5)] [])) _
  rw [hi']
  show Steps p.tables e below (T4.setTop (mkF m 70 #[.val (.ref a1), .val (.int cnt), .val (.ref r), .val (.int (k + (1 : Int32))), .val (.int i'), .val (.int x5)] [])) _
  refine XS.goto X4.here hx rfl (pc0 := 70) (pc' := 45) rfl (hb hby d2_70) (by decide) (by decide) ?_
  show Steps p.tables e below (T4.setTop (mkF m 45 #[.val (.ref a1), .val (.int cnt), .val (.ref r), .val (.int (k + (1 : Int32))), .val (.int i'), .val (.int x5)] [])) _
  exact kt
set_option maxRecDepth 65536 in
set_option maxHeartbeats 40000000 in
theorem tn2n {p : Program} {l : Launch} {e : Env} {R : Room} {s : State} {m : MethodId} {args : Array Value} {below : List Frame} {meth : Method} {c : Code} {T0 : State} {locs : List Loc} {cells slots : Nat} {Z : State} {a0 : Array Value} {h0 : Heap} {n0 : Nat} (a1 r : Addr) (cnt nn k i i' x x5 : Int32) (ka kr : ClassId) (xs vs : List Value) (X0 : Stand p l e R s m args below meth c T0 locs cells slots) (hx : p.tables.exec = Jvm.exec) (hZ : Z.Warmed39 s.vm) (hw : ∀ d ∈ tables_1, d.before a0 Z = true) (hby : c.code = prog_8_method_7_code) (hml : c.maxLocals = 6) (hown : s.vm.findClass "com/example/steelyard/steelyard/Candidates" = some m.cls) (e0 : T0.heap = h0) (N0 : Fr n0 locs) (Z0 : n0 ≤ h0.size) (V_a : Arv Z h0 a1 ka .int nn xs (.int (0 : Int32))) (V_r : Arv Z h0 r kr .int cnt vs (.int (0 : Int32))) (ne_ar : a1 ≠ r) (g_r : n0 ≤ r) (hlt : i < nn) (hin : ¬ i < 0 ∧ i < nn) (hu : xs.getD i.toNatClampNeg (.int (0 : Int32)) = (.int x)) (hi' : (i + (1 : Int32)) = i') (hk : (0 : Int32) < x → ¬ k < 0 ∧ k < cnt) (hl : k.toNatClampNeg < vs.length) (hq : ¬ ((0 : Int32) < x)) :
    ∃ (T' : State) (h' : Heap) (locs' : List Loc), Stand p l e R s m args below meth c T' locs' cells slots ∧ T'.heap = h' ∧ Fr n0 locs' ∧ n0 ≤ h'.size ∧ Keep h0 h' [r] ∧ Arv Z h' a1 ka .int nn xs (.int (0 : Int32)) ∧ Arv Z h' r kr .int cnt vs (.int (0 : Int32)) ∧
      ∀ target, Steps p.tables e below (T'.setTop (mkF m 45 #[.val (.ref a1), .val (.int cnt), .val (.ref r), .val (.int k), .val (.int i'), .val (.int x5)] [])) target → Steps p.tables e below (T0.setTop (mkF m 45 #[.val (.ref a1), .val (.int cnt), .val (.ref r), .val (.int k), .val (.int i), .val (.int x5)] [])) target := by
  obtain ⟨cl1, Ar1, q1, S1, M1, H1, G1⟩ := id V_a
  obtain ⟨cl2, Ar2, q2, S2, M2, H2, G2⟩ := id V_a
  have hin2 : ¬ (i < 0 ∨ cl2.slots.size ≤ (i).toNatClampNeg) := inb_of S2 hin
  have hat2 : cl2.slots[(i).toNatClampNeg]? = some (.int x) := Has.at H2 hin2 hu
  refine ⟨T0, _, _, X0, e0, N0, Z0, (Keep.refl h0 [r]), V_a, V_r, fun target kt => ?_⟩
  show Steps p.tables e below (T0.setTop (mkF m 45 #[.val (.ref a1), .val (.int cnt), .val (.ref r), .val (.int k), .val (.int i), .val (.int x5)] [])) _
  refine XS.iload X0.here hx rfl (hb hby d2_45) rfl ?_
  show Steps p.tables e below (T0.setTop (mkF m 47 #[.val (.ref a1), .val (.int cnt), .val (.ref r), .val (.int k), .val (.int i), .val (.int x5)] [(.int i)])) _
  refine XS.aloadN X0.here hx rfl (hb hby d2_47) rfl rfl ?_
  show Steps p.tables e below (T0.setTop (mkF m 48 #[.val (.ref a1), .val (.int cnt), .val (.ref r), .val (.int k), .val (.int i), .val (.int x5)] [(.ref a1), (.int i)])) _
  refine X0.arraylength hx (by rw [e0]; exact Ar1.1) (State.isArrayOf_alike hZ.alike Ar1.2.1) (g := (mkF m 48 #[.val (.ref a1), .val (.int cnt), .val (.ref r), .val (.int k), .val (.int i), .val (.int x5)] [(.ref a1), (.int i)])) rfl rfl (hb hby d2_48) _ ?_
  rw [len_of S1 M1]
  show Steps p.tables e below (T0.setTop (mkF m 49 #[.val (.ref a1), .val (.int cnt), .val (.ref r), .val (.int k), .val (.int i), .val (.int x5)] [(.int nn), (.int i)])) _
  refine XS.icmpNo X0.here hx rfl (hb hby d2_49) rfl (tlt (hlt : i < nn)).2.1 ?_
  show Steps p.tables e below (T0.setTop (mkF m 52 #[.val (.ref a1), .val (.int cnt), .val (.ref r), .val (.int k), .val (.int i), .val (.int x5)] [])) _
  refine XS.aloadN X0.here hx rfl (hb hby d2_52) rfl rfl ?_
  show Steps p.tables e below (T0.setTop (mkF m 53 #[.val (.ref a1), .val (.int cnt), .val (.ref r), .val (.int k), .val (.int i), .val (.int x5)] [(.ref a1)])) _
  refine XS.iload X0.here hx rfl (hb hby d2_53) rfl ?_
  show Steps p.tables e below (T0.setTop (mkF m 55 #[.val (.ref a1), .val (.int cnt), .val (.ref r), .val (.int k), .val (.int i), .val (.int x5)] [(.int i), (.ref a1)])) _
  refine X0.iaload hx (j := i) (v := (.int x)) (by rw [e0]; exact Ar2.1) (State.isArrayOf_alike hZ.alike Ar2.2.1) Ar2.2.2 hin2 hat2 (g := (mkF m 55 #[.val (.ref a1), .val (.int cnt), .val (.ref r), .val (.int k), .val (.int i), .val (.int x5)] [(.int i), (.ref a1)])) rfl rfl (hb hby d2_55) _ ?_
  show Steps p.tables e below (T0.setTop (mkF m 56 #[.val (.ref a1), .val (.int cnt), .val (.ref r), .val (.int k), .val (.int i), .val (.int x5)] [(.int x)])) _
  refine XS.ifYes X0.here hx rfl (pc0 := 56) (pc' := 67) rfl (hb hby d2_56) rfl ((if0 _ _).trans (flt (hq : ¬ ((0 : Int32) < x))).2.2.2) (by decide) (by decide) ?_
  show Steps p.tables e below (T0.setTop (mkF m 67 #[.val (.ref a1), .val (.int cnt), .val (.ref r), .val (.int k), .val (.int i), .val (.int x5)] [])) _
  refine XS.iinc X0.here hx rfl (hb hby d2_67) rfl (l' := #[.val (.ref a1), .val (.int cnt), .val (.ref r), .val (.int k), .val (.int (i + (1 : Int32))), .val (.int x5)]) rfl ?_
  show Steps p.tables e below (T0.setTop (mkF m 70 #[.val (.ref a1), .val (.int cnt), .val (.ref r), .val (.int k), .val (.int (i + (1 : Int32))), .val (.int x5)] [])) _
  rw [hi']
  show Steps p.tables e below (T0.setTop (mkF m 70 #[.val (.ref a1), .val (.int cnt), .val (.ref r), .val (.int k), .val (.int i'), .val (.int x5)] [])) _
  refine XS.goto X0.here hx rfl (pc0 := 70) (pc' := 45) rfl (hb hby d2_70) (by decide) (by decide) ?_
  show Steps p.tables e below (T0.setTop (mkF m 45 #[.val (.ref a1), .val (.int cnt), .val (.ref r), .val (.int k), .val (.int i'), .val (.int x5)] [])) _
  exact kt
theorem tn2 {p : Program} {l : Launch} {e : Env} {R : Room} {s : State} {m : MethodId} {args : Array Value} {below : List Frame} {meth : Method} {c : Code} {T0 : State} {locs : List Loc} {cells slots : Nat} {Z : State} {a0 : Array Value} {h0 : Heap} {n0 : Nat} (a1 r : Addr) (cnt nn k i i' x x5 : Int32) (ka kr : ClassId) (xs vs : List Value) (X0 : Stand p l e R s m args below meth c T0 locs cells slots) (hx : p.tables.exec = Jvm.exec) (hZ : Z.Warmed39 s.vm) (hw : ∀ d ∈ tables_1, d.before a0 Z = true) (hby : c.code = prog_8_method_7_code) (hml : c.maxLocals = 6) (hown : s.vm.findClass "com/example/steelyard/steelyard/Candidates" = some m.cls) (e0 : T0.heap = h0) (N0 : Fr n0 locs) (Z0 : n0 ≤ h0.size) (V_a : Arv Z h0 a1 ka .int nn xs (.int (0 : Int32))) (V_r : Arv Z h0 r kr .int cnt vs (.int (0 : Int32))) (ne_ar : a1 ≠ r) (g_r : n0 ≤ r) (hlt : i < nn) (hin : ¬ i < 0 ∧ i < nn) (hu : xs.getD i.toNatClampNeg (.int (0 : Int32)) = (.int x)) (hi' : (i + (1 : Int32)) = i') (hk : (0 : Int32) < x → ¬ k < 0 ∧ k < cnt) (hl : k.toNatClampNeg < vs.length) :
    ∃ (T' : State) (h' : Heap) (locs' : List Loc), Stand p l e R s m args below meth c T' locs' cells slots ∧ T'.heap = h' ∧ Fr n0 locs' ∧ n0 ≤ h'.size ∧ Keep h0 h' [r] ∧ Arv Z h' a1 ka .int nn xs (.int (0 : Int32)) ∧ Arv Z h' r kr .int cnt (own_set (decide ((0 : Int32) < x)) vs k i) (.int (0 : Int32)) ∧
      ∀ target, Steps p.tables e below (T'.setTop (mkF m 45 #[.val (.ref a1), .val (.int cnt), .val (.ref r), .val (.int (k + own_b (decide ((0 : Int32) < x)))), .val (.int i'), .val (.int x5)] [])) target → Steps p.tables e below (T0.setTop (mkF m 45 #[.val (.ref a1), .val (.int cnt), .val (.ref r), .val (.int k), .val (.int i), .val (.int x5)] [])) target := by
  by_cases hq : (0 : Int32) < x
  · rw [decide_eq_true hq]; exact tn2y a1 r cnt nn k i i' x x5 ka kr xs vs X0 hx hZ hw hby hml hown e0 N0 Z0 V_a V_r ne_ar g_r hlt hin hu hi' hk hl hq
  · rw [decide_eq_false hq, own_k0]; exact tn2n a1 r cnt nn k i i' x x5 ka kr xs vs X0 hx hZ hw hby hml hown e0 N0 Z0 V_a V_r ne_ar g_r hlt hin hu hi' hk hl hq
def QP (Z : State) (a1 : Addr) (cn : Int32) (rs : List Value) (h0 : Heap) (n0 : Nat) (v : Option Value) (h : Heap) (L : List Loc) : Prop := v = some (.ref h0.size) ∧ Fr n0 L ∧ Keep h0 h [] ∧ ∃ k, Arv Z h h0.size k .int cn rs (.int (0 : Int32))
theorem d2_0 : decode prog_8_method_7_code 0 = .ok (.iconst 0, 1) := by decide +kernel
theorem d2_1 : decode prog_8_method_7_code 1 = .ok (.istore_n 1, 1) := by decide +kernel
theorem d2_2 : decode prog_8_method_7_code 2 = .ok (.aload_n 0, 1) := by decide +kernel
theorem d2_3 : decode prog_8_method_7_code 3 = .ok (.astore_n 2, 1) := by decide +kernel
theorem d2_4 : decode prog_8_method_7_code 4 = .ok (.aload_n 2, 1) := by decide +kernel
theorem d2_5 : decode prog_8_method_7_code 5 = .ok (.arraylength, 1) := by decide +kernel
theorem d2_6 : decode prog_8_method_7_code 6 = .ok (.istore_n 3, 1) := by decide +kernel
theorem d2_7 : decode prog_8_method_7_code 7 = .ok (.iconst 0, 1) := by decide +kernel
theorem d2_8 : decode prog_8_method_7_code 8 = .ok (.istore 4, 2) := by decide +kernel
theorem d2_36 : decode prog_8_method_7_code 36 = .ok (.iload_n 1, 1) := by decide +kernel
theorem d2_37 : decode prog_8_method_7_code 37 = .ok (.newarray .int, 2) := by decide +kernel
theorem d2_39 : decode prog_8_method_7_code 39 = .ok (.astore_n 2, 1) := by decide +kernel
theorem d2_40 : decode prog_8_method_7_code 40 = .ok (.iconst 0, 1) := by decide +kernel
theorem d2_41 : decode prog_8_method_7_code 41 = .ok (.istore_n 3, 1) := by decide +kernel
theorem d2_42 : decode prog_8_method_7_code 42 = .ok (.iconst 0, 1) := by decide +kernel
theorem d2_43 : decode prog_8_method_7_code 43 = .ok (.istore 4, 2) := by decide +kernel
theorem d2_73 : decode prog_8_method_7_code 73 = .ok (.aload_n 2, 1) := by decide +kernel
theorem d2_74 : decode prog_8_method_7_code 74 = .ok (.areturn, 1) := by decide +kernel
theorem pn_2 : plainName "com/example/steelyard/steelyard/Candidates" = true := by first | (simp [plainName, overriddenIn]; done) | decide +kernel
theorem ef_2 (m : MethodId) (x0 : Addr) : entryFrame m #[(.ref x0)] 6 = mkF m 0 #[.val (.ref x0), .unset, .unset, .unset, .unset, .unset] [] := by first | (simp [entryFrame, mkF, argsToLocals, Value.category]; done) | rfl
set_option maxRecDepth 65536 in
set_option maxHeartbeats 40000000 in
theorem rmP0 (l : Launch) (Z : State) (a0 : Array Value) (hw : ∀ d ∈ tables_1, d.before a0 Z = true) (ws : List Jvm.Cond) (a1 : Addr) (ka : ClassId) (h0 : Heap) (n0 : Nat) (Z0 : n0 ≤ h0.size) (V_a : Arv Z h0 a1 ka .int (0 : Int32) [] (.int (0 : Int32))) :
    MetFree l (⟨"com/example/steelyard/steelyard/Candidates", "positiveIndices", "([I)[I"⟩ : MethodName) (head1 (Jvm.Cond.code (⟨"com/example/steelyard/steelyard/Candidates", "positiveIndices", "([I)[I"⟩ : MethodName) prog_8_method_7_code 6 (some (.array .int)) :: ws) ({ frames := 0, cells := 1, slots := 0, locals := 0 } : Room)) (fun a U => a = #[(.ref a1)] ∧ Z.Warmed39 U.vm ∧ U.heap = h0) (fun _ _ _ _ _ => True) (fun _ U o U' => ∃ v L, o = .returned v ∧ QP Z a1 (0 : Int32) [(.int (0 : Int32)), (.int (0 : Int32)), (.int (0 : Int32)), (.int (0 : Int32))] h0 n0 v U'.heap L ∧ FrameEnd U o U' L ({ frames := 0, cells := 1, slots := 0, locals := 0 } : Room).cells ({ frames := 0, cells := 1, slots := 0, locals := 0 } : Room).slots) := by
  refine MetFree.of_bodySF (plainFor_of_name pn_2) hisR ?_
  intro p e s m args below meth c s₁ Bd hml0 hP hK
  obtain ⟨rfl, hZ, hh⟩ := hP
  have hx := Bd.exec
  have hby := Bd.bytes
  have hml : c.maxLocals = 6 := hml0
  have hown : s.vm.findClass "com/example/steelyard/steelyard/Candidates" = some m.cls := findClass_of_methodNamed Bd.named
  have hnm := (name_of_methodNamed Bd.named Bd.method).1
  have X0 : Stand p l e ({ frames := 0, cells := 1, slots := 0, locals := 0 } : Room) s m #[(.ref a1)] below meth c s₁ [] 0 0 := Stand.of_body Bd
  have e0 : s₁.heap = h0 := by rw [← hh, Bd.state]; rfl
  have N0 := Fr.nil n0
  have pre0 : ∀ tz, Steps p.tables e below (s₁.setTop (mkF m 0 #[.val (.ref a1), .unset, .unset, .unset, .unset, .unset] [])) tz → Steps p.tables e below (s₁.setTop (entryFrame m #[(.ref a1)] 6)) tz := fun tz kz => castTop (ef_2 m a1) kz
  obtain ⟨cl1, Ar1, q1, S1, M1, H1, G1⟩ := id V_a
  obtain ⟨T2, h2, k2, X2, e2, E2, A2, st2⟩ := newP X0 hx hZ (hw _ (List.mem_of_getElem? (i := 4) rfl)) e0 (g := (mkF m 37 #[.val (.ref a1), .val (.int (0 : Int32)), .val (.ref a1), .val (.int (0 : Int32)), .val (.int (0 : Int32)), .unset] [(.int (0 : Int32))])) rfl (hb hby d2_37) rfl (by decide) (cap := 0) (by decide) (by decide) (by decide) (by decide)
  obtain ⟨b2, g2⟩ : ∃ z, z = h0.size := ⟨_, rfl⟩
  rw [← g2] at A2 st2
  have gb2 : n0 ≤ b2 := Nat.le_trans Z0 (Nat.le_of_eq g2.symm)
  have sz2 : h0.size ≤ b2 := Nat.le_trans (Keep.refl h0 []).1 (Nat.le_of_eq g2.symm)
  have ne_a1_b2 : a1 ≠ b2 := (Nat.ne_of_lt (Nat.lt_of_lt_of_le V_a.lt (Nat.le_of_eq g2.symm)))
  have V_a1_2 := V_a.ext E2
  have Z2 : n0 ≤ h2.size := Nat.le_trans Z0 E2.1
  have KC2 : Keep h0 h2 [] := (Keep.refl h0 []).ext E2
  have V2 : Arv Z h2 b2 k2 .int (0 : Int32) [] (.int (0 : Int32)) := Arv.new A2 (by decide)
  have V4b2 : Arv Z h2 b2 k2 .int (0 : Int32) [(.int (0 : Int32)), (.int (0 : Int32)), (.int (0 : Int32)), (.int (0 : Int32))] (.int (0 : Int32)) := V2.pad (pad_rep [] (.int (0 : Int32)) 4)
  obtain ⟨cl3, Ar3, q3, S3, M3, H3, G3⟩ := id V_a1_2
  obtain ⟨fs, hr, hrun, hended, hW, hsame⟩ := X2.leave (v := some (.ref b2)) (fun h => by rw [Bd.returns] at h; cases h)
  refine ⟨_, _, pre0 _ ?_, hrun, hended, _, _, rfl, ?_, ⟨_, rfl⟩, hW, hsame.mono (by decide) (by decide)⟩
  · show Steps p.tables e below (s₁.setTop (mkF m 0 #[.val (.ref a1), .unset, .unset, .unset, .unset, .unset] [])) _
    refine XS.iconst X0.here hx rfl (hb hby d2_0) ?_
    show Steps p.tables e below (s₁.setTop (mkF m 1 #[.val (.ref a1), .unset, .unset, .unset, .unset, .unset] [(.int (0 : Int32))])) _
    refine XS.istoreN X0.here hx rfl (hb hby d2_1) rfl (l' := #[.val (.ref a1), .val (.int (0 : Int32)), .unset, .unset, .unset, .unset]) rfl ?_
    show Steps p.tables e below (s₁.setTop (mkF m 2 #[.val (.ref a1), .val (.int (0 : Int32)), .unset, .unset, .unset, .unset] [])) _
    refine XS.aloadN X0.here hx rfl (hb hby d2_2) rfl rfl ?_
    show Steps p.tables e below (s₁.setTop (mkF m 3 #[.val (.ref a1), .val (.int (0 : Int32)), .unset, .unset, .unset, .unset] [(.ref a1)])) _
    refine XS.astoreN X0.here hx rfl (hb hby d2_3) rfl rfl (l' := #[.val (.ref a1), .val (.int (0 : Int32)), .val (.ref a1), .unset, .unset, .unset]) rfl ?_
    show Steps p.tables e below (s₁.setTop (mkF m 4 #[.val (.ref a1), .val (.int (0 : Int32)), .val (.ref a1), .unset, .unset, .unset] [])) _
    refine XS.aloadN X0.here hx rfl (hb hby d2_4) rfl rfl ?_
    show Steps p.tables e below (s₁.setTop (mkF m 5 #[.val (.ref a1), .val (.int (0 : Int32)), .val (.ref a1), .unset, .unset, .unset] [(.ref a1)])) _
    refine X0.arraylength hx (by rw [e0]; exact Ar1.1) (State.isArrayOf_alike hZ.alike Ar1.2.1) (g := (mkF m 5 #[.val (.ref a1), .val (.int (0 : Int32)), .val (.ref a1), .unset, .unset, .unset] [(.ref a1)])) rfl rfl (hb hby d2_5) _ ?_
    rw [len_of S1 M1]
    show Steps p.tables e below (s₁.setTop (mkF m 6 #[.val (.ref a1), .val (.int (0 : Int32)), .val (.ref a1), .unset, .unset, .unset] [(.int (0 : Int32))])) _
    refine XS.istoreN X0.here hx rfl (hb hby d2_6) rfl (l' := #[.val (.ref a1), .val (.int (0 : Int32)), .val (.ref a1), .val (.int (0 : Int32)), .unset, .unset]) rfl ?_
    show Steps p.tables e below (s₁.setTop (mkF m 7 #[.val (.ref a1), .val (.int (0 : Int32)), .val (.ref a1), .val (.int (0 : Int32)), .unset, .unset] [])) _
    refine XS.iconst X0.here hx rfl (hb hby d2_7) ?_
    show Steps p.tables e below (s₁.setTop (mkF m 8 #[.val (.ref a1), .val (.int (0 : Int32)), .val (.ref a1), .val (.int (0 : Int32)), .unset, .unset] [(.int (0 : Int32))])) _
    refine XS.istore X0.here hx rfl (hb hby d2_8) rfl (l' := #[.val (.ref a1), .val (.int (0 : Int32)), .val (.ref a1), .val (.int (0 : Int32)), .val (.int (0 : Int32)), .unset]) rfl ?_
    show Steps p.tables e below (s₁.setTop (mkF m 10 #[.val (.ref a1), .val (.int (0 : Int32)), .val (.ref a1), .val (.int (0 : Int32)), .val (.int (0 : Int32)), .unset] [])) _
    refine XS.iload X0.here hx rfl (hb hby d2_10) rfl ?_
    show Steps p.tables e below (s₁.setTop (mkF m 12 #[.val (.ref a1), .val (.int (0 : Int32)), .val (.ref a1), .val (.int (0 : Int32)), .val (.int (0 : Int32)), .unset] [(.int (0 : Int32))])) _
    refine XS.iloadN X0.here hx rfl (hb hby d2_12) rfl ?_
    show Steps p.tables e below (s₁.setTop (mkF m 13 #[.val (.ref a1), .val (.int (0 : Int32)), .val (.ref a1), .val (.int (0 : Int32)), .val (.int (0 : Int32)), .unset] [(.int (0 : Int32)), (.int (0 : Int32))])) _
    refine XS.icmpYes X0.here hx rfl (pc0 := 13) (pc' := 36) rfl (hb hby d2_13) rfl (flt ((by decide) : ¬ ((0 : Int32) < (0 : Int32)))).2.1 (by decide) (by decide) ?_
    show Steps p.tables e below (s₁.setTop (mkF m 36 #[.val (.ref a1), .val (.int (0 : Int32)), .val (.ref a1), .val (.int (0 : Int32)), .val (.int (0 : Int32)), .unset] [])) _
    refine XS.iloadN X0.here hx rfl (hb hby d2_36) rfl ?_
    show Steps p.tables e below (s₁.setTop (mkF m 37 #[.val (.ref a1), .val (.int (0 : Int32)), .val (.ref a1), .val (.int (0 : Int32)), .val (.int (0 : Int32)), .unset] [(.int (0 : Int32))])) _
    refine st2 _ ?_
    show Steps p.tables e below (T2.setTop (mkF m 39 #[.val (.ref a1), .val (.int (0 : Int32)), .val (.ref a1), .val (.int (0 : Int32)), .val (.int (0 : Int32)), .unset] [(.ref b2)])) _
    refine XS.astoreN X2.here hx rfl (hb hby d2_39) rfl rfl (l' := #[.val (.ref a1), .val (.int (0 : Int32)), .val (.ref b2), .val (.int (0 : Int32)), .val (.int (0 : Int32)), .unset]) rfl ?_
    show Steps p.tables e below (T2.setTop (mkF m 40 #[.val (.ref a1), .val (.int (0 : Int32)), .val (.ref b2), .val (.int (0 : Int32)), .val (.int (0 : Int32)), .unset] [])) _
    refine XS.iconst X2.here hx rfl (hb hby d2_40) ?_
    show Steps p.tables e below (T2.setTop (mkF m 41 #[.val (.ref a1), .val (.int (0 : Int32)), .val (.ref b2), .val (.int (0 : Int32)), .val (.int (0 : Int32)), .unset] [(.int (0 : Int32))])) _
    refine XS.istoreN X2.here hx rfl (hb hby d2_41) rfl (l' := #[.val (.ref a1), .val (.int (0 : Int32)), .val (.ref b2), .val (.int (0 : Int32)), .val (.int (0 : Int32)), .unset]) rfl ?_
    show Steps p.tables e below (T2.setTop (mkF m 42 #[.val (.ref a1), .val (.int (0 : Int32)), .val (.ref b2), .val (.int (0 : Int32)), .val (.int (0 : Int32)), .unset] [])) _
    refine XS.iconst X2.here hx rfl (hb hby d2_42) ?_
    show Steps p.tables e below (T2.setTop (mkF m 43 #[.val (.ref a1), .val (.int (0 : Int32)), .val (.ref b2), .val (.int (0 : Int32)), .val (.int (0 : Int32)), .unset] [(.int (0 : Int32))])) _
    refine XS.istore X2.here hx rfl (hb hby d2_43) rfl (l' := #[.val (.ref a1), .val (.int (0 : Int32)), .val (.ref b2), .val (.int (0 : Int32)), .val (.int (0 : Int32)), .unset]) rfl ?_
    show Steps p.tables e below (T2.setTop (mkF m 45 #[.val (.ref a1), .val (.int (0 : Int32)), .val (.ref b2), .val (.int (0 : Int32)), .val (.int (0 : Int32)), .unset] [])) _
    refine XS.iload X2.here hx rfl (hb hby d2_45) rfl ?_
    show Steps p.tables e below (T2.setTop (mkF m 47 #[.val (.ref a1), .val (.int (0 : Int32)), .val (.ref b2), .val (.int (0 : Int32)), .val (.int (0 : Int32)), .unset] [(.int (0 : Int32))])) _
    refine XS.aloadN X2.here hx rfl (hb hby d2_47) rfl rfl ?_
    show Steps p.tables e below (T2.setTop (mkF m 48 #[.val (.ref a1), .val (.int (0 : Int32)), .val (.ref b2), .val (.int (0 : Int32)), .val (.int (0 : Int32)), .unset] [(.ref a1), (.int (0 : Int32))])) _
    refine X2.arraylength hx (by rw [e2]; exact Ar3.1) (State.isArrayOf_alike hZ.alike Ar3.2.1) (g := (mkF m 48 #[.val (.ref a1), .val (.int (0 : Int32)), .val (.ref b2), .val (.int (0 : Int32)), .val (.int (0 : Int32)), .unset] [(.ref a1), (.int (0 : Int32))])) rfl rfl (hb hby d2_48) _ ?_
    rw [len_of S3 M3]
    show Steps p.tables e below (T2.setTop (mkF m 49 #[.val (.ref a1), .val (.int (0 : Int32)), .val (.ref b2), .val (.int (0 : Int32)), .val (.int (0 : Int32)), .unset] [(.int (0 : Int32)), (.int (0 : Int32))])) _
    refine XS.icmpYes X2.here hx rfl (pc0 := 49) (pc' := 73) rfl (hb hby d2_49) rfl (flt ((by decide) : ¬ ((0 : Int32) < (0 : Int32)))).2.1 (by decide) (by decide) ?_
    show Steps p.tables e below (T2.setTop (mkF m 73 #[.val (.ref a1), .val (.int (0 : Int32)), .val (.ref b2), .val (.int (0 : Int32)), .val (.int (0 : Int32)), .unset] [])) _
    refine XS.aloadN X2.here hx rfl (hb hby d2_73) rfl rfl ?_
    show Steps p.tables e below (T2.setTop (mkF m 74 #[.val (.ref a1), .val (.int (0 : Int32)), .val (.ref b2), .val (.int (0 : Int32)), .val (.int (0 : Int32)), .unset] [(.ref b2)])) _
    jvm_step X2.here [X2.here.top, hx, (hb hby d2_74), X2.method', Bd.returns, Value.isRef, FieldType.isReference]
    first | (intro acts; rw [hr _ acts rfl rfl rfl]) | rw [hr _ _ rfl rfl rfl]
    exact Steps.refl _
  · show QP Z a1 (0 : Int32) [(.int (0 : Int32)), (.int (0 : Int32)), (.int (0 : Int32)), (.int (0 : Int32))] h0 n0 _ T2.heap _
    rw [e2]
    exact ⟨by rw [g2], N0, KC2, ⟨_, (g2 ▸ V4b2)⟩⟩
set_option maxRecDepth 65536 in
set_option maxHeartbeats 40000000 in
theorem rmP1 (l : Launch) (Z : State) (a0 : Array Value) (hw : ∀ d ∈ tables_1, d.before a0 Z = true) (ws : List Jvm.Cond) (a1 : Addr) (ka : ClassId) (x0 : Int32) (h0 : Heap) (n0 : Nat) (Z0 : n0 ≤ h0.size) (V_a : Arv Z h0 a1 ka .int (1 : Int32) [(.int x0)] (.int (0 : Int32))) :
    MetFree l (⟨"com/example/steelyard/steelyard/Candidates", "positiveIndices", "([I)[I"⟩ : MethodName) (head1 (Jvm.Cond.code (⟨"com/example/steelyard/steelyard/Candidates", "positiveIndices", "([I)[I"⟩ : MethodName) prog_8_method_7_code 6 (some (.array .int)) :: ws) ({ frames := 0, cells := 1, slots := 4, locals := 0 } : Room)) (fun a U => a = #[(.ref a1)] ∧ Z.Warmed39 U.vm ∧ U.heap = h0) (fun _ _ _ _ _ => True) (fun _ U o U' => ∃ v L, o = .returned v ∧ QP Z a1 ((0 : Int32) + own_b (decide ((0 : Int32) < x0))) (own_set (decide ((0 : Int32) < x0)) [(.int (0 : Int32)), (.int (0 : Int32)), (.int (0 : Int32)), (.int (0 : Int32))] (0 : Int32) (0 : Int32)) h0 n0 v U'.heap L ∧ FrameEnd U o U' L ({ frames := 0, cells := 1, slots := 4, locals := 0 } : Room).cells ({ frames := 0, cells := 1, slots := 4, locals := 0 } : Room).slots) := by
  refine MetFree.of_bodySF (plainFor_of_name pn_2) hisR ?_
  intro p e s m args below meth c s₁ Bd hml0 hP hK
  obtain ⟨rfl, hZ, hh⟩ := hP
  have hx := Bd.exec
  have hby := Bd.bytes
  have hml : c.maxLocals = 6 := hml0
  have hown : s.vm.findClass "com/example/steelyard/steelyard/Candidates" = some m.cls := findClass_of_methodNamed Bd.named
  have hnm := (name_of_methodNamed Bd.named Bd.method).1
  have X0 : Stand p l e ({ frames := 0, cells := 1, slots := 4, locals := 0 } : Room) s m #[(.ref a1)] below meth c s₁ [] 0 0 := Stand.of_body Bd
  have e0 : s₁.heap = h0 := by rw [← hh, Bd.state]; rfl
  have N0 := Fr.nil n0
  have pre0 : ∀ tz, Steps p.tables e below (s₁.setTop (mkF m 0 #[.val (.ref a1), .unset, .unset, .unset, .unset, .unset] [])) tz → Steps p.tables e below (s₁.setTop (entryFrame m #[(.ref a1)] 6)) tz := fun tz kz => castTop (ef_2 m a1) kz
  obtain ⟨cl1, Ar1, q1, S1, M1, H1, G1⟩ := id V_a
  obtain ⟨T2, h2, k2, X2, e2, E2, A2, st2⟩ := newP X0 hx hZ (hw _ (List.mem_of_getElem? (i := 4) rfl)) e0 (g := (mkF m 37 #[.val (.ref a1), .val (.int ((0 : Int32) + own_b (decide ((0 : Int32) < x0)))), .val (.ref a1), .val (.int (1 : Int32)), .val (.int (1 : Int32)), .val (.int x0)] [(.int ((0 : Int32) + own_b (decide ((0 : Int32) < x0))))])) rfl (hb hby d2_37) rfl (own_cn1 (decide ((0 : Int32) < x0))).1 (cap := 4) (own_cn1 (decide ((0 : Int32) < x0))).2 (by decide) (by decide) (by decide)
  obtain ⟨b2, g2⟩ : ∃ z, z = h0.size := ⟨_, rfl⟩
  rw [← g2] at A2 st2
  have gb2 : n0 ≤ b2 := Nat.le_trans Z0 (Nat.le_of_eq g2.symm)
  have sz2 : h0.size ≤ b2 := Nat.le_trans (Keep.refl h0 []).1 (Nat.le_of_eq g2.symm)
  have ne_a1_b2 : a1 ≠ b2 := (Nat.ne_of_lt (Nat.lt_of_lt_of_le V_a.lt (Nat.le_of_eq g2.symm)))
  have V_a1_2 := V_a.ext E2
  have Z2 : n0 ≤ h2.size := Nat.le_trans Z0 E2.1
  have KC2 : Keep h0 h2 [] := (Keep.refl h0 []).ext E2
  have V2 : Arv Z h2 b2 k2 .int ((0 : Int32) + own_b (decide ((0 : Int32) < x0))) [] (.int (0 : Int32)) := Arv.new A2 (own_cn1 (decide ((0 : Int32) < x0))).1
  have V4b2 : Arv Z h2 b2 k2 .int ((0 : Int32) + own_b (decide ((0 : Int32) < x0))) [(.int (0 : Int32)), (.int (0 : Int32)), (.int (0 : Int32)), (.int (0 : Int32))] (.int (0 : Int32)) := V2.pad (pad_rep [] (.int (0 : Int32)) 4)
  obtain ⟨T3, h3, L3, X3, e3, N3, Z3, K3, Va3, Vr3, st3⟩ := tn2 a1 b2 ((0 : Int32) + own_b (decide ((0 : Int32) < x0))) (1 : Int32) (0 : Int32) (0 : Int32) (1 : Int32) x0 x0 ka k2 [(.int x0)] [(.int (0 : Int32)), (.int (0 : Int32)), (.int (0 : Int32)), (.int (0 : Int32))] X2 hx hZ hw hby hml hown e2 N0 Z2 V_a1_2 V4b2 ne_a1_b2 gb2 (by decide) ⟨by decide, by decide⟩ rfl (by decide) (fun q => own_g1_0 (decide ((0 : Int32) < x0)) (decide_eq_true q)) (own_f0 ).2
  have KC3 : Keep h0 h3 [] := KC2.trans K3 (allS (Or.inr sz2) all0)
  obtain ⟨cl4, Ar4, q4, S4, M4, H4, G4⟩ := id Va3
  obtain ⟨fs, hr, hrun, hended, hW, hsame⟩ := X3.leave (v := some (.ref b2)) (fun h => by rw [Bd.returns] at h; cases h)
  refine ⟨_, _, pre0 _ ?_, hrun, hended, _, _, rfl, ?_, ⟨_, rfl⟩, hW, hsame.mono (by decide) (by decide)⟩
  · show Steps p.tables e below (s₁.setTop (mkF m 0 #[.val (.ref a1), .unset, .unset, .unset, .unset, .unset] [])) _
    refine XS.iconst X0.here hx rfl (hb hby d2_0) ?_
    show Steps p.tables e below (s₁.setTop (mkF m 1 #[.val (.ref a1), .unset, .unset, .unset, .unset, .unset] [(.int (0 : Int32))])) _
    refine XS.istoreN X0.here hx rfl (hb hby d2_1) rfl (l' := #[.val (.ref a1), .val (.int (0 : Int32)), .unset, .unset, .unset, .unset]) rfl ?_
    show Steps p.tables e below (s₁.setTop (mkF m 2 #[.val (.ref a1), .val (.int (0 : Int32)), .unset, .unset, .unset, .unset] [])) _
    refine XS.aloadN X0.here hx rfl (hb hby d2_2) rfl rfl ?_
    show Steps p.tables e below (s₁.setTop (mkF m 3 #[.val (.ref a1), .val (.int (0 : Int32)), .unset, .unset, .unset, .unset] [(.ref a1)])) _
    refine XS.astoreN X0.here hx rfl (hb hby d2_3) rfl rfl (l' := #[.val (.ref a1), .val (.int (0 : Int32)), .val (.ref a1), .unset, .unset, .unset]) rfl ?_
    show Steps p.tables e below (s₁.setTop (mkF m 4 #[.val (.ref a1), .val (.int (0 : Int32)), .val (.ref a1), .unset, .unset, .unset] [])) _
    refine XS.aloadN X0.here hx rfl (hb hby d2_4) rfl rfl ?_
    show Steps p.tables e below (s₁.setTop (mkF m 5 #[.val (.ref a1), .val (.int (0 : Int32)), .val (.ref a1), .unset, .unset, .unset] [(.ref a1)])) _
    refine X0.arraylength hx (by rw [e0]; exact Ar1.1) (State.isArrayOf_alike hZ.alike Ar1.2.1) (g := (mkF m 5 #[.val (.ref a1), .val (.int (0 : Int32)), .val (.ref a1), .unset, .unset, .unset] [(.ref a1)])) rfl rfl (hb hby d2_5) _ ?_
    rw [len_of S1 M1]
    show Steps p.tables e below (s₁.setTop (mkF m 6 #[.val (.ref a1), .val (.int (0 : Int32)), .val (.ref a1), .unset, .unset, .unset] [(.int (1 : Int32))])) _
    refine XS.istoreN X0.here hx rfl (hb hby d2_6) rfl (l' := #[.val (.ref a1), .val (.int (0 : Int32)), .val (.ref a1), .val (.int (1 : Int32)), .unset, .unset]) rfl ?_
    show Steps p.tables e below (s₁.setTop (mkF m 7 #[.val (.ref a1), .val (.int (0 : Int32)), .val (.ref a1), .val (.int (1 : Int32)), .unset, .unset] [])) _
    refine XS.iconst X0.here hx rfl (hb hby d2_7) ?_
    show Steps p.tables e below (s₁.setTop (mkF m 8 #[.val (.ref a1), .val (.int (0 : Int32)), .val (.ref a1), .val (.int (1 : Int32)), .unset, .unset] [(.int (0 : Int32))])) _
    refine XS.istore X0.here hx rfl (hb hby d2_8) rfl (l' := #[.val (.ref a1), .val (.int (0 : Int32)), .val (.ref a1), .val (.int (1 : Int32)), .val (.int (0 : Int32)), .unset]) rfl ?_
    show Steps p.tables e below (s₁.setTop (mkF m 10 #[.val (.ref a1), .val (.int (0 : Int32)), .val (.ref a1), .val (.int (1 : Int32)), .val (.int (0 : Int32)), .unset] [])) _
    refine tn1 a1 (0 : Int32) (1 : Int32) (0 : Int32) (1 : Int32) x0 .unset ka [(.int x0)] X0 hx hZ hw hby hml hown e0 N0 Z0 V_a (by decide) ⟨by decide, by decide⟩ rfl (by decide) rfl _ ?_
    show Steps p.tables e below (s₁.setTop (mkF m 10 #[.val (.ref a1), .val (.int ((0 : Int32) + own_b (decide ((0 : Int32) < x0)))), .val (.ref a1), .val (.int (1 : Int32)), .val (.int (1 : Int32)), .val (.int x0)] [])) _
    refine XS.iload X0.here hx rfl (hb hby d2_10) rfl ?_
    show Steps p.tables e below (s₁.setTop (mkF m 12 #[.val (.ref a1), .val (.int ((0 : Int32) + own_b (decide ((0 : Int32) < x0)))), .val (.ref a1), .val (.int (1 : Int32)), .val (.int (1 : Int32)), .val (.int x0)] [(.int (1 : Int32))])) _
    refine XS.iloadN X0.here hx rfl (hb hby d2_12) rfl ?_
    show Steps p.tables e below (s₁.setTop (mkF m 13 #[.val (.ref a1), .val (.int ((0 : Int32) + own_b (decide ((0 : Int32) < x0)))), .val (.ref a1), .val (.int (1 : Int32)), .val (.int (1 : Int32)), .val (.int x0)] [(.int (1 : Int32)), (.int (1 : Int32))])) _
    refine XS.icmpYes X0.here hx rfl (pc0 := 13) (pc' := 36) rfl (hb hby d2_13) rfl (flt ((by decide) : ¬ ((1 : Int32) < (1 : Int32)))).2.1 (by decide) (by decide) ?_
    show Steps p.tables e below (s₁.setTop (mkF m 36 #[.val (.ref a1), .val (.int ((0 : Int32) + own_b (decide ((0 : Int32) < x0)))), .val (.ref a1), .val (.int (1 : Int32)), .val (.int (1 : Int32)), .val (.int x0)] [])) _
    refine XS.iloadN X0.here hx rfl (hb hby d2_36) rfl ?_
    show Steps p.tables e below (s₁.setTop (mkF m 37 #[.val (.ref a1), .val (.int ((0 : Int32) + own_b (decide ((0 : Int32) < x0)))), .val (.ref a1), .val (.int (1 : Int32)), .val (.int (1 : Int32)), .val (.int x0)] [(.int ((0 : Int32) + own_b (decide ((0 : Int32) < x0))))])) _
    refine st2 _ ?_
    show Steps p.tables e below (T2.setTop (mkF m 39 #[.val (.ref a1), .val (.int ((0 : Int32) + own_b (decide ((0 : Int32) < x0)))), .val (.ref a1), .val (.int (1 : Int32)), .val (.int (1 : Int32)), .val (.int x0)] [(.ref b2)])) _
    refine XS.astoreN X2.here hx rfl (hb hby d2_39) rfl rfl (l' := #[.val (.ref a1), .val (.int ((0 : Int32) + own_b (decide ((0 : Int32) < x0)))), .val (.ref b2), .val (.int (1 : Int32)), .val (.int (1 : Int32)), .val (.int x0)]) rfl ?_
    show Steps p.tables e below (T2.setTop (mkF m 40 #[.val (.ref a1), .val (.int ((0 : Int32) + own_b (decide ((0 : Int32) < x0)))), .val (.ref b2), .val (.int (1 : Int32)), .val (.int (1 : Int32)), .val (.int x0)] [])) _
    refine XS.iconst X2.here hx rfl (hb hby d2_40) ?_
    show Steps p.tables e below (T2.setTop (mkF m 41 #[.val (.ref a1), .val (.int ((0 : Int32) + own_b (decide ((0 : Int32) < x0)))), .val (.ref b2), .val (.int (1 : Int32)), .val (.int (1 : Int32)), .val (.int x0)] [(.int (0 : Int32))])) _
    refine XS.istoreN X2.here hx rfl (hb hby d2_41) rfl (l' := #[.val (.ref a1), .val (.int ((0 : Int32) + own_b (decide ((0 : Int32) < x0)))), .val (.ref b2), .val (.int (0 : Int32)), .val (.int (1 : Int32)), .val (.int x0)]) rfl ?_
    show Steps p.tables e below (T2.setTop (mkF m 42 #[.val (.ref a1), .val (.int ((0 : Int32) + own_b (decide ((0 : Int32) < x0)))), .val (.ref b2), .val (.int (0 : Int32)), .val (.int (1 : Int32)), .val (.int x0)] [])) _
    refine XS.iconst X2.here hx rfl (hb hby d2_42) ?_
    show Steps p.tables e below (T2.setTop (mkF m 43 #[.val (.ref a1), .val (.int ((0 : Int32) + own_b (decide ((0 : Int32) < x0)))), .val (.ref b2), .val (.int (0 : Int32)), .val (.int (1 : Int32)), .val (.int x0)] [(.int (0 : Int32))])) _
    refine XS.istore X2.here hx rfl (hb hby d2_43) rfl (l' := #[.val (.ref a1), .val (.int ((0 : Int32) + own_b (decide ((0 : Int32) < x0)))), .val (.ref b2), .val (.int (0 : Int32)), .val (.int (0 : Int32)), .val (.int x0)]) rfl ?_
    show Steps p.tables e below (T2.setTop (mkF m 45 #[.val (.ref a1), .val (.int ((0 : Int32) + own_b (decide ((0 : Int32) < x0)))), .val (.ref b2), .val (.int (0 : Int32)), .val (.int (0 : Int32)), .val (.int x0)] [])) _
    refine st3 _ ?_
    show Steps p.tables e below (T3.setTop (mkF m 45 #[.val (.ref a1), .val (.int ((0 : Int32) + own_b (decide ((0 : Int32) < x0)))), .val (.ref b2), .val (.int ((0 : Int32) + own_b (decide ((0 : Int32) < x0)))), .val (.int (1 : Int32)), .val (.int x0)] [])) _
    refine XS.iload X3.here hx rfl (hb hby d2_45) rfl ?_
    show Steps p.tables e below (T3.setTop (mkF m 47 #[.val (.ref a1), .val (.int ((0 : Int32) + own_b (decide ((0 : Int32) < x0)))), .val (.ref b2), .val (.int ((0 : Int32) + own_b (decide ((0 : Int32) < x0)))), .val (.int (1 : Int32)), .val (.int x0)] [(.int (1 : Int32))])) _
    refine XS.aloadN X3.here hx rfl (hb hby d2_47) rfl rfl ?_
    show Steps p.tables e below (T3.setTop (mkF m 48 #[.val (.ref a1), .val (.int ((0 : Int32) + own_b (decide ((0 : Int32) < x0)))), .val (.ref b2), .val (.int ((0 : Int32) + own_b (decide ((0 : Int32) < x0)))), .val (.int (1 : Int32)), .val (.int x0)] [(.ref a1), (.int (1 : Int32))])) _
    refine X3.arraylength hx (by rw [e3]; exact Ar4.1) (State.isArrayOf_alike hZ.alike Ar4.2.1) (g := (mkF m 48 #[.val (.ref a1), .val (.int ((0 : Int32) + own_b (decide ((0 : Int32) < x0)))), .val (.ref b2), .val (.int ((0 : Int32) + own_b (decide ((0 : Int32) < x0)))), .val (.int (1 : Int32)), .val (.int x0)] [(.ref a1), (.int (1 : Int32))])) rfl rfl (hb hby d2_48) _ ?_
    rw [len_of S4 M4]
    show Steps p.tables e below (T3.setTop (mkF m 49 #[.val (.ref a1), .val (.int ((0 : Int32) + own_b (decide ((0 : Int32) < x0)))), .val (.ref b2), .val (.int ((0 : Int32) + own_b (decide ((0 : Int32) < x0)))), .val (.int (1 : Int32)), .val (.int x0)] [(.int (1 : Int32)), (.int (1 : Int32))])) _
    refine XS.icmpYes X3.here hx rfl (pc0 := 49) (pc' := 73) rfl (hb hby d2_49) rfl (flt ((by decide) : ¬ ((1 : Int32) < (1 : Int32)))).2.1 (by decide) (by decide) ?_
    show Steps p.tables e below (T3.setTop (mkF m 73 #[.val (.ref a1), .val (.int ((0 : Int32) + own_b (decide ((0 : Int32) < x0)))), .val (.ref b2), .val (.int ((0 : Int32) + own_b (decide ((0 : Int32) < x0)))), .val (.int (1 : Int32)), .val (.int x0)] [])) _
    refine XS.aloadN X3.here hx rfl (hb hby d2_73) rfl rfl ?_
    show Steps p.tables e below (T3.setTop (mkF m 74 #[.val (.ref a1), .val (.int ((0 : Int32) + own_b (decide ((0 : Int32) < x0)))), .val (.ref b2), .val (.int ((0 : Int32) + own_b (decide ((0 : Int32) < x0)))), .val (.int (1 : Int32)), .val (.int x0)] [(.ref b2)])) _
    jvm_step X3.here [X3.here.top, hx, (hb hby d2_74), X3.method', Bd.returns, Value.isRef, FieldType.isReference]
    first | (intro acts; rw [hr _ acts rfl rfl rfl]) | rw [hr _ _ rfl rfl rfl]
    exact Steps.refl _
  · show QP Z a1 ((0 : Int32) + own_b (decide ((0 : Int32) < x0))) (own_set (decide ((0 : Int32) < x0)) [(.int (0 : Int32)), (.int (0 : Int32)), (.int (0 : Int32)), (.int (0 : Int32))] (0 : Int32) (0 : Int32)) h0 n0 _ T3.heap _
    rw [e3]
    exact ⟨by rw [g2], N3, KC3, ⟨_, (g2 ▸ Vr3)⟩⟩
set_option maxRecDepth 65536 in
set_option maxHeartbeats 40000000 in
theorem rmP2 (l : Launch) (Z : State) (a0 : Array Value) (hw : ∀ d ∈ tables_1, d.before a0 Z = true) (ws : List Jvm.Cond) (a1 : Addr) (ka : ClassId) (x0 x1 : Int32) (h0 : Heap) (n0 : Nat) (Z0 : n0 ≤ h0.size) (V_a : Arv Z h0 a1 ka .int (2 : Int32) [(.int x0), (.int x1)] (.int (0 : Int32))) :
    MetFree l (⟨"com/example/steelyard/steelyard/Candidates", "positiveIndices", "([I)[I"⟩ : MethodName) (head1 (Jvm.Cond.code (⟨"com/example/steelyard/steelyard/Candidates", "positiveIndices", "([I)[I"⟩ : MethodName) prog_8_method_7_code 6 (some (.array .int)) :: ws) ({ frames := 0, cells := 1, slots := 4, locals := 0 } : Room)) (fun a U => a = #[(.ref a1)] ∧ Z.Warmed39 U.vm ∧ U.heap = h0) (fun _ _ _ _ _ => True) (fun _ U o U' => ∃ v L, o = .returned v ∧ QP Z a1 (((0 : Int32) + own_b (decide ((0 : Int32) < x0))) + own_b (decide ((0 : Int32) < x1))) (own_set (decide ((0 : Int32) < x1)) (own_set (decide ((0 : Int32) < x0)) [(.int (0 : Int32)), (.int (0 : Int32)), (.int (0 : Int32)), (.int (0 : Int32))] (0 : Int32) (0 : Int32)) ((0 : Int32) + own_b (decide ((0 : Int32) < x0))) (1 : Int32)) h0 n0 v U'.heap L ∧ FrameEnd U o U' L ({ frames := 0, cells := 1, slots := 4, locals := 0 } : Room).cells ({ frames := 0, cells := 1, slots := 4, locals := 0 } : Room).slots) := by
  refine MetFree.of_bodySF (plainFor_of_name pn_2) hisR ?_
  intro p e s m args below meth c s₁ Bd hml0 hP hK
  obtain ⟨rfl, hZ, hh⟩ := hP
  have hx := Bd.exec
  have hby := Bd.bytes
  have hml : c.maxLocals = 6 := hml0
  have hown : s.vm.findClass "com/example/steelyard/steelyard/Candidates" = some m.cls := findClass_of_methodNamed Bd.named
  have hnm := (name_of_methodNamed Bd.named Bd.method).1
  have X0 : Stand p l e ({ frames := 0, cells := 1, slots := 4, locals := 0 } : Room) s m #[(.ref a1)] below meth c s₁ [] 0 0 := Stand.of_body Bd
  have e0 : s₁.heap = h0 := by rw [← hh, Bd.state]; rfl
  have N0 := Fr.nil n0
  have pre0 : ∀ tz, Steps p.tables e below (s₁.setTop (mkF m 0 #[.val (.ref a1), .unset, .unset, .unset, .unset, .unset] [])) tz → Steps p.tables e below (s₁.setTop (entryFrame m #[(.ref a1)] 6)) tz := fun tz kz => castTop (ef_2 m a1) kz
  obtain ⟨cl1, Ar1, q1, S1, M1, H1, G1⟩ := id V_a
  obtain ⟨T2, h2, k2, X2, e2, E2, A2, st2⟩ := newP X0 hx hZ (hw _ (List.mem_of_getElem? (i := 4) rfl)) e0 (g := (mkF m 37 #[.val (.ref a1), .val (.int (((0 : Int32) + own_b (decide ((0 : Int32) < x0))) + own_b (decide ((0 : Int32) < x1)))), .val (.ref a1), .val (.int (2 : Int32)), .val (.int (2 : Int32)), .val (.int x1)] [(.int (((0 : Int32) + own_b (decide ((0 : Int32) < x0))) + own_b (decide ((0 : Int32) < x1))))])) rfl (hb hby d2_37) rfl (own_cn2 (decide ((0 : Int32) < x0)) (decide ((0 : Int32) < x1))).1 (cap := 4) (own_cn2 (decide ((0 : Int32) < x0)) (decide ((0 : Int32) < x1))).2 (by decide) (by decide) (by decide)
  obtain ⟨b2, g2⟩ : ∃ z, z = h0.size := ⟨_, rfl⟩
  rw [← g2] at A2 st2
  have gb2 : n0 ≤ b2 := Nat.le_trans Z0 (Nat.le_of_eq g2.symm)
  have sz2 : h0.size ≤ b2 := Nat.le_trans (Keep.refl h0 []).1 (Nat.le_of_eq g2.symm)
  have ne_a1_b2 : a1 ≠ b2 := (Nat.ne_of_lt (Nat.lt_of_lt_of_le V_a.lt (Nat.le_of_eq g2.symm)))
  have V_a1_2 := V_a.ext E2
  have Z2 : n0 ≤ h2.size := Nat.le_trans Z0 E2.1
  have KC2 : Keep h0 h2 [] := (Keep.refl h0 []).ext E2
  have V2 : Arv Z h2 b2 k2 .int (((0 : Int32) + own_b (decide ((0 : Int32) < x0))) + own_b (decide ((0 : Int32) < x1))) [] (.int (0 : Int32)) := Arv.new A2 (own_cn2 (decide ((0 : Int32) < x0)) (decide ((0 : Int32) < x1))).1
  have V4b2 : Arv Z h2 b2 k2 .int (((0 : Int32) + own_b (decide ((0 : Int32) < x0))) + own_b (decide ((0 : Int32) < x1))) [(.int (0 : Int32)), (.int (0 : Int32)), (.int (0 : Int32)), (.int (0 : Int32))] (.int (0 : Int32)) := V2.pad (pad_rep [] (.int (0 : Int32)) 4)
  obtain ⟨T3, h3, L3, X3, e3, N3, Z3, K3, Va3, Vr3, st3⟩ := tn2 a1 b2 (((0 : Int32) + own_b (decide ((0 : Int32) < x0))) + own_b (decide ((0 : Int32) < x1))) (2 : Int32) (0 : Int32) (0 : Int32) (1 : Int32) x0 x1 ka k2 [(.int x0), (.int x1)] [(.int (0 : Int32)), (.int (0 : Int32)), (.int (0 : Int32)), (.int (0 : Int32))] X2 hx hZ hw hby hml hown e2 N0 Z2 V_a1_2 V4b2 ne_a1_b2 gb2 (by decide) ⟨by decide, by decide⟩ rfl (by decide) (fun q => own_g2_0 (decide ((0 : Int32) < x0)) (decide ((0 : Int32) < x1)) (decide_eq_true q)) (own_f0 ).2
  have KC3 : Keep h0 h3 [] := KC2.trans K3 (allS (Or.inr sz2) all0)
  obtain ⟨T4, h4, L4, X4, e4, N4, Z4, K4, Va4, Vr4, st4⟩ := tn2 a1 b2 (((0 : Int32) + own_b (decide ((0 : Int32) < x0))) + own_b (decide ((0 : Int32) < x1))) (2 : Int32) ((0 : Int32) + own_b (decide ((0 : Int32) < x0))) (1 : Int32) (2 : Int32) x1 x1 ka k2 [(.int x0), (.int x1)] (own_set (decide ((0 : Int32) < x0)) [(.int (0 : Int32)), (.int (0 : Int32)), (.int (0 : Int32)), (.int (0 : Int32))] (0 : Int32) (0 : Int32)) X3 hx hZ hw hby hml hown e3 N3 Z3 Va3 Vr3 ne_a1_b2 gb2 (by decide) ⟨by decide, by decide⟩ rfl (by decide) (fun q => own_g2_1 (decide ((0 : Int32) < x0)) (decide ((0 : Int32) < x1)) (decide_eq_true q)) (own_f1 (decide ((0 : Int32) < x0))).2
  have KC4 : Keep h0 h4 [] := KC3.trans K4 (allS (Or.inr sz2) all0)
  obtain ⟨cl5, Ar5, q5, S5, M5, H5, G5⟩ := id Va4
  obtain ⟨fs, hr, hrun, hended, hW, hsame⟩ := X4.leave (v := some (.ref b2)) (fun h => by rw [Bd.returns] at h; cases h)
  refine ⟨_, _, pre0 _ ?_, hrun, hended, _, _, rfl, ?_, ⟨_, rfl⟩, hW, hsame.mono (by decide) (by decide)⟩
  · show Steps p.tables e below (s₁.setTop (mkF m 0 #[.val (.ref a1), .unset, .unset, .unset, .unset, .unset] [])) _
    refine XS.iconst X0.here hx rfl (hb hby d2_0) ?_
    show Steps p.tables e below (s₁.setTop (mkF m 1 #[.val (.ref a1), .unset, .unset, .unset, .unset, .unset] [(.int (0 : Int32))])) _
    refine XS.istoreN X0.here hx rfl (hb hby d2_1) rfl (l' := #[.val (.ref a1), .val (.int (0 : Int32)), .unset, .unset, .unset, .unset]) rfl ?_
    show Steps p.tables e below (s₁.setTop (mkF m 2 #[.val (.ref a1), .val (.int (0 : Int32)), .unset, .unset, .unset, .unset] [])) _
    refine XS.aloadN X0.here hx rfl (hb hby d2_2) rfl rfl ?_
    show Steps p.tables e below (s₁.setTop (mkF m 3 #[.val (.ref a1), .val (.int (0 : Int32)), .unset, .unset, .unset, .unset] [(.ref a1)])) _
    refine XS.astoreN X0.here hx rfl (hb hby d2_3) rfl rfl (l' := #[.val (.ref a1), .val (.int (0 : Int32)), .val (.ref a1), .unset, .unset, .unset]) rfl ?_
    show Steps p.tables e below (s₁.setTop (mkF m 4 #[.val (.ref a1), .val (.int (0 : Int32)), .val (.ref a1), .unset, .unset, .unset] [])) _
    refine XS.aloadN X0.here hx rfl (hb hby d2_4) rfl rfl ?_
    show Steps p.tables e below (s₁.setTop (mkF m 5 #[.val (.ref a1), .val (.int (0 : Int32)), .val (.ref a1), .unset, .unset, .unset] [(.ref a1)])) _
    refine X0.arraylength hx (by rw [e0]; exact Ar1.1) (State.isArrayOf_alike hZ.alike Ar1.2.1) (g := (mkF m 5 #[.val (.ref a1), .val (.int (0 : Int32)), .val (.ref a1), .unset, .unset, .unset] [(.ref a1)])) rfl rfl (hb hby d2_5) _ ?_
    rw [len_of S1 M1]
    show Steps p.tables e below (s₁.setTop (mkF m 6 #[.val (.ref a1), .val (.int (0 : Int32)), .val (.ref a1), .unset, .unset, .unset] [(.int (2 : Int32))])) _
    refine XS.istoreN X0.here hx rfl (hb hby d2_6) rfl (l' := #[.val (.ref a1), .val (.int (0 : Int32)), .val (.ref a1), .val (.int (2 : Int32)), .unset, .unset]) rfl ?_
    show Steps p.tables e below (s₁.setTop (mkF m 7 #[.val (.ref a1), .val (.int (0 : Int32)), .val (.ref a1), .val (.int (2 : Int32)), .unset, .unset] [])) _
    refine XS.iconst X0.here hx rfl (hb hby d2_7) ?_
    show Steps p.tables e below (s₁.setTop (mkF m 8 #[.val (.ref a1), .val (.int (0 : Int32)), .val (.ref a1), .val (.int (2 : Int32)), .unset, .unset] [(.int (0 : Int32))])) _
    refine XS.istore X0.here hx rfl (hb hby d2_8) rfl (l' := #[.val (.ref a1), .val (.int (0 : Int32)), .val (.ref a1), .val (.int (2 : Int32)), .val (.int (0 : Int32)), .unset]) rfl ?_
    show Steps p.tables e below (s₁.setTop (mkF m 10 #[.val (.ref a1), .val (.int (0 : Int32)), .val (.ref a1), .val (.int (2 : Int32)), .val (.int (0 : Int32)), .unset] [])) _
    refine tn1 a1 (0 : Int32) (2 : Int32) (0 : Int32) (1 : Int32) x0 .unset ka [(.int x0), (.int x1)] X0 hx hZ hw hby hml hown e0 N0 Z0 V_a (by decide) ⟨by decide, by decide⟩ rfl (by decide) rfl _ ?_
    show Steps p.tables e below (s₁.setTop (mkF m 10 #[.val (.ref a1), .val (.int ((0 : Int32) + own_b (decide ((0 : Int32) < x0)))), .val (.ref a1), .val (.int (2 : Int32)), .val (.int (1 : Int32)), .val (.int x0)] [])) _
    refine tn1 a1 ((0 : Int32) + own_b (decide ((0 : Int32) < x0))) (2 : Int32) (1 : Int32) (2 : Int32) x1 (.val (.int x0)) ka [(.int x0), (.int x1)] X0 hx hZ hw hby hml hown e0 N0 Z0 V_a (by decide) ⟨by decide, by decide⟩ rfl (by decide) rfl _ ?_
    show Steps p.tables e below (s₁.setTop (mkF m 10 #[.val (.ref a1), .val (.int (((0 : Int32) + own_b (decide ((0 : Int32) < x0))) + own_b (decide ((0 : Int32) < x1)))), .val (.ref a1), .val (.int (2 : Int32)), .val (.int (2 : Int32)), .val (.int x1)] [])) _
    refine XS.iload X0.here hx rfl (hb hby d2_10) rfl ?_
    show Steps p.tables e below (s₁.setTop (mkF m 12 #[.val (.ref a1), .val (.int (((0 : Int32) + own_b (decide ((0 : Int32) < x0))) + own_b (decide ((0 : Int32) < x1)))), .val (.ref a1), .val (.int (2 : Int32)), .val (.int (2 : Int32)), .val (.int x1)] [(.int (2 : Int32))])) _
    refine XS.iloadN X0.here hx rfl (hb hby d2_12) rfl ?_
    show Steps p.tables e below (s₁.setTop (mkF m 13 #[.val (.ref a1), .val (.int (((0 : Int32) + own_b (decide ((0 : Int32) < x0))) + own_b (decide ((0 : Int32) < x1)))), .val (.ref a1), .val (.int (2 : Int32)), .val (.int (2 : Int32)), .val (.int x1)] [(.int (2 : Int32)), (.int (2 : Int32))])) _
    refine XS.icmpYes X0.here hx rfl (pc0 := 13) (pc' := 36) rfl (hb hby d2_13) rfl (flt ((by decide) : ¬ ((2 : Int32) < (2 : Int32)))).2.1 (by decide) (by decide) ?_
    show Steps p.tables e below (s₁.setTop (mkF m 36 #[.val (.ref a1), .val (.int (((0 : Int32) + own_b (decide ((0 : Int32) < x0))) + own_b (decide ((0 : Int32) < x1)))), .val (.ref a1), .val (.int (2 : Int32)), .val (.int (2 : Int32)), .val (.int x1)] [])) _
    refine XS.iloadN X0.here hx rfl (hb hby d2_36) rfl ?_
    show Steps p.tables e below (s₁.setTop (mkF m 37 #[.val (.ref a1), .val (.int (((0 : Int32) + own_b (decide ((0 : Int32) < x0))) + own_b (decide ((0 : Int32) < x1)))), .val (.ref a1), .val (.int (2 : Int32)), .val (.int (2 : Int32)), .val (.int x1)] [(.int (((0 : Int32) + own_b (decide ((0 : Int32) < x0))) + own_b (decide ((0 : Int32) < x1))))])) _
    refine st2 _ ?_
    show Steps p.tables e below (T2.setTop (mkF m 39 #[.val (.ref a1), .val (.int (((0 : Int32) + own_b (decide ((0 : Int32) < x0))) + own_b (decide ((0 : Int32) < x1)))), .val (.ref a1), .val (.int (2 : Int32)), .val (.int (2 : Int32)), .val (.int x1)] [(.ref b2)])) _
    refine XS.astoreN X2.here hx rfl (hb hby d2_39) rfl rfl (l' := #[.val (.ref a1), .val (.int (((0 : Int32) + own_b (decide ((0 : Int32) < x0))) + own_b (decide ((0 : Int32) < x1)))), .val (.ref b2), .val (.int (2 : Int32)), .val (.int (2 : Int32)), .val (.int x1)]) rfl ?_
    show Steps p.tables e below (T2.setTop (mkF m 40 #[.val (.ref a1), .val (.int (((0 : Int32) + own_b (decide ((0 : Int32) < x0))) + own_b (decide ((0 : Int32) < x1)))), .val (.ref b2), .val (.int (2 : Int32)), .val (.int (2 : Int32)), .val (.int x1)] [])) _
    refine XS.iconst X2.here hx rfl (hb hby d2_40) ?_
    show Steps p.tables e below (T2.setTop (mkF m 41 #[.val (.ref a1), .val (.int (((0 : Int32) + own_b (decide ((0 : Int32) < x0))) + own_b (decide ((0 : Int32) < x1)))), .val (.ref b2), .val (.int (2 : Int32)), .val (.int (2 : Int32)), .val (.int x1)] [(.int (0 : Int32))])) _
    refine XS.istoreN X2.here hx rfl (hb hby d2_41) rfl (l' := #[.val (.ref a1), .val (.int (((0 : Int32) + own_b (decide ((0 : Int32) < x0))) + own_b (decide ((0 : Int32) < x1)))), .val (.ref b2), .val (.int (0 : Int32)), .val (.int (2 : Int32)), .val (.int x1)]) rfl ?_
    show Steps p.tables e below (T2.setTop (mkF m 42 #[.val (.ref a1), .val (.int (((0 : Int32) + own_b (decide ((0 : Int32) < x0))) + own_b (decide ((0 : Int32) < x1)))), .val (.ref b2), .val (.int (0 : Int32)), .val (.int (2 : Int32)), .val (.int x1)] [])) _
    refine XS.iconst X2.here hx rfl (hb hby d2_42) ?_
    show Steps p.tables e below (T2.setTop (mkF m 43 #[.val (.ref a1), .val (.int (((0 : Int32) + own_b (decide ((0 : Int32) < x0))) + own_b (decide ((0 : Int32) < x1)))), .val (.ref b2), .val (.int (0 : Int32)), .val (.int (2 : Int32)), .val (.int x1)] [(.int (0 : Int32))])) _
    refine XS.istore X2.here hx rfl (hb hby d2_43) rfl (l' := #[.val (.ref a1), .val (.int (((0 : Int32) + own_b (decide ((0 : Int32) < x0))) + own_b (decide ((0 : Int32) < x1)))), .val (.ref b2), .val (.int (0 : Int32)), .val (.int (0 : Int32)), .val (.int x1)]) rfl ?_
    show Steps p.tables e below (T2.setTop (mkF m 45 #[.val (.ref a1), .val (.int (((0 : Int32) + own_b (decide ((0 : Int32) < x0))) + own_b (decide ((0 : Int32) < x1)))), .val (.ref b2), .val (.int (0 : Int32)), .val (.int (0 : Int32)), .val (.int x1)] [])) _
    refine st3 _ ?_
    show Steps p.tables e below (T3.setTop (mkF m 45 #[.val (.ref a1), .val (.int (((0 : Int32) + own_b (decide ((0 : Int32) < x0))) + own_b (decide ((0 : Int32) < x1)))), .val (.ref b2), .val (.int ((0 : Int32) + own_b (decide ((0 : Int32) < x0)))), .val (.int (1 : Int32)), .val (.int x1)] [])) _
    refine st4 _ ?_
    show Steps p.tables e below (T4.setTop (mkF m 45 #[.val (.ref a1), .val (.int (((0 : Int32) + own_b (decide ((0 : Int32) < x0))) + own_b (decide ((0 : Int32) < x1)))), .val (.ref b2), .val (.int (((0 : Int32) + own_b (decide ((0 : Int32) < x0))) + own_b (decide ((0 : Int32) < x1)))), .val (.int (2 : Int32)), .val (.int x1)] [])) _
    refine XS.iload X4.here hx rfl (hb hby d2_45) rfl ?_
    show Steps p.tables e below (T4.setTop (mkF m 47 #[.val (.ref a1), .val (.int (((0 : Int32) + own_b (decide ((0 : Int32) < x0))) + own_b (decide ((0 : Int32) < x1)))), .val (.ref b2), .val (.int (((0 : Int32) + own_b (decide ((0 : Int32) < x0))) + own_b (decide ((0 : Int32) < x1)))), .val (.int (2 : Int32)), .val (.int x1)] [(.int (2 : Int32))])) _
    refine XS.aloadN X4.here hx rfl (hb hby d2_47) rfl rfl ?_
    show Steps p.tables e below (T4.setTop (mkF m 48 #[.val (.ref a1), .val (.int (((0 : Int32) + own_b (decide ((0 : Int32) < x0))) + own_b (decide ((0 : Int32) < x1)))), .val (.ref b2), .val (.int (((0 : Int32) + own_b (decide ((0 : Int32) < x0))) + own_b (decide ((0 : Int32) < x1)))), .val (.int (2 : Int32)), .val (.int x1)] [(.ref a1), (.int (2 : Int32))])) _
    refine X4.arraylength hx (by rw [e4]; exact Ar5.1) (State.isArrayOf_alike hZ.alike Ar5.2.1) (g := (mkF m 48 #[.val (.ref a1), .val (.int (((0 : Int32) + own_b (decide ((0 : Int32) < x0))) + own_b (decide ((0 : Int32) < x1)))), .val (.ref b2), .val (.int (((0 : Int32) + own_b (decide ((0 : Int32) < x0))) + own_b (decide ((0 : Int32) < x1)))), .val (.int (2 : Int32)), .val (.int x1)] [(.ref a1), (.int (2 : Int32))])) rfl rfl (hb hby d2_48) _ ?_
    rw [len_of S5 M5]
    show Steps p.tables e below (T4.setTop (mkF m 49 #[.val (.ref a1), .val (.int (((0 : Int32) + own_b (decide ((0 : Int32) < x0))) + own_b (decide ((0 : Int32) < x1)))), .val (.ref b2), .val (.int (((0 : Int32) + own_b (decide ((0 : Int32) < x0))) + own_b (decide ((0 : Int32) < x1)))), .val (.int (2 : Int32)), .val (.int x1)] [(.int (2 : Int32)), (.int (2 : Int32))])) _
    refine XS.icmpYes X4.here hx rfl (pc0 := 49) (pc' := 73) rfl (hb hby d2_49) rfl (flt ((by decide) : ¬ ((2 : Int32) < (2 : Int32)))).2.1 (by decide) (by decide) ?_
    show Steps p.tables e below (T4.setTop (mkF m 73 #[.val (.ref a1), .val (.int (((0 : Int32) + own_b (decide ((0 : Int32) < x0))) + own_b (decide ((0 : Int32) < x1)))), .val (.ref b2), .val (.int (((0 : Int32) + own_b (decide ((0 : Int32) < x0))) + own_b (decide ((0 : Int32) < x1)))), .val (.int (2 : Int32)), .val (.int x1)] [])) _
    refine XS.aloadN X4.here hx rfl (hb hby d2_73) rfl rfl ?_
    show Steps p.tables e below (T4.setTop (mkF m 74 #[.val (.ref a1), .val (.int (((0 : Int32) + own_b (decide ((0 : Int32) < x0))) + own_b (decide ((0 : Int32) < x1)))), .val (.ref b2), .val (.int (((0 : Int32) + own_b (decide ((0 : Int32) < x0))) + own_b (decide ((0 : Int32) < x1)))), .val (.int (2 : Int32)), .val (.int x1)] [(.ref b2)])) _
    jvm_step X4.here [X4.here.top, hx, (hb hby d2_74), X4.method', Bd.returns, Value.isRef, FieldType.isReference]
    first | (intro acts; rw [hr _ acts rfl rfl rfl]) | rw [hr _ _ rfl rfl rfl]
    exact Steps.refl _
  · show QP Z a1 (((0 : Int32) + own_b (decide ((0 : Int32) < x0))) + own_b (decide ((0 : Int32) < x1))) (own_set (decide ((0 : Int32) < x1)) (own_set (decide ((0 : Int32) < x0)) [(.int (0 : Int32)), (.int (0 : Int32)), (.int (0 : Int32)), (.int (0 : Int32))] (0 : Int32) (0 : Int32)) ((0 : Int32) + own_b (decide ((0 : Int32) < x0))) (1 : Int32)) h0 n0 _ T4.heap _
    rw [e4]
    exact ⟨by rw [g2], N4, KC4, ⟨_, (g2 ▸ Vr4)⟩⟩
set_option maxRecDepth 65536 in
set_option maxHeartbeats 40000000 in
theorem rmP3 (l : Launch) (Z : State) (a0 : Array Value) (hw : ∀ d ∈ tables_1, d.before a0 Z = true) (ws : List Jvm.Cond) (a1 : Addr) (ka : ClassId) (x0 x1 x2 : Int32) (h0 : Heap) (n0 : Nat) (Z0 : n0 ≤ h0.size) (V_a : Arv Z h0 a1 ka .int (3 : Int32) [(.int x0), (.int x1), (.int x2)] (.int (0 : Int32))) :
    MetFree l (⟨"com/example/steelyard/steelyard/Candidates", "positiveIndices", "([I)[I"⟩ : MethodName) (head1 (Jvm.Cond.code (⟨"com/example/steelyard/steelyard/Candidates", "positiveIndices", "([I)[I"⟩ : MethodName) prog_8_method_7_code 6 (some (.array .int)) :: ws) ({ frames := 0, cells := 1, slots := 4, locals := 0 } : Room)) (fun a U => a = #[(.ref a1)] ∧ Z.Warmed39 U.vm ∧ U.heap = h0) (fun _ _ _ _ _ => True) (fun _ U o U' => ∃ v L, o = .returned v ∧ QP Z a1 ((((0 : Int32) + own_b (decide ((0 : Int32) < x0))) + own_b (decide ((0 : Int32) < x1))) + own_b (decide ((0 : Int32) < x2))) (own_set (decide ((0 : Int32) < x2)) (own_set (decide ((0 : Int32) < x1)) (own_set (decide ((0 : Int32) < x0)) [(.int (0 : Int32)), (.int (0 : Int32)), (.int (0 : Int32)), (.int (0 : Int32))] (0 : Int32) (0 : Int32)) ((0 : Int32) + own_b (decide ((0 : Int32) < x0))) (1 : Int32)) (((0 : Int32) + own_b (decide ((0 : Int32) < x0))) + own_b (decide ((0 : Int32) < x1))) (2 : Int32)) h0 n0 v U'.heap L ∧ FrameEnd U o U' L ({ frames := 0, cells := 1, slots := 4, locals := 0 } : Room).cells ({ frames := 0, cells := 1, slots := 4, locals := 0 } : Room).slots) := by
  refine MetFree.of_bodySF (plainFor_of_name pn_2) hisR ?_
  intro p e s m args below meth c s₁ Bd hml0 hP hK
  obtain ⟨rfl, hZ, hh⟩ := hP
  have hx := Bd.exec
  have hby := Bd.bytes
  have hml : c.maxLocals = 6 := hml0
  have hown : s.vm.findClass "com/example/steelyard/steelyard/Candidates" = some m.cls := findClass_of_methodNamed Bd.named
  have hnm := (name_of_methodNamed Bd.named Bd.method).1
  have X0 : Stand p l e ({ frames := 0, cells := 1, slots := 4, locals := 0 } : Room) s m #[(.ref a1)] below meth c s₁ [] 0 0 := Stand.of_body Bd
  have e0 : s₁.heap = h0 := by rw [← hh, Bd.state]; rfl
  have N0 := Fr.nil n0
  have pre0 : ∀ tz, Steps p.tables e below (s₁.setTop (mkF m 0 #[.val (.ref a1), .unset, .unset, .unset, .unset, .unset] [])) tz → Steps p.tables e below (s₁.setTop (entryFrame m #[(.ref a1)] 6)) tz := fun tz kz => castTop (ef_2 m a1) kz
  obtain ⟨cl1, Ar1, q1, S1, M1, H1, G1⟩ := id V_a
  obtain ⟨T2, h2, k2, X2, e2, E2, A2, st2⟩ := newP X0 hx hZ (hw _ (List.mem_of_getElem? (i := 4) rfl)) e0 (g := (mkF m 37 #[.val (.ref a1), .val (.int ((((0 : Int32) + own_b (decide ((0 : Int32) < x0))) + own_b (decide ((0 : Int32) < x1))) + own_b (decide ((0 : Int32) < x2)))), .val (.ref a1), .val (.int (3 : Int32)), .val (.int (3 : Int32)), .val (.int x2)] [(.int ((((0 : Int32) + own_b (decide ((0 : Int32) < x0))) + own_b (decide ((0 : Int32) < x1))) + own_b (decide ((0 : Int32) < x2))))])) rfl (hb hby d2_37) rfl (own_cn3 (decide ((0 : Int32) < x0)) (decide ((0 : Int32) < x1)) (decide ((0 : Int32) < x2))).1 (cap := 4) (own_cn3 (decide ((0 : Int32) < x0)) (decide ((0 : Int32) < x1)) (decide ((0 : Int32) < x2))).2 (by decide) (by decide) (by decide)
  obtain ⟨b2, g2⟩ : ∃ z, z = h0.size := ⟨_, rfl⟩
  rw [← g2] at A2 st2
  have gb2 : n0 ≤ b2 := Nat.le_trans Z0 (Nat.le_of_eq g2.symm)
  have sz2 : h0.size ≤ b2 := Nat.le_trans (Keep.refl h0 []).1 (Nat.le_of_eq g2.symm)
  have ne_a1_b2 : a1 ≠ b2 := (Nat.ne_of_lt (Nat.lt_of_lt_of_le V_a.lt (Nat.le_of_eq g2.symm)))
  have V_a1_2 := V_a.ext E2
  have Z2 : n0 ≤ h2.size := Nat.le_trans Z0 E2.1
  have KC2 : Keep h0 h2 [] := (Keep.refl h0 []).ext E2
  have V2 : Arv Z h2 b2 k2 .int ((((0 : Int32) + own_b (decide ((0 : Int32) < x0))) + own_b (decide ((0 : Int32) < x1))) + own_b (decide ((0 : Int32) < x2))) [] (.int (0 : Int32)) := Arv.new A2 (own_cn3 (decide ((0 : Int32) < x0)) (decide ((0 : Int32) < x1)) (decide ((0 : Int32) < x2))).1
  have V4b2 : Arv Z h2 b2 k2 .int ((((0 : Int32) + own_b (decide ((0 : Int32) < x0))) + own_b (decide ((0 : Int32) < x1))) + own_b (decide ((0 : Int32) < x2))) [(.int (0 : Int32)), (.int (0 : Int32)), (.int (0 : Int32)), (.int (0 : Int32))] (.int (0 : Int32)) := V2.pad (pad_rep [] (.int (0 : Int32)) 4)
  obtain ⟨T3, h3, L3, X3, e3, N3, Z3, K3, Va3, Vr3, st3⟩ := tn2 a1 b2 ((((0 : Int32) + own_b (decide ((0 : Int32) < x0))) + own_b (decide ((0 : Int32) < x1))) + own_b (decide ((0 : Int32) < x2))) (3 : Int32) (0 : Int32) (0 : Int32) (1 : Int32) x0 x2 ka k2 [(.int x0), (.int x1), (.int x2)] [(.int (0 : Int32)), (.int (0 : Int32)), (.int (0 : Int32)), (.int (0 : Int32))] X2 hx hZ hw hby hml hown e2 N0 Z2 V_a1_2 V4b2 ne_a1_b2 gb2 (by decide) ⟨by decide, by decide⟩ rfl (by decide) (fun q => own_g3_0 (decide ((0 : Int32) < x0)) (decide ((0 : Int32) < x1)) (decide ((0 : Int32) < x2)) (decide_eq_true q)) (own_f0 ).2
  have KC3 : Keep h0 h3 [] := KC2.trans K3 (allS (Or.inr sz2) all0)
  obtain ⟨T4, h4, L4, X4, e4, N4, Z4, K4, Va4, Vr4, st4⟩ := tn2 a1 b2 ((((0 : Int32) + own_b (decide ((0 : Int32) < x0))) + own_b (decide ((0 : Int32) < x1))) + own_b (decide ((0 : Int32) < x2))) (3 : Int32) ((0 : Int32) + own_b (decide ((0 : Int32) < x0))) (1 : Int32) (2 : Int32) x1 x2 ka k2 [(.int x0), (.int x1), (.int x2)] (own_set (decide ((0 : Int32) < x0)) [(.int (0 : Int32)), (.int (0 : Int32)), (.int (0 : Int32)), (.int (0 : Int32))] (0 : Int32) (0 : Int32)) X3 hx hZ hw hby hml hown e3 N3 Z3 Va3 Vr3 ne_a1_b2 gb2 (by decide) ⟨by decide, by decide⟩ rfl (by decide) (fun q => own_g3_1 (decide ((0 : Int32) < x0)) (decide ((0 : Int32) < x1)) (decide ((0 : Int32) < x2)) (decide_eq_true q)) (own_f1 (decide ((0 : Int32) < x0))).2
  have KC4 : Keep h0 h4 [] := KC3.trans K4 (allS (Or.inr sz2) all0)
  obtain ⟨T5, h5, L5, X5, e5, N5, Z5, K5, Va5, Vr5, st5⟩ := tn2 a1 b2 ((((0 : Int32) + own_b (decide ((0 : Int32) < x0))) + own_b (decide ((0 : Int32) < x1))) + own_b (decide ((0 : Int32) < x2))) (3 : Int32) (((0 : Int32) + own_b (decide ((0 : Int32) < x0))) + own_b (decide ((0 : Int32) < x1))) (2 : Int32) (3 : Int32) x2 x2 ka k2 [(.int x0), (.int x1), (.int x2)] (own_set (decide ((0 : Int32) < x1)) (own_set (decide ((0 : Int32) < x0)) [(.int (0 : Int32)), (.int (0 : Int32)), (.int (0 : Int32)), (.int (0 : Int32))] (0 : Int32) (0 : Int32)) ((0 : Int32) + own_b (decide ((0 : Int32) < x0))) (1 : Int32)) X4 hx hZ hw hby hml hown e4 N4 Z4 Va4 Vr4 ne_a1_b2 gb2 (by decide) ⟨by decide, by decide⟩ rfl (by decide) (fun q => own_g3_2 (decide ((0 : Int32) < x0)) (decide ((0 : Int32) < x1)) (decide ((0 : Int32) < x2)) (decide_eq_true q)) (own_f2 (decide ((0 : Int32) < x0)) (decide ((0 : Int32) < x1))).2
  have KC5 : Keep h0 h5 [] := KC4.trans K5 (allS (Or.inr sz2) all0)
  obtain ⟨cl6, Ar6, q6, S6, M6, H6, G6⟩ := id Va5
  obtain ⟨fs, hr, hrun, hended, hW, hsame⟩ := X5.leave (v := some (.ref b2)) (fun h => by rw [Bd.returns] at h; cases h)
  refine ⟨_, _, pre0 _ ?_, hrun, hended, _, _, rfl, ?_, ⟨_, rfl⟩, hW, hsame.mono (by decide) (by decide)⟩
  · show Steps p.tables e below (s₁.setTop (mkF m 0 #[.val (.ref a1), .unset, .unset, .unset, .unset, .unset] [])) _
    refine XS.iconst X0.here hx rfl (hb hby d2_0) ?_
    show Steps p.tables e below (s₁.setTop (mkF m 1 #[.val (.ref a1), .unset, .unset, .unset, .unset, .unset] [(.int (0 : Int32))])) _
    refine XS.istoreN X0.here hx rfl (hb hby d2_1) rfl (l' := #[.val (.ref a1), .val (.int (0 : Int32)), .unset, .unset, .unset, .unset]) rfl ?_
    show Steps p.tables e below (s₁.setTop (mkF m 2 #[.val (.ref a1), .val (.int (0 : Int32)), .unset, .unset, .unset, .unset] [])) _
    refine XS.aloadN X0.here hx rfl (hb hby d2_2) rfl rfl ?_
    show Steps p.tables e below (s₁.setTop (mkF m 3 #[.val (.ref a1), .val (.int (0 : Int32)), .unset, .unset, .unset, .unset] [(.ref a1)])) _
    refine XS.astoreN X0.here hx rfl (hb hby d2_3) rfl rfl (l' := #[.val (.ref a1), .val (.int (0 : Int32)), .val (.ref a1), .unset, .unset, .unset]) rfl ?_
    show Steps p.tables e below (s₁.setTop (mkF m 4 #[.val (.ref a1), .val (.int (0 : Int32)), .val (.ref a1), .unset, .unset, .unset] [])) _
    refine XS.aloadN X0.here hx rfl (hb hby d2_4) rfl rfl ?_
    show Steps p.tables e below (s₁.setTop (mkF m 5 #[.val (.ref a1), .val (.int (0 : Int32)), .val (.ref a1), .unset, .unset, .unset] [(.ref a1)])) _
    refine X0.arraylength hx (by rw [e0]; exact Ar1.1) (State.isArrayOf_alike hZ.alike Ar1.2.1) (g := (mkF m 5 #[.val (.ref a1), .val (.int (0 : Int32)), .val (.ref a1), .unset, .unset, .unset] [(.ref a1)])) rfl rfl (hb hby d2_5) _ ?_
    rw [len_of S1 M1]
    show Steps p.tables e below (s₁.setTop (mkF m 6 #[.val (.ref a1), .val (.int (0 : Int32)), .val (.ref a1), .unset, .unset, .unset] [(.int (3 : Int32))])) _
    refine XS.istoreN X0.here hx rfl (hb hby d2_6) rfl (l' := #[.val (.ref a1), .val (.int (0 : Int32)), .val (.ref a1), .val (.int (3 : Int32)), .unset, .unset]) rfl ?_
    show Steps p.tables e below (s₁.setTop (mkF m 7 #[.val (.ref a1), .val (.int (0 : Int32)), .val (.ref a1), .val (.int (3 : Int32)), .unset, .unset] [])) _
    refine XS.iconst X0.here hx rfl (hb hby d2_7) ?_
    show Steps p.tables e below (s₁.setTop (mkF m 8 #[.val (.ref a1), .val (.int (0 : Int32)), .val (.ref a1), .val (.int (3 : Int32)), .unset, .unset] [(.int (0 : Int32))])) _
    refine XS.istore X0.here hx rfl (hb hby d2_8) rfl (l' := #[.val (.ref a1), .val (.int (0 : Int32)), .val (.ref a1), .val (.int (3 : Int32)), .val (.int (0 : Int32)), .unset]) rfl ?_
    show Steps p.tables e below (s₁.setTop (mkF m 10 #[.val (.ref a1), .val (.int (0 : Int32)), .val (.ref a1), .val (.int (3 : Int32)), .val (.int (0 : Int32)), .unset] [])) _
    refine tn1 a1 (0 : Int32) (3 : Int32) (0 : Int32) (1 : Int32) x0 .unset ka [(.int x0), (.int x1), (.int x2)] X0 hx hZ hw hby hml hown e0 N0 Z0 V_a (by decide) ⟨by decide, by decide⟩ rfl (by decide) rfl _ ?_
    show Steps p.tables e below (s₁.setTop (mkF m 10 #[.val (.ref a1), .val (.int ((0 : Int32) + own_b (decide ((0 : Int32) < x0)))), .val (.ref a1), .val (.int (3 : Int32)), .val (.int (1 : Int32)), .val (.int x0)] [])) _
    refine tn1 a1 ((0 : Int32) + own_b (decide ((0 : Int32) < x0))) (3 : Int32) (1 : Int32) (2 : Int32) x1 (.val (.int x0)) ka [(.int x0), (.int x1), (.int x2)] X0 hx hZ hw hby hml hown e0 N0 Z0 V_a (by decide) ⟨by decide, by decide⟩ rfl (by decide) rfl _ ?_
    show Steps p.tables e below (s₁.setTop (mkF m 10 #[.val (.ref a1), .val (.int (((0 : Int32) + own_b (decide ((0 : Int32) < x0))) + own_b (decide ((0 : Int32) < x1)))), .val (.ref a1), .val (.int (3 : Int32)), .val (.int (2 : Int32)), .val (.int x1)] [])) _
    refine tn1 a1 (((0 : Int32) + own_b (decide ((0 : Int32) < x0))) + own_b (decide ((0 : Int32) < x1))) (3 : Int32) (2 : Int32) (3 : Int32) x2 (.val (.int x1)) ka [(.int x0), (.int x1), (.int x2)] X0 hx hZ hw hby hml hown e0 N0 Z0 V_a (by decide) ⟨by decide, by decide⟩ rfl (by decide) rfl _ ?_
    show Steps p.tables e below (s₁.setTop (mkF m 10 #[.val (.ref a1), .val (.int ((((0 : Int32) + own_b (decide ((0 : Int32) < x0))) + own_b (decide ((0 : Int32) < x1))) + own_b (decide ((0 : Int32) < x2)))), .val (.ref a1), .val (.int (3 : Int32)), .val (.int (3 : Int32)), .val (.int x2)] [])) _
    refine XS.iload X0.here hx rfl (hb hby d2_10) rfl ?_
    show Steps p.tables e below (s₁.setTop (mkF m 12 #[.val (.ref a1), .val (.int ((((0 : Int32) + own_b (decide ((0 : Int32) < x0))) + own_b (decide ((0 : Int32) < x1))) + own_b (decide ((0 : Int32) < x2)))), .val (.ref a1), .val (.int (3 : Int32)), .val (.int (3 : Int32)), .val (.int x2)] [(.int (3 : Int32))])) _
    refine XS.iloadN X0.here hx rfl (hb hby d2_12) rfl ?_
    show Steps p.tables e below (s₁.setTop (mkF m 13 #[.val (.ref a1), .val (.int ((((0 : Int32) + own_b (decide ((0 : Int32) < x0))) + own_b (decide ((0 : Int32) < x1))) + own_b (decide ((0 : Int32) < x2)))), .val (.ref a1), .val (.int (3 : Int32)), .val (.int (3 : Int32)), .val (.int x2)] [(.int (3 : Int32)), (.int (3 : Int32))])) _
    refine XS.icmpYes X0.here hx rfl (pc0 := 13) (pc' := 36) rfl (hb hby d2_13) rfl (flt ((by decide) : ¬ ((3 : Int32) < (3 : Int32)))).2.1 (by decide) (by decide) ?_
    show Steps p.tables e below (s₁.setTop (mkF m 36 #[.val (.ref a1), .val (.int ((((0 : Int32) + own_b (decide ((0 : Int32) < x0))) + own_b (decide ((0 : Int32) < x1))) + own_b (decide ((0 : Int32) < x2)))), .val (.ref a1), .val (.int (3 : Int32)), .val (.int (3 : Int32)), .val (.int x2)] [])) _
    refine XS.iloadN X0.here hx rfl (hb hby d2_36) rfl ?_
    show Steps p.tables e below (s₁.setTop (mkF m 37 #[.val (.ref a1), .val (.int ((((0 : Int32) + own_b (decide ((0 : Int32) < x0))) + own_b (decide ((0 : Int32) < x1))) + own_b (decide ((0 : Int32) < x2)))), .val (.ref a1), .val (.int (3 : Int32)), .val (.int (3 : Int32)), .val (.int x2)] [(.int ((((0 : Int32) + own_b (decide ((0 : Int32) < x0))) + own_b (decide ((0 : Int32) < x1))) + own_b (decide ((0 : Int32) < x2))))])) _
    refine st2 _ ?_
    show Steps p.tables e below (T2.setTop (mkF m 39 #[.val (.ref a1), .val (.int ((((0 : Int32) + own_b (decide ((0 : Int32) < x0))) + own_b (decide ((0 : Int32) < x1))) + own_b (decide ((0 : Int32) < x2)))), .val (.ref a1), .val (.int (3 : Int32)), .val (.int (3 : Int32)), .val (.int x2)] [(.ref b2)])) _
    refine XS.astoreN X2.here hx rfl (hb hby d2_39) rfl rfl (l' := #[.val (.ref a1), .val (.int ((((0 : Int32) + own_b (decide ((0 : Int32) < x0))) + own_b (decide ((0 : Int32) < x1))) + own_b (decide ((0 : Int32) < x2)))), .val (.ref b2), .val (.int (3 : Int32)), .val (.int (3 : Int32)), .val (.int x2)]) rfl ?_
    show Steps p.tables e below (T2.setTop (mkF m 40 #[.val (.ref a1), .val (.int ((((0 : Int32) + own_b (decide ((0 : Int32) < x0))) + own_b (decide ((0 : Int32) < x1))) + own_b (decide ((0 : Int32) < x2)))), .val (.ref b2), .val (.int (3 : Int32)), .val (.int (3 : Int32)), .val (.int x2)] [])) _
    refine XS.iconst X2.here hx rfl (hb hby d2_40) ?_
    show Steps p.tables e below (T2.setTop (mkF m 41 #[.val (.ref a1), .val (.int ((((0 : Int32) + own_b (decide ((0 : Int32) < x0))) + own_b (decide ((0 : Int32) < x1))) + own_b (decide ((0 : Int32) < x2)))), .val (.ref b2), .val (.int (3 : Int32)), .val (.int (3 : Int32)), .val (.int x2)] [(.int (0 : Int32))])) _
    refine XS.istoreN X2.here hx rfl (hb hby d2_41) rfl (l' := #[.val (.ref a1), .val (.int ((((0 : Int32) + own_b (decide ((0 : Int32) < x0))) + own_b (decide ((0 : Int32) < x1))) + own_b (decide ((0 : Int32) < x2)))), .val (.ref b2), .val (.int (0 : Int32)), .val (.int (3 : Int32)), .val (.int x2)]) rfl ?_
    show Steps p.tables e below (T2.setTop (mkF m 42 #[.val (.ref a1), .val (.int ((((0 : Int32) + own_b (decide ((0 : Int32) < x0))) + own_b (decide ((0 : Int32) < x1))) + own_b (decide ((0 : Int32) < x2)))), .val (.ref b2), .val (.int (0 : Int32)), .val (.int (3 : Int32)), .val (.int x2)] [])) _
    refine XS.iconst X2.here hx rfl (hb hby d2_42) ?_
    show Steps p.tables e below (T2.setTop (mkF m 43 #[.val (.ref a1), .val (.int ((((0 : Int32) + own_b (decide ((0 : Int32) < x0))) + own_b (decide ((0 : Int32) < x1))) + own_b (decide ((0 : Int32) < x2)))), .val (.ref b2), .val (.int (0 : Int32)), .val (.int (3 : Int32)), .val (.int x2)] [(.int (0 : Int32))])) _
    refine XS.istore X2.here hx rfl (hb hby d2_43) rfl (l' := #[.val (.ref a1), .val (.int ((((0 : Int32) + own_b (decide ((0 : Int32) < x0))) + own_b (decide ((0 : Int32) < x1))) + own_b (decide ((0 : Int32) < x2)))), .val (.ref b2), .val (.int (0 : Int32)), .val (.int (0 : Int32)), .val (.int x2)]) rfl ?_
    show Steps p.tables e below (T2.setTop (mkF m 45 #[.val (.ref a1), .val (.int ((((0 : Int32) + own_b (decide ((0 : Int32) < x0))) + own_b (decide ((0 : Int32) < x1))) + own_b (decide ((0 : Int32) < x2)))), .val (.ref b2), .val (.int (0 : Int32)), .val (.int (0 : Int32)), .val (.int x2)] [])) _
    refine st3 _ ?_
    show Steps p.tables e below (T3.setTop (mkF m 45 #[.val (.ref a1), .val (.int ((((0 : Int32) + own_b (decide ((0 : Int32) < x0))) + own_b (decide ((0 : Int32) < x1))) + own_b (decide ((0 : Int32) < x2)))), .val (.ref b2), .val (.int ((0 : Int32) + own_b (decide ((0 : Int32) < x0)))), .val (.int (1 : Int32)), .val (.int x2)] [])) _
    refine st4 _ ?_
    show Steps p.tables e below (T4.setTop (mkF m 45 #[.val (.ref a1), .val (.int ((((0 : Int32) + own_b (decide ((0 : Int32) < x0))) + own_b (decide ((0 : Int32) < x1))) + own_b (decide ((0 : Int32) < x2)))), .val (.ref b2), .val (.int (((0 : Int32) + own_b (decide ((0 : Int32) < x0))) + own_b (decide ((0 : Int32) < x1)))), .val (.int (2 : Int32)), .val (.int x2)] [])) _
    refine st5 _ ?_
    show Steps p.tables e below (T5.setTop (mkF m 45 #[.val (.ref a1), .val (.int ((((0 : Int32) + own_b (decide ((0 : Int32) < x0))) + own_b (decide ((0 : Int32) < x1))) + own_b (decide ((0 : Int32) < x2)))), .val (.ref b2), .val (.int ((((0 : Int32) + own_b (decide ((0 : Int32) < x0))) + own_b (decide ((0 : Int32) < x1))) + own_b (decide ((0 : Int32) < x2)))), .val (.int (3 : Int32)), .val (.int x2)] [])) _
    refine XS.iload X5.here hx rfl (hb hby d2_45) rfl ?_
    show Steps p.tables e below (T5.setTop (mkF m 47 #[.val (.ref a1), .val (.int ((((0 : Int32) + own_b (decide ((0 : Int32) < x0))) + own_b (decide ((0 : Int32) < x1))) + own_b (decide ((0 : Int32) < x2)))), .val (.ref b2), .val (.int ((((0 : Int32) + own_b (decide ((0 : Int32) < x0))) + own_b (decide ((0 : Int32) < x1))) + own_b (decide ((0 : Int32) < x2)))), .val (.int (3 : Int32)), .val (.int x2)] [(.int (3 : Int32))])) _
    refine XS.aloadN X5.here hx rfl (hb hby d2_47) rfl rfl ?_
    show Steps p.tables e below (T5.setTop (mkF m 48 #[.val (.ref a1), .val (.int ((((0 : Int32) + own_b (decide ((0 : Int32) < x0))) + own_b (decide ((0 : Int32) < x1))) + own_b (decide ((0 : Int32) < x2)))), .val (.ref b2), .val (.int ((((0 : Int32) + own_b (decide ((0 : Int32) < x0))) + own_b (decide ((0 : Int32) < x1))) + own_b (decide ((0 : Int32) < x2)))), .val (.int (3 : Int32)), .val (.int x2)] [(.ref a1), (.int (3 : Int32))])) _
    refine X5.arraylength hx (by rw [e5]; exact Ar6.1) (State.isArrayOf_alike hZ.alike Ar6.2.1) (g := (mkF m 48 #[.val (.ref a1), .val (.int ((((0 : Int32) + own_b (decide ((0 : Int32) < x0))) + own_b (decide ((0 : Int32) < x1))) + own_b (decide ((0 : Int32) < x2)))), .val (.ref b2), .val (.int ((((0 : Int32) + own_b (decide ((0 : Int32) < x0))) + own_b (decide ((0 : Int32) < x1))) + own_b (decide ((0 : Int32) < x2)))), .val (.int (3 : Int32)), .val (.int x2)] [(.ref a1), (.int (3 : Int32))])) rfl rfl (hb hby d2_48) _ ?_
    rw [len_of S6 M6]
    show Steps p.tables e below (T5.setTop (mkF m 49 #[.val (.ref a1), .val (.int ((((0 : Int32) + own_b (decide ((0 : Int32) < x0))) + own_b (decide ((0 : Int32) < x1))) + own_b (decide ((0 : Int32) < x2)))), .val (.ref b2), .val (.int ((((0 : Int32) + own_b (decide ((0 : Int32) < x0))) + own_b (decide ((0 : Int32) < x1))) + own_b (decide ((0 : Int32) < x2)))), .val (.int (3 : Int32)), .val (.int x2)] [(.int (3 : Int32)), (.int (3 : Int32))])) _
    refine XS.icmpYes X5.here hx rfl (pc0 := 49) (pc' := 73) rfl (hb hby d2_49) rfl (flt ((by decide) : ¬ ((3 : Int32) < (3 : Int32)))).2.1 (by decide) (by decide) ?_
    show Steps p.tables e below (T5.setTop (mkF m 73 #[.val (.ref a1), .val (.int ((((0 : Int32) + own_b (decide ((0 : Int32) < x0))) + own_b (decide ((0 : Int32) < x1))) + own_b (decide ((0 : Int32) < x2)))), .val (.ref b2), .val (.int ((((0 : Int32) + own_b (decide ((0 : Int32) < x0))) + own_b (decide ((0 : Int32) < x1))) + own_b (decide ((0 : Int32) < x2)))), .val (.int (3 : Int32)), .val (.int x2)] [])) _
    refine XS.aloadN X5.here hx rfl (hb hby d2_73) rfl rfl ?_
    show Steps p.tables e below (T5.setTop (mkF m 74 #[.val (.ref a1), .val (.int ((((0 : Int32) + own_b (decide ((0 : Int32) < x0))) + own_b (decide ((0 : Int32) < x1))) + own_b (decide ((0 : Int32) < x2)))), .val (.ref b2), .val (.int ((((0 : Int32) + own_b (decide ((0 : Int32) < x0))) + own_b (decide ((0 : Int32) < x1))) + own_b (decide ((0 : Int32) < x2)))), .val (.int (3 : Int32)), .val (.int x2)] [(.ref b2)])) _
    jvm_step X5.here [X5.here.top, hx, (hb hby d2_74), X5.method', Bd.returns, Value.isRef, FieldType.isReference]
    first | (intro acts; rw [hr _ acts rfl rfl rfl]) | rw [hr _ _ rfl rfl rfl]
    exact Steps.refl _
  · show QP Z a1 ((((0 : Int32) + own_b (decide ((0 : Int32) < x0))) + own_b (decide ((0 : Int32) < x1))) + own_b (decide ((0 : Int32) < x2))) (own_set (decide ((0 : Int32) < x2)) (own_set (decide ((0 : Int32) < x1)) (own_set (decide ((0 : Int32) < x0)) [(.int (0 : Int32)), (.int (0 : Int32)), (.int (0 : Int32)), (.int (0 : Int32))] (0 : Int32) (0 : Int32)) ((0 : Int32) + own_b (decide ((0 : Int32) < x0))) (1 : Int32)) (((0 : Int32) + own_b (decide ((0 : Int32) < x0))) + own_b (decide ((0 : Int32) < x1))) (2 : Int32)) h0 n0 _ T5.heap _
    rw [e5]
    exact ⟨by rw [g2], N5, KC5, ⟨_, (g2 ▸ Vr5)⟩⟩
set_option maxRecDepth 65536 in
set_option maxHeartbeats 40000000 in
theorem rmP4 (l : Launch) (Z : State) (a0 : Array Value) (hw : ∀ d ∈ tables_1, d.before a0 Z = true) (ws : List Jvm.Cond) (a1 : Addr) (ka : ClassId) (x0 x1 x2 x3 : Int32) (h0 : Heap) (n0 : Nat) (Z0 : n0 ≤ h0.size) (V_a : Arv Z h0 a1 ka .int (4 : Int32) [(.int x0), (.int x1), (.int x2), (.int x3)] (.int (0 : Int32))) :
    MetFree l (⟨"com/example/steelyard/steelyard/Candidates", "positiveIndices", "([I)[I"⟩ : MethodName) (head1 (Jvm.Cond.code (⟨"com/example/steelyard/steelyard/Candidates", "positiveIndices", "([I)[I"⟩ : MethodName) prog_8_method_7_code 6 (some (.array .int)) :: ws) ({ frames := 0, cells := 1, slots := 4, locals := 0 } : Room)) (fun a U => a = #[(.ref a1)] ∧ Z.Warmed39 U.vm ∧ U.heap = h0) (fun _ _ _ _ _ => True) (fun _ U o U' => ∃ v L, o = .returned v ∧ QP Z a1 (((((0 : Int32) + own_b (decide ((0 : Int32) < x0))) + own_b (decide ((0 : Int32) < x1))) + own_b (decide ((0 : Int32) < x2))) + own_b (decide ((0 : Int32) < x3))) (own_set (decide ((0 : Int32) < x3)) (own_set (decide ((0 : Int32) < x2)) (own_set (decide ((0 : Int32) < x1)) (own_set (decide ((0 : Int32) < x0)) [(.int (0 : Int32)), (.int (0 : Int32)), (.int (0 : Int32)), (.int (0 : Int32))] (0 : Int32) (0 : Int32)) ((0 : Int32) + own_b (decide ((0 : Int32) < x0))) (1 : Int32)) (((0 : Int32) + own_b (decide ((0 : Int32) < x0))) + own_b (decide ((0 : Int32) < x1))) (2 : Int32)) ((((0 : Int32) + own_b (decide ((0 : Int32) < x0))) + own_b (decide ((0 : Int32) < x1))) + own_b (decide ((0 : Int32) < x2))) (3 : Int32)) h0 n0 v U'.heap L ∧ FrameEnd U o U' L ({ frames := 0, cells := 1, slots := 4, locals := 0 } : Room).cells ({ frames := 0, cells := 1, slots := 4, locals := 0 } : Room).slots) := by
  refine MetFree.of_bodySF (plainFor_of_name pn_2) hisR ?_
  intro p e s m args below meth c s₁ Bd hml0 hP hK
  obtain ⟨rfl, hZ, hh⟩ := hP
  have hx := Bd.exec
  have hby := Bd.bytes
  have hml : c.maxLocals = 6 := hml0
  have hown : s.vm.findClass "com/example/steelyard/steelyard/Candidates" = some m.cls := findClass_of_methodNamed Bd.named
  have hnm := (name_of_methodNamed Bd.named Bd.method).1
  have X0 : Stand p l e ({ frames := 0, cells := 1, slots := 4, locals := 0 } : Room) s m #[(.ref a1)] below meth c s₁ [] 0 0 := Stand.of_body Bd
  have e0 : s₁.heap = h0 := by rw [← hh, Bd.state]; rfl
  have N0 := Fr.nil n0
  have pre0 : ∀ tz, Steps p.tables e below (s₁.setTop (mkF m 0 #[.val (.ref a1), .unset, .unset, .unset, .unset, .unset] [])) tz → Steps p.tables e below (s₁.setTop (entryFrame m #[(.ref a1)] 6)) tz := fun tz kz => castTop (ef_2 m a1) kz
  obtain ⟨cl1, Ar1, q1, S1, M1, H1, G1⟩ := id V_a
  obtain ⟨T2, h2, k2, X2, e2, E2, A2, st2⟩ := newP X0 hx hZ (hw _ (List.mem_of_getElem? (i := 4) rfl)) e0 (g := (mkF m 37 #[.val (.ref a1), .val (.int (((((0 : Int32) + own_b (decide ((0 : Int32) < x0))) + own_b (decide ((0 : Int32) < x1))) + own_b (decide ((0 : Int32) < x2))) + own_b (decide ((0 : Int32) < x3)))), .val (.ref a1), .val (.int (4 : Int32)), .val (.int (4 : Int32)), .val (.int x3)] [(.int (((((0 : Int32) + own_b (decide ((0 : Int32) < x0))) + own_b (decide ((0 : Int32) < x1))) + own_b (decide ((0 : Int32) < x2))) + own_b (decide ((0 : Int32) < x3))))])) rfl (hb hby d2_37) rfl (own_cn4 (decide ((0 : Int32) < x0)) (decide ((0 : Int32) < x1)) (decide ((0 : Int32) < x2)) (decide ((0 : Int32) < x3))).1 (cap := 4) (own_cn4 (decide ((0 : Int32) < x0)) (decide ((0 : Int32) < x1)) (decide ((0 : Int32) < x2)) (decide ((0 : Int32) < x3))).2 (by decide) (by decide) (by decide)
  obtain ⟨b2, g2⟩ : ∃ z, z = h0.size := ⟨_, rfl⟩
  rw [← g2] at A2 st2
  have gb2 : n0 ≤ b2 := Nat.le_trans Z0 (Nat.le_of_eq g2.symm)
  have sz2 : h0.size ≤ b2 := Nat.le_trans (Keep.refl h0 []).1 (Nat.le_of_eq g2.symm)
  have ne_a1_b2 : a1 ≠ b2 := (Nat.ne_of_lt (Nat.lt_of_lt_of_le V_a.lt (Nat.le_of_eq g2.symm)))
  have V_a1_2 := V_a.ext E2
  have Z2 : n0 ≤ h2.size := Nat.le_trans Z0 E2.1
  have KC2 : Keep h0 h2 [] := (Keep.refl h0 []).ext E2
  have V2 : Arv Z h2 b2 k2 .int (((((0 : Int32) + own_b (decide ((0 : Int32) < x0))) + own_b (decide ((0 : Int32) < x1))) + own_b (decide ((0 : Int32) < x2))) + own_b (decide ((0 : Int32) < x3))) [] (.int (0 : Int32)) := Arv.new A2 (own_cn4 (decide ((0 : Int32) < x0)) (decide ((0 : Int32) < x1)) (decide ((0 : Int32) < x2)) (decide ((0 : Int32) < x3))).1
  have V4b2 : Arv Z h2 b2 k2 .int (((((0 : Int32) + own_b (decide ((0 : Int32) < x0))) + own_b (decide ((0 : Int32) < x1))) + own_b (decide ((0 : Int32) < x2))) + own_b (decide ((0 : Int32) < x3))) [(.int (0 : Int32)), (.int (0 : Int32)), (.int (0 : Int32)), (.int (0 : Int32))] (.int (0 : Int32)) := V2.pad (pad_rep [] (.int (0 : Int32)) 4)
  obtain ⟨T3, h3, L3, X3, e3, N3, Z3, K3, Va3, Vr3, st3⟩ := tn2 a1 b2 (((((0 : Int32) + own_b (decide ((0 : Int32) < x0))) + own_b (decide ((0 : Int32) < x1))) + own_b (decide ((0 : Int32) < x2))) + own_b (decide ((0 : Int32) < x3))) (4 : Int32) (0 : Int32) (0 : Int32) (1 : Int32) x0 x3 ka k2 [(.int x0), (.int x1), (.int x2), (.int x3)] [(.int (0 : Int32)), (.int (0 : Int32)), (.int (0 : Int32)), (.int (0 : Int32))] X2 hx hZ hw hby hml hown e2 N0 Z2 V_a1_2 V4b2 ne_a1_b2 gb2 (by decide) ⟨by decide, by decide⟩ rfl (by decide) (fun q => own_g4_0 (decide ((0 : Int32) < x0)) (decide ((0 : Int32) < x1)) (decide ((0 : Int32) < x2)) (decide ((0 : Int32) < x3)) (decide_eq_true q)) (own_f0 ).2
  have KC3 : Keep h0 h3 [] := KC2.trans K3 (allS (Or.inr sz2) all0)
  obtain ⟨T4, h4, L4, X4, e4, N4, Z4, K4, Va4, Vr4, st4⟩ := tn2 a1 b2 (((((0 : Int32) + own_b (decide ((0 : Int32) < x0))) + own_b (decide ((0 : Int32) < x1))) + own_b (decide ((0 : Int32) < x2))) + own_b (decide ((0 : Int32) < x3))) (4 : Int32) ((0 : Int32) + own_b (decide ((0 : Int32) < x0))) (1 : Int32) (2 : Int32) x1 x3 ka k2 [(.int x0), (.int x1), (.int x2), (.int x3)] (own_set (decide ((0 : Int32) < x0)) [(.int (0 : Int32)), (.int (0 : Int32)), (.int (0 : Int32)), (.int (0 : Int32))] (0 : Int32) (0 : Int32)) X3 hx hZ hw hby hml hown e3 N3 Z3 Va3 Vr3 ne_a1_b2 gb2 (by decide) ⟨by decide, by decide⟩ rfl (by decide) (fun q => own_g4_1 (decide ((0 : Int32) < x0)) (decide ((0 : Int32) < x1)) (decide ((0 : Int32) < x2)) (decide ((0 : Int32) < x3)) (decide_eq_true q)) (own_f1 (decide ((0 : Int32) < x0))).2
  have KC4 : Keep h0 h4 [] := KC3.trans K4 (allS (Or.inr sz2) all0)
  obtain ⟨T5, h5, L5, X5, e5, N5, Z5, K5, Va5, Vr5, st5⟩ := tn2 a1 b2 (((((0 : Int32) + own_b (decide ((0 : Int32) < x0))) + own_b (decide ((0 : Int32) < x1))) + own_b (decide ((0 : Int32) < x2))) + own_b (decide ((0 : Int32) < x3))) (4 : Int32) (((0 : Int32) + own_b (decide ((0 : Int32) < x0))) + own_b (decide ((0 : Int32) < x1))) (2 : Int32) (3 : Int32) x2 x3 ka k2 [(.int x0), (.int x1), (.int x2), (.int x3)] (own_set (decide ((0 : Int32) < x1)) (own_set (decide ((0 : Int32) < x0)) [(.int (0 : Int32)), (.int (0 : Int32)), (.int (0 : Int32)), (.int (0 : Int32))] (0 : Int32) (0 : Int32)) ((0 : Int32) + own_b (decide ((0 : Int32) < x0))) (1 : Int32)) X4 hx hZ hw hby hml hown e4 N4 Z4 Va4 Vr4 ne_a1_b2 gb2 (by decide) ⟨by decide, by decide⟩ rfl (by decide) (fun q => own_g4_2 (decide ((0 : Int32) < x0)) (decide ((0 : Int32) < x1)) (decide ((0 : Int32) < x2)) (decide ((0 : Int32) < x3)) (decide_eq_true q)) (own_f2 (decide ((0 : Int32) < x0)) (decide ((0 : Int32) < x1))).2
  have KC5 : Keep h0 h5 [] := KC4.trans K5 (allS (Or.inr sz2) all0)
  obtain ⟨T6, h6, L6, X6, e6, N6, Z6, K6, Va6, Vr6, st6⟩ := tn2 a1 b2 (((((0 : Int32) + own_b (decide ((0 : Int32) < x0))) + own_b (decide ((0 : Int32) < x1))) + own_b (decide ((0 : Int32) < x2))) + own_b (decide ((0 : Int32) < x3))) (4 : Int32) ((((0 : Int32) + own_b (decide ((0 : Int32) < x0))) + own_b (decide ((0 : Int32) < x1))) + own_b (decide ((0 : Int32) < x2))) (3 : Int32) (4 : Int32) x3 x3 ka k2 [(.int x0), (.int x1), (.int x2), (.int x3)] (own_set (decide ((0 : Int32) < x2)) (own_set (decide ((0 : Int32) < x1)) (own_set (decide ((0 : Int32) < x0)) [(.int (0 : Int32)), (.int (0 : Int32)), (.int (0 : Int32)), (.int (0 : Int32))] (0 : Int32) (0 : Int32)) ((0 : Int32) + own_b (decide ((0 : Int32) < x0))) (1 : Int32)) (((0 : Int32) + own_b (decide ((0 : Int32) < x0))) + own_b (decide ((0 : Int32) < x1))) (2 : Int32)) X5 hx hZ hw hby hml hown e5 N5 Z5 Va5 Vr5 ne_a1_b2 gb2 (by decide) ⟨by decide, by decide⟩ rfl (by decide) (fun q => own_g4_3 (decide ((0 : Int32) < x0)) (decide ((0 : Int32) < x1)) (decide ((0 : Int32) < x2)) (decide ((0 : Int32) < x3)) (decide_eq_true q)) (own_f3 (decide ((0 : Int32) < x0)) (decide ((0 : Int32) < x1)) (decide ((0 : Int32) < x2))).2
  have KC6 : Keep h0 h6 [] := KC5.trans K6 (allS (Or.inr sz2) all0)
  obtain ⟨cl7, Ar7, q7, S7, M7, H7, G7⟩ := id Va6
  obtain ⟨fs, hr, hrun, hended, hW, hsame⟩ := X6.leave (v := some (.ref b2)) (fun h => by rw [Bd.returns] at h; cases h)
  refine ⟨_, _, pre0 _ ?_, hrun, hended, _, _, rfl, ?_, ⟨_, rfl⟩, hW, hsame.mono (by decide) (by decide)⟩
  · show Steps p.tables e below (s₁.setTop (mkF m 0 #[.val (.ref a1), .unset, .unset, .unset, .unset, .unset] [])) _
    refine XS.iconst X0.here hx rfl (hb hby d2_0) ?_
    show Steps p.tables e below (s₁.setTop (mkF m 1 #[.val (.ref a1), .unset, .unset, .unset, .unset, .unset] [(.int (0 : Int32))])) _
    refine XS.istoreN X0.here hx rfl (hb hby d2_1) rfl (l' := #[.val (.ref a1), .val (.int (0 : Int32)), .unset, .unset, .unset, .unset]) rfl ?_
    show Steps p.tables e below (s₁.setTop (mkF m 2 #[.val (.ref a1), .val (.int (0 : Int32)), .unset, .unset, .unset, .unset] [])) _
    refine XS.aloadN X0.here hx rfl (hb hby d2_2) rfl rfl ?_
    show Steps p.tables e below (s₁.setTop (mkF m 3 #[.val (.ref a1), .val (.int (0 : Int32)), .unset, .unset, .unset, .unset] [(.ref a1)])) _
    refine XS.astoreN X0.here hx rfl (hb hby d2_3) rfl rfl (l' := #[.val (.ref a1), .val (.int (0 : Int32)), .val (.ref a1), .unset, .unset, .unset]) rfl ?_
    show Steps p.tables e below (s₁.setTop (mkF m 4 #[.val (.ref a1), .val (.int (0 : Int32)), .val (.ref a1), .unset, .unset, .unset] [])) _
    refine XS.aloadN X0.here hx rfl (hb hby d2_4) rfl rfl ?_
    show Steps p.tables e below (s₁.setTop (mkF m 5 #[.val (.ref a1), .val (.int (0 : Int32)), .val (.ref a1), .unset, .unset, .unset] [(.ref a1)])) _
    refine X0.arraylength hx (by rw [e0]; exact Ar1.1) (State.isArrayOf_alike hZ.alike Ar1.2.1) (g := (mkF m 5 #[.val (.ref a1), .val (.int (0 : Int32)), .val (.ref a1), .unset, .unset, .unset] [(.ref a1)])) rfl rfl (hb hby d2_5) _ ?_
    rw [len_of S1 M1]
    show Steps p.tables e below (s₁.setTop (mkF m 6 #[.val (.ref a1), .val (.int (0 : Int32)), .val (.ref a1), .unset, .unset, .unset] [(.int (4 : Int32))])) _
    refine XS.istoreN X0.here hx rfl (hb hby d2_6) rfl (l' := #[.val (.ref a1), .val (.int (0 : Int32)), .val (.ref a1), .val (.int (4 : Int32)), .unset, .unset]) rfl ?_
    show Steps p.tables e below (s₁.setTop (mkF m 7 #[.val (.ref a1), .val (.int (0 : Int32)), .val (.ref a1), .val (.int (4 : Int32)), .unset, .unset] [])) _
    refine XS.iconst X0.here hx rfl (hb hby d2_7) ?_
    show Steps p.tables e below (s₁.setTop (mkF m 8 #[.val (.ref a1), .val (.int (0 : Int32)), .val (.ref a1), .val (.int (4 : Int32)), .unset, .unset] [(.int (0 : Int32))])) _
    refine XS.istore X0.here hx rfl (hb hby d2_8) rfl (l' := #[.val (.ref a1), .val (.int (0 : Int32)), .val (.ref a1), .val (.int (4 : Int32)), .val (.int (0 : Int32)), .unset]) rfl ?_
    show Steps p.tables e below (s₁.setTop (mkF m 10 #[.val (.ref a1), .val (.int (0 : Int32)), .val (.ref a1), .val (.int (4 : Int32)), .val (.int (0 : Int32)), .unset] [])) _
    refine tn1 a1 (0 : Int32) (4 : Int32) (0 : Int32) (1 : Int32) x0 .unset ka [(.int x0), (.int x1), (.int x2), (.int x3)] X0 hx hZ hw hby hml hown e0 N0 Z0 V_a (by decide) ⟨by decide, by decide⟩ rfl (by decide) rfl _ ?_
    show Steps p.tables e below (s₁.setTop (mkF m 10 #[.val (.ref a1), .val (.int ((0 : Int32) + own_b (decide ((0 : Int32) < x0)))), .val (.ref a1), .val (.int (4 : Int32)), .val (.int (1 : Int32)), .val (.int x0)] [])) _
    refine tn1 a1 ((0 : Int32) + own_b (decide ((0 : Int32) < x0))) (4 : Int32) (1 : Int32) (2 : Int32) x1 (.val (.int x0)) ka [(.int x0), (.int x1), (.int x2), (.int x3)] X0 hx hZ hw hby hml hown e0 N0 Z0 V_a (by decide) ⟨by decide, by decide⟩ rfl (by decide) rfl _ ?_
    show Steps p.tables e below (s₁.setTop (mkF m 10 #[.val (.ref a1), .val (.int (((0 : Int32) + own_b (decide ((0 : Int32) < x0))) + own_b (decide ((0 : Int32) < x1)))), .val (.ref a1), .val (.int (4 : Int32)), .val (.int (2 : Int32)), .val (.int x1)] [])) _
    refine tn1 a1 (((0 : Int32) + own_b (decide ((0 : Int32) < x0))) + own_b (decide ((0 : Int32) < x1))) (4 : Int32) (2 : Int32) (3 : Int32) x2 (.val (.int x1)) ka [(.int x0), (.int x1), (.int x2), (.int x3)] X0 hx hZ hw hby hml hown e0 N0 Z0 V_a (by decide) ⟨by decide, by decide⟩ rfl (by decide) rfl _ ?_
    show Steps p.tables e below (s₁.setTop (mkF m 10 #[.val (.ref a1), .val (.int ((((0 : Int32) + own_b (decide ((0 : Int32) < x0))) + own_b (decide ((0 : Int32) < x1))) + own_b (decide ((0 : Int32) < x2)))), .val (.ref a1), .val (.int (4 : Int32)), .val (.int (3 : Int32)), .val (.int x2)] [])) _
    refine tn1 a1 ((((0 : Int32) + own_b (decide ((0 : Int32) < x0))) + own_b (decide ((0 : Int32) < x1))) + own_b (decide ((0 : Int32) < x2))) (4 : Int32) (3 : Int32) (4 : Int32) x3 (.val (.int x2)) ka [(.int x0), (.int x1), (.int x2), (.int x3)] X0 hx hZ hw hby hml hown e0 N0 Z0 V_a (by decide) ⟨by decide, by decide⟩ rfl (by decide) rfl _ ?_
    show Steps p.tables e below (s₁.setTop (mkF m 10 #[.val (.ref a1), .val (.int (((((0 : Int32) + own_b (decide ((0 : Int32) < x0))) + own_b (decide ((0 : Int32) < x1))) + own_b (decide ((0 : Int32) < x2))) + own_b (decide ((0 : Int32) < x3)))), .val (.ref a1), .val (.int (4 : Int32)), .val (.int (4 : Int32)), .val (.int x3)] [])) _
    refine XS.iload X0.here hx rfl (hb hby d2_10) rfl ?_
    show Steps p.tables e below (s₁.setTop (mkF m 12 #[.val (.ref a1), .val (.int (((((0 : Int32) + own_b (decide ((0 : Int32) < x0))) + own_b (decide ((0 : Int32) < x1))) + own_b (decide ((0 : Int32) < x2))) + own_b (decide ((0 : Int32) < x3)))), .val (.ref a1), .val (.int (4 : Int32)), .val (.int (4 : Int32)), .val (.int x3)] [(.int (4 : Int32))])) _
    refine XS.iloadN X0.here hx rfl (hb hby d2_12) rfl ?_
    show Steps p.tables e below (s₁.setTop (mkF m 13 #[.val (.ref a1), .val (.int (((((0 : Int32) + own_b (decide ((0 : Int32) < x0))) + own_b (decide ((0 : Int32) < x1))) + own_b (decide ((0 : Int32) < x2))) + own_b (decide ((0 : Int32) < x3)))), .val (.ref a1), .val (.int (4 : Int32)), .val (.int (4 : Int32)), .val (.int x3)] [(.int (4 : Int32)), (.int (4 : Int32))])) _
    refine XS.icmpYes X0.here hx rfl (pc0 := 13) (pc' := 36) rfl (hb hby d2_13) rfl (flt ((by decide) : ¬ ((4 : Int32) < (4 : Int32)))).2.1 (by decide) (by decide) ?_
    show Steps p.tables e below (s₁.setTop (mkF m 36 #[.val (.ref a1), .val (.int (((((0 : Int32) + own_b (decide ((0 : Int32) < x0))) + own_b (decide ((0 : Int32) < x1))) + own_b (decide ((0 : Int32) < x2))) + own_b (decide ((0 : Int32) < x3)))), .val (.ref a1), .val (.int (4 : Int32)), .val (.int (4 : Int32)), .val (.int x3)] [])) _
    refine XS.iloadN X0.here hx rfl (hb hby d2_36) rfl ?_
    show Steps p.tables e below (s₁.setTop (mkF m 37 #[.val (.ref a1), .val (.int (((((0 : Int32) + own_b (decide ((0 : Int32) < x0))) + own_b (decide ((0 : Int32) < x1))) + own_b (decide ((0 : Int32) < x2))) + own_b (decide ((0 : Int32) < x3)))), .val (.ref a1), .val (.int (4 : Int32)), .val (.int (4 : Int32)), .val (.int x3)] [(.int (((((0 : Int32) + own_b (decide ((0 : Int32) < x0))) + own_b (decide ((0 : Int32) < x1))) + own_b (decide ((0 : Int32) < x2))) + own_b (decide ((0 : Int32) < x3))))])) _
    refine st2 _ ?_
    show Steps p.tables e below (T2.setTop (mkF m 39 #[.val (.ref a1), .val (.int (((((0 : Int32) + own_b (decide ((0 : Int32) < x0))) + own_b (decide ((0 : Int32) < x1))) + own_b (decide ((0 : Int32) < x2))) + own_b (decide ((0 : Int32) < x3)))), .val (.ref a1), .val (.int (4 : Int32)), .val (.int (4 : Int32)), .val (.int x3)] [(.ref b2)])) _
    refine XS.astoreN X2.here hx rfl (hb hby d2_39) rfl rfl (l' := #[.val (.ref a1), .val (.int (((((0 : Int32) + own_b (decide ((0 : Int32) < x0))) + own_b (decide ((0 : Int32) < x1))) + own_b (decide ((0 : Int32) < x2))) + own_b (decide ((0 : Int32) < x3)))), .val (.ref b2), .val (.int (4 : Int32)), .val (.int (4 : Int32)), .val (.int x3)]) rfl ?_
    show Steps p.tables e below (T2.setTop (mkF m 40 #[.val (.ref a1), .val (.int (((((0 : Int32) + own_b (decide ((0 : Int32) < x0))) + own_b (decide ((0 : Int32) < x1))) + own_b (decide ((0 : Int32) < x2))) + own_b (decide ((0 : Int32) < x3)))), .val (.ref b2), .val (.int (4 : Int32)), .val (.int (4 : Int32)), .val (.int x3)] [])) _
    refine XS.iconst X2.here hx rfl (hb hby d2_40) ?_
    show Steps p.tables e below (T2.setTop (mkF m 41 #[.val (.ref a1), .val (.int (((((0 : Int32) + own_b (decide ((0 : Int32) < x0))) + own_b (decide ((0 : Int32) < x1))) + own_b (decide ((0 : Int32) < x2))) + own_b (decide ((0 : Int32) < x3)))), .val (.ref b2), .val (.int (4 : Int32)), .val (.int (4 : Int32)), .val (.int x3)] [(.int (0 : Int32))])) _
    refine XS.istoreN X2.here hx rfl (hb hby d2_41) rfl (l' := #[.val (.ref a1), .val (.int (((((0 : Int32) + own_b (decide ((0 : Int32) < x0))) + own_b (decide ((0 : Int32) < x1))) + own_b (decide ((0 : Int32) < x2))) + own_b (decide ((0 : Int32) < x3)))), .val (.ref b2), .val (.int (0 : Int32)), .val (.int (4 : Int32)), .val (.int x3)]) rfl ?_
    show Steps p.tables e below (T2.setTop (mkF m 42 #[.val (.ref a1), .val (.int (((((0 : Int32) + own_b (decide ((0 : Int32) < x0))) + own_b (decide ((0 : Int32) < x1))) + own_b (decide ((0 : Int32) < x2))) + own_b (decide ((0 : Int32) < x3)))), .val (.ref b2), .val (.int (0 : Int32)), .val (.int (4 : Int32)), .val (.int x3)] [])) _
    refine XS.iconst X2.here hx rfl (hb hby d2_42) ?_
    show Steps p.tables e below (T2.setTop (mkF m 43 #[.val (.ref a1), .val (.int (((((0 : Int32) + own_b (decide ((0 : Int32) < x0))) + own_b (decide ((0 : Int32) < x1))) + own_b (decide ((0 : Int32) < x2))) + own_b (decide ((0 : Int32) < x3)))), .val (.ref b2), .val (.int (0 : Int32)), .val (.int (4 : Int32)), .val (.int x3)] [(.int (0 : Int32))])) _
    refine XS.istore X2.here hx rfl (hb hby d2_43) rfl (l' := #[.val (.ref a1), .val (.int (((((0 : Int32) + own_b (decide ((0 : Int32) < x0))) + own_b (decide ((0 : Int32) < x1))) + own_b (decide ((0 : Int32) < x2))) + own_b (decide ((0 : Int32) < x3)))), .val (.ref b2), .val (.int (0 : Int32)), .val (.int (0 : Int32)), .val (.int x3)]) rfl ?_
    show Steps p.tables e below (T2.setTop (mkF m 45 #[.val (.ref a1), .val (.int (((((0 : Int32) + own_b (decide ((0 : Int32) < x0))) + own_b (decide ((0 : Int32) < x1))) + own_b (decide ((0 : Int32) < x2))) + own_b (decide ((0 : Int32) < x3)))), .val (.ref b2), .val (.int (0 : Int32)), .val (.int (0 : Int32)), .val (.int x3)] [])) _
    refine st3 _ ?_
    show Steps p.tables e below (T3.setTop (mkF m 45 #[.val (.ref a1), .val (.int (((((0 : Int32) + own_b (decide ((0 : Int32) < x0))) + own_b (decide ((0 : Int32) < x1))) + own_b (decide ((0 : Int32) < x2))) + own_b (decide ((0 : Int32) < x3)))), .val (.ref b2), .val (.int ((0 : Int32) + own_b (decide ((0 : Int32) < x0)))), .val (.int (1 : Int32)), .val (.int x3)] [])) _
    refine st4 _ ?_
    show Steps p.tables e below (T4.setTop (mkF m 45 #[.val (.ref a1), .val (.int (((((0 : Int32) + own_b (decide ((0 : Int32) < x0))) + own_b (decide ((0 : Int32) < x1))) + own_b (decide ((0 : Int32) < x2))) + own_b (decide ((0 : Int32) < x3)))), .val (.ref b2), .val (.int (((0 : Int32) + own_b (decide ((0 : Int32) < x0))) + own_b (decide ((0 : Int32) < x1)))), .val (.int (2 : Int32)), .val (.int x3)] [])) _
    refine st5 _ ?_
    show Steps p.tables e below (T5.setTop (mkF m 45 #[.val (.ref a1), .val (.int (((((0 : Int32) + own_b (decide ((0 : Int32) < x0))) + own_b (decide ((0 : Int32) < x1))) + own_b (decide ((0 : Int32) < x2))) + own_b (decide ((0 : Int32) < x3)))), .val (.ref b2), .val (.int ((((0 : Int32) + own_b (decide ((0 : Int32) < x0))) + own_b (decide ((0 : Int32) < x1))) + own_b (decide ((0 : Int32) < x2)))), .val (.int (3 : Int32)), .val (.int x3)] [])) _
    refine st6 _ ?_
    show Steps p.tables e below (T6.setTop (mkF m 45 #[.val (.ref a1), .val (.int (((((0 : Int32) + own_b (decide ((0 : Int32) < x0))) + own_b (decide ((0 : Int32) < x1))) + own_b (decide ((0 : Int32) < x2))) + own_b (decide ((0 : Int32) < x3)))), .val (.ref b2), .val (.int (((((0 : Int32) + own_b (decide ((0 : Int32) < x0))) + own_b (decide ((0 : Int32) < x1))) + own_b (decide ((0 : Int32) < x2))) + own_b (decide ((0 : Int32) < x3)))), .val (.int (4 : Int32)), .val (.int x3)] [])) _
    refine XS.iload X6.here hx rfl (hb hby d2_45) rfl ?_
    show Steps p.tables e below (T6.setTop (mkF m 47 #[.val (.ref a1), .val (.int (((((0 : Int32) + own_b (decide ((0 : Int32) < x0))) + own_b (decide ((0 : Int32) < x1))) + own_b (decide ((0 : Int32) < x2))) + own_b (decide ((0 : Int32) < x3)))), .val (.ref b2), .val (.int (((((0 : Int32) + own_b (decide ((0 : Int32) < x0))) + own_b (decide ((0 : Int32) < x1))) + own_b (decide ((0 : Int32) < x2))) + own_b (decide ((0 : Int32) < x3)))), .val (.int (4 : Int32)), .val (.int x3)] [(.int (4 : Int32))])) _
    refine XS.aloadN X6.here hx rfl (hb hby d2_47) rfl rfl ?_
    show Steps p.tables e below (T6.setTop (mkF m 48 #[.val (.ref a1), .val (.int (((((0 : Int32) + own_b (decide ((0 : Int32) < x0))) + own_b (decide ((0 : Int32) < x1))) + own_b (decide ((0 : Int32) < x2))) + own_b (decide ((0 : Int32) < x3)))), .val (.ref b2), .val (.int (((((0 : Int32) + own_b (decide ((0 : Int32) < x0))) + own_b (decide ((0 : Int32) < x1))) + own_b (decide ((0 : Int32) < x2))) + own_b (decide ((0 : Int32) < x3)))), .val (.int (4 : Int32)), .val (.int x3)] [(.ref a1), (.int (4 : Int32))])) _
    refine X6.arraylength hx (by rw [e6]; exact Ar7.1) (State.isArrayOf_alike hZ.alike Ar7.2.1) (g := (mkF m 48 #[.val (.ref a1), .val (.int (((((0 : Int32) + own_b (decide ((0 : Int32) < x0))) + own_b (decide ((0 : Int32) < x1))) + own_b (decide ((0 : Int32) < x2))) + own_b (decide ((0 : Int32) < x3)))), .val (.ref b2), .val (.int (((((0 : Int32) + own_b (decide ((0 : Int32) < x0))) + own_b (decide ((0 : Int32) < x1))) + own_b (decide ((0 : Int32) < x2))) + own_b (decide ((0 : Int32) < x3)))), .val (.int (4 : Int32)), .val (.int x3)] [(.ref a1), (.int (4 : Int32))])) rfl rfl (hb hby d2_48) _ ?_
    rw [len_of S7 M7]
    show Steps p.tables e below (T6.setTop (mkF m 49 #[.val (.ref a1), .val (.int (((((0 : Int32) + own_b (decide ((0 : Int32) < x0))) + own_b (decide ((0 : Int32) < x1))) + own_b (decide ((0 : Int32) < x2))) + own_b (decide ((0 : Int32) < x3)))), .val (.ref b2), .val (.int (((((0 : Int32) + own_b (decide ((0 : Int32) < x0))) + own_b (decide ((0 : Int32) < x1))) + own_b (decide ((0 : Int32) < x2))) + own_b (decide ((0 : Int32) < x3)))), .val (.int (4 : Int32)), .val (.int x3)] [(.int (4 : Int32)), (.int (4 : Int32))])) _
    refine XS.icmpYes X6.here hx rfl (pc0 := 49) (pc' := 73) rfl (hb hby d2_49) rfl (flt ((by decide) : ¬ ((4 : Int32) < (4 : Int32)))).2.1 (by decide) (by decide) ?_
    show Steps p.tables e below (T6.setTop (mkF m 73 #[.val (.ref a1), .val (.int (((((0 : Int32) + own_b (decide ((0 : Int32) < x0))) + own_b (decide ((0 : Int32) < x1))) + own_b (decide ((0 : Int32) < x2))) + own_b (decide ((0 : Int32) < x3)))), .val (.ref b2), .val (.int (((((0 : Int32) + own_b (decide ((0 : Int32) < x0))) + own_b (decide ((0 : Int32) < x1))) + own_b (decide ((0 : Int32) < x2))) + own_b (decide ((0 : Int32) < x3)))), .val (.int (4 : Int32)), .val (.int x3)] [])) _
    refine XS.aloadN X6.here hx rfl (hb hby d2_73) rfl rfl ?_
    show Steps p.tables e below (T6.setTop (mkF m 74 #[.val (.ref a1), .val (.int (((((0 : Int32) + own_b (decide ((0 : Int32) < x0))) + own_b (decide ((0 : Int32) < x1))) + own_b (decide ((0 : Int32) < x2))) + own_b (decide ((0 : Int32) < x3)))), .val (.ref b2), .val (.int (((((0 : Int32) + own_b (decide ((0 : Int32) < x0))) + own_b (decide ((0 : Int32) < x1))) + own_b (decide ((0 : Int32) < x2))) + own_b (decide ((0 : Int32) < x3)))), .val (.int (4 : Int32)), .val (.int x3)] [(.ref b2)])) _
    jvm_step X6.here [X6.here.top, hx, (hb hby d2_74), X6.method', Bd.returns, Value.isRef, FieldType.isReference]
    first | (intro acts; rw [hr _ acts rfl rfl rfl]) | rw [hr _ _ rfl rfl rfl]
    exact Steps.refl _
  · show QP Z a1 (((((0 : Int32) + own_b (decide ((0 : Int32) < x0))) + own_b (decide ((0 : Int32) < x1))) + own_b (decide ((0 : Int32) < x2))) + own_b (decide ((0 : Int32) < x3))) (own_set (decide ((0 : Int32) < x3)) (own_set (decide ((0 : Int32) < x2)) (own_set (decide ((0 : Int32) < x1)) (own_set (decide ((0 : Int32) < x0)) [(.int (0 : Int32)), (.int (0 : Int32)), (.int (0 : Int32)), (.int (0 : Int32))] (0 : Int32) (0 : Int32)) ((0 : Int32) + own_b (decide ((0 : Int32) < x0))) (1 : Int32)) (((0 : Int32) + own_b (decide ((0 : Int32) < x0))) + own_b (decide ((0 : Int32) < x1))) (2 : Int32)) ((((0 : Int32) + own_b (decide ((0 : Int32) < x0))) + own_b (decide ((0 : Int32) < x1))) + own_b (decide ((0 : Int32) < x2))) (3 : Int32)) h0 n0 _ T6.heap _
    rw [e6]
    exact ⟨by rw [g2], N6, KC6, ⟨_, (g2 ▸ Vr6)⟩⟩
set_option maxRecDepth 65536 in
set_option maxHeartbeats 40000000 in
theorem se0y {p : Program} {l : Launch} {e : Env} {R : Room} {s : State} {m : MethodId} {args : Array Value} {below : List Frame} {meth : Method} {c : Code} {T0 : State} {locs : List Loc} {cells slots : Nat} {Z : State} {a0 : Array Value} {h0 : Heap} {n0 : Nat} (p1 p2 p3 p4 p5 n5 w0 w1 w2 w3 : Int32) (aw ax : Addr) (k : Int32) (ke : ClassId) (vs : List Value) (X0 : Stand p l e R s m args below meth c T0 locs cells slots) (hx : p.tables.exec = Jvm.exec) (hZ : Z.Warmed39 s.vm) (hw : ∀ d ∈ tables_1, d.before a0 Z = true) (hby : c.code = code) (hml : c.maxLocals = 15) (hown : s.vm.findClass "com/example/steelyard/steelyard/CandidatesPositiveIndicesPinLaw" = some m.cls) (e0 : T0.heap = h0) (N0 : Fr n0 locs) (Z0 : n0 ≤ h0.size) (V_x : Arv Z h0 ax ke .int (4 : Int32) vs (.int (0 : Int32))) (g_x : n0 ≤ ax) (hn : (0 : Int32) < n5) (hk : ¬ k < 0 ∧ k < (4 : Int32)) (hl : k.toNatClampNeg < vs.length) (hq : (0 : Int32) < w0) :
    ∃ (T' : State) (h' : Heap) (locs' : List Loc), Stand p l e R s m args below meth c T' locs' cells slots ∧ T'.heap = h' ∧ Fr n0 locs' ∧ n0 ≤ h'.size ∧ Keep h0 h' [ax] ∧ Arv Z h' ax ke .int (4 : Int32) (vs.set k.toNatClampNeg (.int (0 : Int32))) (.int (0 : Int32)) ∧
      ∀ target, Steps p.tables e below (T'.setTop (mkF m 170 #[.val (.int p1), .val (.int p2), .val (.int p3), .val (.int p4), .val (.int p5), .val (.int n5), .val (.int w0), .val (.int w1), .val (.int w2), .val (.int w3), .val (.ref aw), .val (.ref ax), .val (.int (k + (1 : Int32))), .unset, .unset] [])) target → Steps p.tables e below (T0.setTop (mkF m 151 #[.val (.int p1), .val (.int p2), .val (.int p3), .val (.int p4), .val (.int p5), .val (.int n5), .val (.int w0), .val (.int w1), .val (.int w2), .val (.int w3), .val (.ref aw), .val (.ref ax), .val (.int k), .unset, .unset] [])) target := by
  obtain ⟨cl1, Ar1, q1, S1, M1, H1, G1⟩ := id V_x
  have hin2 : ¬ (k < 0 ∨ cl1.slots.size ≤ (k).toNatClampNeg) := inb_of S1 hk
  obtain ⟨T2, h2, X2, e2, W2, st2⟩ := stI X0 hx hZ e0 Ar1 (j := k) hin2 (g := (mkF m 166 #[.val (.int p1), .val (.int p2), .val (.int p3), .val (.int p4), .val (.int p5), .val (.int n5), .val (.int w0), .val (.int w1), .val (.int w2), .val (.int w3), .val (.ref aw), .val (.ref ax), .val (.int k), .unset, .unset] [(.int (0 : Int32)), (.int k), (.ref ax)])) rfl rfl (hb hby at_166)
  have V2 := Arv.set Ar1 q1 S1 M1 H1 G1 rfl W2 k.toNatClampNeg rfl hl
  have Z2 : n0 ≤ h2.size := Nat.le_trans Z0 (Keep.of_wr W2).1
  have KC2 : Keep h0 h2 [ax] := (Keep.refl h0 [ax]).wr W2 (Or.inl (List.mem_of_getElem? (i := 0) rfl))
  have N2 := Fr.snoc X2 N0 g_x
  refine ⟨T2, _, _, X2, e2, N2, Z2, KC2, V2, fun target kt => ?_⟩
  show Steps p.tables e below (T0.setTop (mkF m 151 #[.val (.int p1), .val (.int p2), .val (.int p3), .val (.int p4), .val (.int p5), .val (.int n5), .val (.int w0), .val (.int w1), .val (.int w2), .val (.int w3), .val (.ref aw), .val (.ref ax), .val (.int k), .unset, .unset] [])) _
  refine XS.iload X0.here hx rfl (hb hby at_151) rfl ?_
  show Steps p.tables e below (T0.setTop (mkF m 153 #[.val (.int p1), .val (.int p2), .val (.int p3), .val (.int p4), .val (.int p5), .val (.int n5), .val (.int w0), .val (.int w1), .val (.int w2), .val (.int w3), .val (.ref aw), .val (.ref ax), .val (.int k), .unset, .unset] [(.int n5)])) _
  refine XS.ifNo X0.here hx rfl (hb hby at_153) rfl ((if0 _ _).trans (tlt (hn : (0 : Int32) < n5)).2.2.2) ?_
  show Steps p.tables e below (T0.setTop (mkF m 156 #[.val (.int p1), .val (.int p2), .val (.int p3), .val (.int p4), .val (.int p5), .val (.int n5), .val (.int w0), .val (.int w1), .val (.int w2), .val (.int w3), .val (.ref aw), .val (.ref ax), .val (.int k), .unset, .unset] [])) _
  refine XS.iload X0.here hx rfl (hb hby at_156) rfl ?_
  show Steps p.tables e below (T0.setTop (mkF m 158 #[.val (.int p1), .val (.int p2), .val (.int p3), .val (.int p4), .val (.int p5), .val (.int n5), .val (.int w0), .val (.int w1), .val (.int w2), .val (.int w3), .val (.ref aw), .val (.ref ax), .val (.int k), .unset, .unset] [(.int w0)])) _
  refine XS.ifNo X0.here hx rfl (hb hby at_158) rfl ((if0 _ _).trans (tlt (hq : (0 : Int32) < w0)).2.2.2) ?_
  show Steps p.tables e below (T0.setTop (mkF m 161 #[.val (.int p1), .val (.int p2), .val (.int p3), .val (.int p4), .val (.int p5), .val (.int n5), .val (.int w0), .val (.int w1), .val (.int w2), .val (.int w3), .val (.ref aw), .val (.ref ax), .val (.int k), .unset, .unset] [])) _
  refine XS.aload X0.here hx rfl (hb hby at_161) rfl rfl ?_
  show Steps p.tables e below (T0.setTop (mkF m 163 #[.val (.int p1), .val (.int p2), .val (.int p3), .val (.int p4), .val (.int p5), .val (.int n5), .val (.int w0), .val (.int w1), .val (.int w2), .val (.int w3), .val (.ref aw), .val (.ref ax), .val (.int k), .unset, .unset] [(.ref ax)])) _
  refine XS.iload X0.here hx rfl (hb hby at_163) rfl ?_
  show Steps p.tables e below (T0.setTop (mkF m 165 #[.val (.int p1), .val (.int p2), .val (.int p3), .val (.int p4), .val (.int p5), .val (.int n5), .val (.int w0), .val (.int w1), .val (.int w2), .val (.int w3), .val (.ref aw), .val (.ref ax), .val (.int k), .unset, .unset] [(.int k), (.ref ax)])) _
  refine XS.iconst X0.here hx rfl (hb hby at_165) ?_
  show Steps p.tables e below (T0.setTop (mkF m 166 #[.val (.int p1), .val (.int p2), .val (.int p3), .val (.int p4), .val (.int p5), .val (.int n5), .val (.int w0), .val (.int w1), .val (.int w2), .val (.int w3), .val (.ref aw), .val (.ref ax), .val (.int k), .unset, .unset] [(.int (0 : Int32)), (.int k), (.ref ax)])) _
  refine st2 _ ?_
  show Steps p.tables e below (T2.setTop (mkF m 167 #[.val (.int p1), .val (.int p2), .val (.int p3), .val (.int p4), .val (.int p5), .val (.int n5), .val (.int w0), .val (.int w1), .val (.int w2), .val (.int w3), .val (.ref aw), .val (.ref ax), .val (.int k), .unset, .unset] [])) _
  refine XS.iinc X2.here hx rfl (hb hby at_167) rfl (l' := #[.val (.int p1), .val (.int p2), .val (.int p3), .val (.int p4), .val (.int p5), .val (.int n5), .val (.int w0), .val (.int w1), .val (.int w2), .val (.int w3), .val (.ref aw), .val (.ref ax), .val (.int (k + (1 : Int32))), .unset, .unset]) rfl ?_
  show Steps p.tables e below (T2.setTop (mkF m 170 #[.val (.int p1), .val (.int p2), .val (.int p3), .val (.int p4), .val (.int p5), .val (.int n5), .val (.int w0), .val (.int w1), .val (.int w2), .val (.int w3), .val (.ref aw), .val (.ref ax), .val (.int (k + (1 : Int32))), .unset, .unset] [])) _
  exact kt
set_option maxRecDepth 65536 in
set_option maxHeartbeats 40000000 in
theorem se0n {p : Program} {l : Launch} {e : Env} {R : Room} {s : State} {m : MethodId} {args : Array Value} {below : List Frame} {meth : Method} {c : Code} {T0 : State} {locs : List Loc} {cells slots : Nat} {Z : State} {a0 : Array Value} {h0 : Heap} {n0 : Nat} (p1 p2 p3 p4 p5 n5 w0 w1 w2 w3 : Int32) (aw ax : Addr) (k : Int32) (ke : ClassId) (vs : List Value) (X0 : Stand p l e R s m args below meth c T0 locs cells slots) (hx : p.tables.exec = Jvm.exec) (hZ : Z.Warmed39 s.vm) (hw : ∀ d ∈ tables_1, d.before a0 Z = true) (hby : c.code = code) (hml : c.maxLocals = 15) (hown : s.vm.findClass "com/example/steelyard/steelyard/CandidatesPositiveIndicesPinLaw" = some m.cls) (e0 : T0.heap = h0) (N0 : Fr n0 locs) (Z0 : n0 ≤ h0.size) (V_x : Arv Z h0 ax ke .int (4 : Int32) vs (.int (0 : Int32))) (g_x : n0 ≤ ax) (hn : (0 : Int32) < n5) (hk : ¬ k < 0 ∧ k < (4 : Int32)) (hl : k.toNatClampNeg < vs.length) (hq : ¬ ((0 : Int32) < w0)) :
    ∃ (T' : State) (h' : Heap) (locs' : List Loc), Stand p l e R s m args below meth c T' locs' cells slots ∧ T'.heap = h' ∧ Fr n0 locs' ∧ n0 ≤ h'.size ∧ Keep h0 h' [ax] ∧ Arv Z h' ax ke .int (4 : Int32) vs (.int (0 : Int32)) ∧
      ∀ target, Steps p.tables e below (T'.setTop (mkF m 170 #[.val (.int p1), .val (.int p2), .val (.int p3), .val (.int p4), .val (.int p5), .val (.int n5), .val (.int w0), .val (.int w1), .val (.int w2), .val (.int w3), .val (.ref aw), .val (.ref ax), .val (.int k), .unset, .unset] [])) target → Steps p.tables e below (T0.setTop (mkF m 151 #[.val (.int p1), .val (.int p2), .val (.int p3), .val (.int p4), .val (.int p5), .val (.int n5), .val (.int w0), .val (.int w1), .val (.int w2), .val (.int w3), .val (.ref aw), .val (.ref ax), .val (.int k), .unset, .unset] [])) target := by
  refine ⟨T0, _, _, X0, e0, N0, Z0, (Keep.refl h0 [ax]), V_x, fun target kt => ?_⟩
  show Steps p.tables e below (T0.setTop (mkF m 151 #[.val (.int p1), .val (.int p2), .val (.int p3), .val (.int p4), .val (.int p5), .val (.int n5), .val (.int w0), .val (.int w1), .val (.int w2), .val (.int w3), .val (.ref aw), .val (.ref ax), .val (.int k), .unset, .unset] [])) _
  refine XS.iload X0.here hx rfl (hb hby at_151) rfl ?_
  show Steps p.tables e below (T0.setTop (mkF m 153 #[.val (.int p1), .val (.int p2), .val (.int p3), .val (.int p4), .val (.int p5), .val (.int n5), .val (.int w0), .val (.int w1), .val (.int w2), .val (.int w3), .val (.ref aw), .val (.ref ax), .val (.int k), .unset, .unset] [(.int n5)])) _
  refine XS.ifNo X0.here hx rfl (hb hby at_153) rfl ((if0 _ _).trans (tlt (hn : (0 : Int32) < n5)).2.2.2) ?_
  show Steps p.tables e below (T0.setTop (mkF m 156 #[.val (.int p1), .val (.int p2), .val (.int p3), .val (.int p4), .val (.int p5), .val (.int n5), .val (.int w0), .val (.int w1), .val (.int w2), .val (.int w3), .val (.ref aw), .val (.ref ax), .val (.int k), .unset, .unset] [])) _
  refine XS.iload X0.here hx rfl (hb hby at_156) rfl ?_
  show Steps p.tables e below (T0.setTop (mkF m 158 #[.val (.int p1), .val (.int p2), .val (.int p3), .val (.int p4), .val (.int p5), .val (.int n5), .val (.int w0), .val (.int w1), .val (.int w2), .val (.int w3), .val (.ref aw), .val (.ref ax), .val (.int k), .unset, .unset] [(.int w0)])) _
  refine XS.ifYes X0.here hx rfl (pc0 := 158) (pc' := 170) rfl (hb hby at_158) rfl ((if0 _ _).trans (flt (hq : ¬ ((0 : Int32) < w0))).2.2.2) (by decide) (by decide) ?_
  show Steps p.tables e below (T0.setTop (mkF m 170 #[.val (.int p1), .val (.int p2), .val (.int p3), .val (.int p4), .val (.int p5), .val (.int n5), .val (.int w0), .val (.int w1), .val (.int w2), .val (.int w3), .val (.ref aw), .val (.ref ax), .val (.int k), .unset, .unset] [])) _
  exact kt
theorem se0 {p : Program} {l : Launch} {e : Env} {R : Room} {s : State} {m : MethodId} {args : Array Value} {below : List Frame} {meth : Method} {c : Code} {T0 : State} {locs : List Loc} {cells slots : Nat} {Z : State} {a0 : Array Value} {h0 : Heap} {n0 : Nat} (p1 p2 p3 p4 p5 n5 w0 w1 w2 w3 : Int32) (aw ax : Addr) (k : Int32) (ke : ClassId) (vs : List Value) (X0 : Stand p l e R s m args below meth c T0 locs cells slots) (hx : p.tables.exec = Jvm.exec) (hZ : Z.Warmed39 s.vm) (hw : ∀ d ∈ tables_1, d.before a0 Z = true) (hby : c.code = code) (hml : c.maxLocals = 15) (hown : s.vm.findClass "com/example/steelyard/steelyard/CandidatesPositiveIndicesPinLaw" = some m.cls) (e0 : T0.heap = h0) (N0 : Fr n0 locs) (Z0 : n0 ≤ h0.size) (V_x : Arv Z h0 ax ke .int (4 : Int32) vs (.int (0 : Int32))) (g_x : n0 ≤ ax) (hn : (0 : Int32) < n5) (hk : ¬ k < 0 ∧ k < (4 : Int32)) (hl : k.toNatClampNeg < vs.length) :
    ∃ (T' : State) (h' : Heap) (locs' : List Loc), Stand p l e R s m args below meth c T' locs' cells slots ∧ T'.heap = h' ∧ Fr n0 locs' ∧ n0 ≤ h'.size ∧ Keep h0 h' [ax] ∧ Arv Z h' ax ke .int (4 : Int32) (own_set (decide ((0 : Int32) < w0)) vs k (0 : Int32)) (.int (0 : Int32)) ∧
      ∀ target, Steps p.tables e below (T'.setTop (mkF m 170 #[.val (.int p1), .val (.int p2), .val (.int p3), .val (.int p4), .val (.int p5), .val (.int n5), .val (.int w0), .val (.int w1), .val (.int w2), .val (.int w3), .val (.ref aw), .val (.ref ax), .val (.int (k + own_b (decide ((0 : Int32) < w0)))), .unset, .unset] [])) target → Steps p.tables e below (T0.setTop (mkF m 151 #[.val (.int p1), .val (.int p2), .val (.int p3), .val (.int p4), .val (.int p5), .val (.int n5), .val (.int w0), .val (.int w1), .val (.int w2), .val (.int w3), .val (.ref aw), .val (.ref ax), .val (.int k), .unset, .unset] [])) target := by
  by_cases hq : (0 : Int32) < w0
  · rw [decide_eq_true hq]; exact se0y p1 p2 p3 p4 p5 n5 w0 w1 w2 w3 aw ax k ke vs X0 hx hZ hw hby hml hown e0 N0 Z0 V_x g_x hn hk hl hq
  · rw [decide_eq_false hq, own_k0]; exact se0n p1 p2 p3 p4 p5 n5 w0 w1 w2 w3 aw ax k ke vs X0 hx hZ hw hby hml hown e0 N0 Z0 V_x g_x hn hk hl hq
set_option maxRecDepth 65536 in
set_option maxHeartbeats 40000000 in
theorem se1y {p : Program} {l : Launch} {e : Env} {R : Room} {s : State} {m : MethodId} {args : Array Value} {below : List Frame} {meth : Method} {c : Code} {T0 : State} {locs : List Loc} {cells slots : Nat} {Z : State} {a0 : Array Value} {h0 : Heap} {n0 : Nat} (p1 p2 p3 p4 p5 n5 w0 w1 w2 w3 : Int32) (aw ax : Addr) (k : Int32) (ke : ClassId) (vs : List Value) (X0 : Stand p l e R s m args below meth c T0 locs cells slots) (hx : p.tables.exec = Jvm.exec) (hZ : Z.Warmed39 s.vm) (hw : ∀ d ∈ tables_1, d.before a0 Z = true) (hby : c.code = code) (hml : c.maxLocals = 15) (hown : s.vm.findClass "com/example/steelyard/steelyard/CandidatesPositiveIndicesPinLaw" = some m.cls) (e0 : T0.heap = h0) (N0 : Fr n0 locs) (Z0 : n0 ≤ h0.size) (V_x : Arv Z h0 ax ke .int (4 : Int32) vs (.int (0 : Int32))) (g_x : n0 ≤ ax) (hn : (1 : Int32) < n5) (hk : ¬ k < 0 ∧ k < (4 : Int32)) (hl : k.toNatClampNeg < vs.length) (hq : (0 : Int32) < w1) :
    ∃ (T' : State) (h' : Heap) (locs' : List Loc), Stand p l e R s m args below meth c T' locs' cells slots ∧ T'.heap = h' ∧ Fr n0 locs' ∧ n0 ≤ h'.size ∧ Keep h0 h' [ax] ∧ Arv Z h' ax ke .int (4 : Int32) (vs.set k.toNatClampNeg (.int (1 : Int32))) (.int (0 : Int32)) ∧
      ∀ target, Steps p.tables e below (T'.setTop (mkF m 190 #[.val (.int p1), .val (.int p2), .val (.int p3), .val (.int p4), .val (.int p5), .val (.int n5), .val (.int w0), .val (.int w1), .val (.int w2), .val (.int w3), .val (.ref aw), .val (.ref ax), .val (.int (k + (1 : Int32))), .unset, .unset] [])) target → Steps p.tables e below (T0.setTop (mkF m 170 #[.val (.int p1), .val (.int p2), .val (.int p3), .val (.int p4), .val (.int p5), .val (.int n5), .val (.int w0), .val (.int w1), .val (.int w2), .val (.int w3), .val (.ref aw), .val (.ref ax), .val (.int k), .unset, .unset] [])) target := by
  obtain ⟨cl1, Ar1, q1, S1, M1, H1, G1⟩ := id V_x
  have hin2 : ¬ (k < 0 ∨ cl1.slots.size ≤ (k).toNatClampNeg) := inb_of S1 hk
  obtain ⟨T2, h2, X2, e2, W2, st2⟩ := stI X0 hx hZ e0 Ar1 (j := k) hin2 (g := (mkF m 186 #[.val (.int p1), .val (.int p2), .val (.int p3), .val (.int p4), .val (.int p5), .val (.int n5), .val (.int w0), .val (.int w1), .val (.int w2), .val (.int w3), .val (.ref aw), .val (.ref ax), .val (.int k), .unset, .unset] [(.int (1 : Int32)), (.int k), (.ref ax)])) rfl rfl (hb hby at_186)
  have V2 := Arv.set Ar1 q1 S1 M1 H1 G1 rfl W2 k.toNatClampNeg rfl hl
  have Z2 : n0 ≤ h2.size := Nat.le_trans Z0 (Keep.of_wr W2).1
  have KC2 : Keep h0 h2 [ax] := (Keep.refl h0 [ax]).wr W2 (Or.inl (List.mem_of_getElem? (i := 0) rfl))
  have N2 := Fr.snoc X2 N0 g_x
  refine ⟨T2, _, _, X2, e2, N2, Z2, KC2, V2, fun target kt => ?_⟩
  show Steps p.tables e below (T0.setTop (mkF m 170 #[.val (.int p1), .val (.int p2), .val (.int p3), .val (.int p4), .val (.int p5), .val (.int n5), .val (.int w0), .val (.int w1), .val (.int w2), .val (.int w3), .val (.ref aw), .val (.ref ax), .val (.int k), .unset, .unset] [])) _
  refine XS.iload X0.here hx rfl (hb hby at_170) rfl ?_
  show Steps p.tables e below (T0.setTop (mkF m 172 #[.val (.int p1), .val (.int p2), .val (.int p3), .val (.int p4), .val (.int p5), .val (.int n5), .val (.int w0), .val (.int w1), .val (.int w2), .val (.int w3), .val (.ref aw), .val (.ref ax), .val (.int k), .unset, .unset] [(.int n5)])) _
  refine XS.iconst X0.here hx rfl (hb hby at_172) ?_
  show Steps p.tables e below (T0.setTop (mkF m 173 #[.val (.int p1), .val (.int p2), .val (.int p3), .val (.int p4), .val (.int p5), .val (.int n5), .val (.int w0), .val (.int w1), .val (.int w2), .val (.int w3), .val (.ref aw), .val (.ref ax), .val (.int k), .unset, .unset] [(.int (1 : Int32)), (.int n5)])) _
  refine XS.icmpNo X0.here hx rfl (hb hby at_173) rfl (tlt (hn : (1 : Int32) < n5)).2.2.2 ?_
  show Steps p.tables e below (T0.setTop (mkF m 176 #[.val (.int p1), .val (.int p2), .val (.int p3), .val (.int p4), .val (.int p5), .val (.int n5), .val (.int w0), .val (.int w1), .val (.int w2), .val (.int w3), .val (.ref aw), .val (.ref ax), .val (.int k), .unset, .unset] [])) _
  refine XS.iload X0.here hx rfl (hb hby at_176) rfl ?_
  show Steps p.tables e below (T0.setTop (mkF m 178 #[.val (.int p1), .val (.int p2), .val (.int p3), .val (.int p4), .val (.int p5), .val (.int n5), .val (.int w0), .val (.int w1), .val (.int w2), .val (.int w3), .val (.ref aw), .val (.ref ax), .val (.int k), .unset, .unset] [(.int w1)])) _
  refine XS.ifNo X0.here hx rfl (hb hby at_178) rfl ((if0 _ _).trans (tlt (hq : (0 : Int32) < w1)).2.2.2) ?_
  show Steps p.tables e below (T0.setTop (mkF m 181 #[.val (.int p1), .val (.int p2), .val (.int p3), .val (.int p4), .val (.int p5), .val (.int n5), .val (.int w0), .val (.int w1), .val (.int w2), .val (.int w3), .val (.ref aw), .val (.ref ax), .val (.int k), .unset, .unset] [])) _
  refine XS.aload X0.here hx rfl (hb hby at_181) rfl rfl ?_
  show Steps p.tables e below (T0.setTop (mkF m 183 #[.val (.int p1), .val (.int p2), .val (.int p3), .val (.int p4), .val (.int p5), .val (.int n5), .val (.int w0), .val (.int w1), .val (.int w2), .val (.int w3), .val (.ref aw), .val (.ref ax), .val (.int k), .unset, .unset] [(.ref ax)])) _
  refine XS.iload X0.here hx rfl (hb hby at_183) rfl ?_
  show Steps p.tables e below (T0.setTop (mkF m 185 #[.val (.int p1), .val (.int p2), .val (.int p3), .val (.int p4), .val (.int p5), .val (.int n5), .val (.int w0), .val (.int w1), .val (.int w2), .val (.int w3), .val (.ref aw), .val (.ref ax), .val (.int k), .unset, .unset] [(.int k), (.ref ax)])) _
  refine XS.iconst X0.here hx rfl (hb hby at_185) ?_
  show Steps p.tables e below (T0.setTop (mkF m 186 #[.val (.int p1), .val (.int p2), .val (.int p3), .val (.int p4), .val (.int p5), .val (.int n5), .val (.int w0), .val (.int w1), .val (.int w2), .val (.int w3), .val (.ref aw), .val (.ref ax), .val (.int k), .unset, .unset] [(.int (1 : Int32)), (.int k), (.ref ax)])) _
  refine st2 _ ?_
  show Steps p.tables e below (T2.setTop (mkF m 187 #[.val (.int p1), .val (.int p2), .val (.int p3), .val (.int p4), .val (.int p5), .val (.int n5), .val (.int w0), .val (.int w1), .val (.int w2), .val (.int w3), .val (.ref aw), .val (.ref ax), .val (.int k), .unset, .unset] [])) _
  refine XS.iinc X2.here hx rfl (hb hby at_187) rfl (l' := #[.val (.int p1), .val (.int p2), .val (.int p3), .val (.int p4), .val (.int p5), .val (.int n5), .val (.int w0), .val (.int w1), .val (.int w2), .val (.int w3), .val (.ref aw), .val (.ref ax), .val (.int (k + (1 : Int32))), .unset, .unset]) rfl ?_
  show Steps p.tables e below (T2.setTop (mkF m 190 #[.val (.int p1), .val (.int p2), .val (.int p3), .val (.int p4), .val (.int p5), .val (.int n5), .val (.int w0), .val (.int w1), .val (.int w2), .val (.int w3), .val (.ref aw), .val (.ref ax), .val (.int (k + (1 : Int32))), .unset, .unset] [])) _
  exact kt
set_option maxRecDepth 65536 in
set_option maxHeartbeats 40000000 in
theorem se1n {p : Program} {l : Launch} {e : Env} {R : Room} {s : State} {m : MethodId} {args : Array Value} {below : List Frame} {meth : Method} {c : Code} {T0 : State} {locs : List Loc} {cells slots : Nat} {Z : State} {a0 : Array Value} {h0 : Heap} {n0 : Nat} (p1 p2 p3 p4 p5 n5 w0 w1 w2 w3 : Int32) (aw ax : Addr) (k : Int32) (ke : ClassId) (vs : List Value) (X0 : Stand p l e R s m args below meth c T0 locs cells slots) (hx : p.tables.exec = Jvm.exec) (hZ : Z.Warmed39 s.vm) (hw : ∀ d ∈ tables_1, d.before a0 Z = true) (hby : c.code = code) (hml : c.maxLocals = 15) (hown : s.vm.findClass "com/example/steelyard/steelyard/CandidatesPositiveIndicesPinLaw" = some m.cls) (e0 : T0.heap = h0) (N0 : Fr n0 locs) (Z0 : n0 ≤ h0.size) (V_x : Arv Z h0 ax ke .int (4 : Int32) vs (.int (0 : Int32))) (g_x : n0 ≤ ax) (hn : (1 : Int32) < n5) (hk : ¬ k < 0 ∧ k < (4 : Int32)) (hl : k.toNatClampNeg < vs.length) (hq : ¬ ((0 : Int32) < w1)) :
    ∃ (T' : State) (h' : Heap) (locs' : List Loc), Stand p l e R s m args below meth c T' locs' cells slots ∧ T'.heap = h' ∧ Fr n0 locs' ∧ n0 ≤ h'.size ∧ Keep h0 h' [ax] ∧ Arv Z h' ax ke .int (4 : Int32) vs (.int (0 : Int32)) ∧
      ∀ target, Steps p.tables e below (T'.setTop (mkF m 190 #[.val (.int p1), .val (.int p2), .val (.int p3), .val (.int p4), .val (.int p5), .val (.int n5), .val (.int w0), .val (.int w1), .val (.int w2), .val (.int w3), .val (.ref aw), .val (.ref ax), .val (.int k), .unset, .unset] [])) target → Steps p.tables e below (T0.setTop (mkF m 170 #[.val (.int p1), .val (.int p2), .val (.int p3), .val (.int p4), .val (.int p5), .val (.int n5), .val (.int w0), .val (.int w1), .val (.int w2), .val (.int w3), .val (.ref aw), .val (.ref ax), .val (.int k), .unset, .unset] [])) target := by
  refine ⟨T0, _, _, X0, e0, N0, Z0, (Keep.refl h0 [ax]), V_x, fun target kt => ?_⟩
  show Steps p.tables e below (T0.setTop (mkF m 170 #[.val (.int p1), .val (.int p2), .val (.int p3), .val (.int p4), .val (.int p5), .val (.int n5), .val (.int w0), .val (.int w1), .val (.int w2), .val (.int w3), .val (.ref aw), .val (.ref ax), .val (.int k), .unset, .unset] [])) _
  refine XS.iload X0.here hx rfl (hb hby at_170) rfl ?_
  show Steps p.tables e below (T0.setTop (mkF m 172 #[.val (.int p1), .val (.int p2), .val (.int p3), .val (.int p4), .val (.int p5), .val (.int n5), .val (.int w0), .val (.int w1), .val (.int w2), .val (.int w3), .val (.ref aw), .val (.ref ax), .val (.int k), .unset, .unset] [(.int n5)])) _
  refine XS.iconst X0.here hx rfl (hb hby at_172) ?_
  show Steps p.tables e below (T0.setTop (mkF m 173 #[.val (.int p1), .val (.int p2), .val (.int p3), .val (.int p4), .val (.int p5), .val (.int n5), .val (.int w0), .val (.int w1), .val (.int w2), .val (.int w3), .val (.ref aw), .val (.ref ax), .val (.int k), .unset, .unset] [(.int (1 : Int32)), (.int n5)])) _
  refine XS.icmpNo X0.here hx rfl (hb hby at_173) rfl (tlt (hn : (1 : Int32) < n5)).2.2.2 ?_
  show Steps p.tables e below (T0.setTop (mkF m 176 #[.val (.int p1), .val (.int p2), .val (.int p3), .val (.int p4), .val (.int p5), .val (.int n5), .val (.int w0), .val (.int w1), .val (.int w2), .val (.int w3), .val (.ref aw), .val (.ref ax), .val (.int k), .unset, .unset] [])) _
  refine XS.iload X0.here hx rfl (hb hby at_176) rfl ?_
  show Steps p.tables e below (T0.setTop (mkF m 178 #[.val (.int p1), .val (.int p2), .val (.int p3), .val (.int p4), .val (.int p5), .val (.int n5), .val (.int w0), .val (.int w1), .val (.int w2), .val (.int w3), .val (.ref aw), .val (.ref ax), .val (.int k), .unset, .unset] [(.int w1)])) _
  refine XS.ifYes X0.here hx rfl (pc0 := 178) (pc' := 190) rfl (hb hby at_178) rfl ((if0 _ _).trans (flt (hq : ¬ ((0 : Int32) < w1))).2.2.2) (by decide) (by decide) ?_
  show Steps p.tables e below (T0.setTop (mkF m 190 #[.val (.int p1), .val (.int p2), .val (.int p3), .val (.int p4), .val (.int p5), .val (.int n5), .val (.int w0), .val (.int w1), .val (.int w2), .val (.int w3), .val (.ref aw), .val (.ref ax), .val (.int k), .unset, .unset] [])) _
  exact kt
theorem se1 {p : Program} {l : Launch} {e : Env} {R : Room} {s : State} {m : MethodId} {args : Array Value} {below : List Frame} {meth : Method} {c : Code} {T0 : State} {locs : List Loc} {cells slots : Nat} {Z : State} {a0 : Array Value} {h0 : Heap} {n0 : Nat} (p1 p2 p3 p4 p5 n5 w0 w1 w2 w3 : Int32) (aw ax : Addr) (k : Int32) (ke : ClassId) (vs : List Value) (X0 : Stand p l e R s m args below meth c T0 locs cells slots) (hx : p.tables.exec = Jvm.exec) (hZ : Z.Warmed39 s.vm) (hw : ∀ d ∈ tables_1, d.before a0 Z = true) (hby : c.code = code) (hml : c.maxLocals = 15) (hown : s.vm.findClass "com/example/steelyard/steelyard/CandidatesPositiveIndicesPinLaw" = some m.cls) (e0 : T0.heap = h0) (N0 : Fr n0 locs) (Z0 : n0 ≤ h0.size) (V_x : Arv Z h0 ax ke .int (4 : Int32) vs (.int (0 : Int32))) (g_x : n0 ≤ ax) (hn : (1 : Int32) < n5) (hk : ¬ k < 0 ∧ k < (4 : Int32)) (hl : k.toNatClampNeg < vs.length) :
    ∃ (T' : State) (h' : Heap) (locs' : List Loc), Stand p l e R s m args below meth c T' locs' cells slots ∧ T'.heap = h' ∧ Fr n0 locs' ∧ n0 ≤ h'.size ∧ Keep h0 h' [ax] ∧ Arv Z h' ax ke .int (4 : Int32) (own_set (decide ((0 : Int32) < w1)) vs k (1 : Int32)) (.int (0 : Int32)) ∧
      ∀ target, Steps p.tables e below (T'.setTop (mkF m 190 #[.val (.int p1), .val (.int p2), .val (.int p3), .val (.int p4), .val (.int p5), .val (.int n5), .val (.int w0), .val (.int w1), .val (.int w2), .val (.int w3), .val (.ref aw), .val (.ref ax), .val (.int (k + own_b (decide ((0 : Int32) < w1)))), .unset, .unset] [])) target → Steps p.tables e below (T0.setTop (mkF m 170 #[.val (.int p1), .val (.int p2), .val (.int p3), .val (.int p4), .val (.int p5), .val (.int n5), .val (.int w0), .val (.int w1), .val (.int w2), .val (.int w3), .val (.ref aw), .val (.ref ax), .val (.int k), .unset, .unset] [])) target := by
  by_cases hq : (0 : Int32) < w1
  · rw [decide_eq_true hq]; exact se1y p1 p2 p3 p4 p5 n5 w0 w1 w2 w3 aw ax k ke vs X0 hx hZ hw hby hml hown e0 N0 Z0 V_x g_x hn hk hl hq
  · rw [decide_eq_false hq, own_k0]; exact se1n p1 p2 p3 p4 p5 n5 w0 w1 w2 w3 aw ax k ke vs X0 hx hZ hw hby hml hown e0 N0 Z0 V_x g_x hn hk hl hq
set_option maxRecDepth 65536 in
set_option maxHeartbeats 40000000 in
theorem se2y {p : Program} {l : Launch} {e : Env} {R : Room} {s : State} {m : MethodId} {args : Array Value} {below : List Frame} {meth : Method} {c : Code} {T0 : State} {locs : List Loc} {cells slots : Nat} {Z : State} {a0 : Array Value} {h0 : Heap} {n0 : Nat} (p1 p2 p3 p4 p5 n5 w0 w1 w2 w3 : Int32) (aw ax : Addr) (k : Int32) (ke : ClassId) (vs : List Value) (X0 : Stand p l e R s m args below meth c T0 locs cells slots) (hx : p.tables.exec = Jvm.exec) (hZ : Z.Warmed39 s.vm) (hw : ∀ d ∈ tables_1, d.before a0 Z = true) (hby : c.code = code) (hml : c.maxLocals = 15) (hown : s.vm.findClass "com/example/steelyard/steelyard/CandidatesPositiveIndicesPinLaw" = some m.cls) (e0 : T0.heap = h0) (N0 : Fr n0 locs) (Z0 : n0 ≤ h0.size) (V_x : Arv Z h0 ax ke .int (4 : Int32) vs (.int (0 : Int32))) (g_x : n0 ≤ ax) (hn : (2 : Int32) < n5) (hk : ¬ k < 0 ∧ k < (4 : Int32)) (hl : k.toNatClampNeg < vs.length) (hq : (0 : Int32) < w2) :
    ∃ (T' : State) (h' : Heap) (locs' : List Loc), Stand p l e R s m args below meth c T' locs' cells slots ∧ T'.heap = h' ∧ Fr n0 locs' ∧ n0 ≤ h'.size ∧ Keep h0 h' [ax] ∧ Arv Z h' ax ke .int (4 : Int32) (vs.set k.toNatClampNeg (.int (2 : Int32))) (.int (0 : Int32)) ∧
      ∀ target, Steps p.tables e below (T'.setTop (mkF m 210 #[.val (.int p1), .val (.int p2), .val (.int p3), .val (.int p4), .val (.int p5), .val (.int n5), .val (.int w0), .val (.int w1), .val (.int w2), .val (.int w3), .val (.ref aw), .val (.ref ax), .val (.int (k + (1 : Int32))), .unset, .unset] [])) target → Steps p.tables e below (T0.setTop (mkF m 190 #[.val (.int p1), .val (.int p2), .val (.int p3), .val (.int p4), .val (.int p5), .val (.int n5), .val (.int w0), .val (.int w1), .val (.int w2), .val (.int w3), .val (.ref aw), .val (.ref ax), .val (.int k), .unset, .unset] [])) target := by
  obtain ⟨cl1, Ar1, q1, S1, M1, H1, G1⟩ := id V_x
  have hin2 : ¬ (k < 0 ∨ cl1.slots.size ≤ (k).toNatClampNeg) := inb_of S1 hk
  obtain ⟨T2, h2, X2, e2, W2, st2⟩ := stI X0 hx hZ e0 Ar1 (j := k) hin2 (g := (mkF m 206 #[.val (.int p1), .val (.int p2), .val (.int p3), .val (.int p4), .val (.int p5), .val (.int n5), .val (.int w0), .val (.int w1), .val (.int w2), .val (.int w3), .val (.ref aw), .val (.ref ax), .val (.int k), .unset, .unset] [(.int (2 : Int32)), (.int k), (.ref ax)])) rfl rfl (hb hby at_206)
  have V2 := Arv.set Ar1 q1 S1 M1 H1 G1 rfl W2 k.toNatClampNeg rfl hl
  have Z2 : n0 ≤ h2.size := Nat.le_trans Z0 (Keep.of_wr W2).1
  have KC2 : Keep h0 h2 [ax] := (Keep.refl h0 [ax]).wr W2 (Or.inl (List.mem_of_getElem? (i := 0) rfl))
  have N2 := Fr.snoc X2 N0 g_x
  refine ⟨T2, _, _, X2, e2, N2, Z2, KC2, V2, fun target kt => ?_⟩
  show Steps p.tables e below (T0.setTop (mkF m 190 #[.val (.int p1), .val (.int p2), .val (.int p3), .val (.int p4), .val (.int p5), .val (.int n5), .val (.int w0), .val (.int w1), .val (.int w2), .val (.int w3), .val (.ref aw), .val (.ref ax), .val (.int k), .unset, .unset] [])) _
  refine XS.iload X0.here hx rfl (hb hby at_190) rfl ?_
  show Steps p.tables e below (T0.setTop (mkF m 192 #[.val (.int p1), .val (.int p2), .val (.int p3), .val (.int p4), .val (.int p5), .val (.int n5), .val (.int w0), .val (.int w1), .val (.int w2), .val (.int w3), .val (.ref aw), .val (.ref ax), .val (.int k), .unset, .unset] [(.int n5)])) _
  refine XS.iconst X0.here hx rfl (hb hby at_192) ?_
  show Steps p.tables e below (T0.setTop (mkF m 193 #[.val (.int p1), .val (.int p2), .val (.int p3), .val (.int p4), .val (.int p5), .val (.int n5), .val (.int w0), .val (.int w1), .val (.int w2), .val (.int w3), .val (.ref aw), .val (.ref ax), .val (.int k), .unset, .unset] [(.int (2 : Int32)), (.int n5)])) _
  refine XS.icmpNo X0.here hx rfl (hb hby at_193) rfl (tlt (hn : (2 : Int32) < n5)).2.2.2 ?_
  show Steps p.tables e below (T0.setTop (mkF m 196 #[.val (.int p1), .val (.int p2), .val (.int p3), .val (.int p4), .val (.int p5), .val (.int n5), .val (.int w0), .val (.int w1), .val (.int w2), .val (.int w3), .val (.ref aw), .val (.ref ax), .val (.int k), .unset, .unset] [])) _
  refine XS.iload X0.here hx rfl (hb hby at_196) rfl ?_
  show Steps p.tables e below (T0.setTop (mkF m 198 #[.val (.int p1), .val (.int p2), .val (.int p3), .val (.int p4), .val (.int p5), .val (.int n5), .val (.int w0), .val (.int w1), .val (.int w2), .val (.int w3), .val (.ref aw), .val (.ref ax), .val (.int k), .unset, .unset] [(.int w2)])) _
  refine XS.ifNo X0.here hx rfl (hb hby at_198) rfl ((if0 _ _).trans (tlt (hq : (0 : Int32) < w2)).2.2.2) ?_
  show Steps p.tables e below (T0.setTop (mkF m 201 #[.val (.int p1), .val (.int p2), .val (.int p3), .val (.int p4), .val (.int p5), .val (.int n5), .val (.int w0), .val (.int w1), .val (.int w2), .val (.int w3), .val (.ref aw), .val (.ref ax), .val (.int k), .unset, .unset] [])) _
  refine XS.aload X0.here hx rfl (hb hby at_201) rfl rfl ?_
  show Steps p.tables e below (T0.setTop (mkF m 203 #[.val (.int p1), .val (.int p2), .val (.int p3), .val (.int p4), .val (.int p5), .val (.int n5), .val (.int w0), .val (.int w1), .val (.int w2), .val (.int w3), .val (.ref aw), .val (.ref ax), .val (.int k), .unset, .unset] [(.ref ax)])) _
  refine XS.iload X0.here hx rfl (hb hby at_203) rfl ?_
  show Steps p.tables e below (T0.setTop (mkF m 205 #[.val (.int p1), .val (.int p2), .val (.int p3), .val (.int p4), .val (.int p5), .val (.int n5), .val (.int w0), .val (.int w1), .val (.int w2), .val (.int w3), .val (.ref aw), .val (.ref ax), .val (.int k), .unset, .unset] [(.int k), (.ref ax)])) _
  refine XS.iconst X0.here hx rfl (hb hby at_205) ?_
  show Steps p.tables e below (T0.setTop (mkF m 206 #[.val (.int p1), .val (.int p2), .val (.int p3), .val (.int p4), .val (.int p5), .val (.int n5), .val (.int w0), .val (.int w1), .val (.int w2), .val (.int w3), .val (.ref aw), .val (.ref ax), .val (.int k), .unset, .unset] [(.int (2 : Int32)), (.int k), (.ref ax)])) _
  refine st2 _ ?_
  show Steps p.tables e below (T2.setTop (mkF m 207 #[.val (.int p1), .val (.int p2), .val (.int p3), .val (.int p4), .val (.int p5), .val (.int n5), .val (.int w0), .val (.int w1), .val (.int w2), .val (.int w3), .val (.ref aw), .val (.ref ax), .val (.int k), .unset, .unset] [])) _
  refine XS.iinc X2.here hx rfl (hb hby at_207) rfl (l' := #[.val (.int p1), .val (.int p2), .val (.int p3), .val (.int p4), .val (.int p5), .val (.int n5), .val (.int w0), .val (.int w1), .val (.int w2), .val (.int w3), .val (.ref aw), .val (.ref ax), .val (.int (k + (1 : Int32))), .unset, .unset]) rfl ?_
  show Steps p.tables e below (T2.setTop (mkF m 210 #[.val (.int p1), .val (.int p2), .val (.int p3), .val (.int p4), .val (.int p5), .val (.int n5), .val (.int w0), .val (.int w1), .val (.int w2), .val (.int w3), .val (.ref aw), .val (.ref ax), .val (.int (k + (1 : Int32))), .unset, .unset] [])) _
  exact kt
set_option maxRecDepth 65536 in
set_option maxHeartbeats 40000000 in
theorem se2n {p : Program} {l : Launch} {e : Env} {R : Room} {s : State} {m : MethodId} {args : Array Value} {below : List Frame} {meth : Method} {c : Code} {T0 : State} {locs : List Loc} {cells slots : Nat} {Z : State} {a0 : Array Value} {h0 : Heap} {n0 : Nat} (p1 p2 p3 p4 p5 n5 w0 w1 w2 w3 : Int32) (aw ax : Addr) (k : Int32) (ke : ClassId) (vs : List Value) (X0 : Stand p l e R s m args below meth c T0 locs cells slots) (hx : p.tables.exec = Jvm.exec) (hZ : Z.Warmed39 s.vm) (hw : ∀ d ∈ tables_1, d.before a0 Z = true) (hby : c.code = code) (hml : c.maxLocals = 15) (hown : s.vm.findClass "com/example/steelyard/steelyard/CandidatesPositiveIndicesPinLaw" = some m.cls) (e0 : T0.heap = h0) (N0 : Fr n0 locs) (Z0 : n0 ≤ h0.size) (V_x : Arv Z h0 ax ke .int (4 : Int32) vs (.int (0 : Int32))) (g_x : n0 ≤ ax) (hn : (2 : Int32) < n5) (hk : ¬ k < 0 ∧ k < (4 : Int32)) (hl : k.toNatClampNeg < vs.length) (hq : ¬ ((0 : Int32) < w2)) :
    ∃ (T' : State) (h' : Heap) (locs' : List Loc), Stand p l e R s m args below meth c T' locs' cells slots ∧ T'.heap = h' ∧ Fr n0 locs' ∧ n0 ≤ h'.size ∧ Keep h0 h' [ax] ∧ Arv Z h' ax ke .int (4 : Int32) vs (.int (0 : Int32)) ∧
      ∀ target, Steps p.tables e below (T'.setTop (mkF m 210 #[.val (.int p1), .val (.int p2), .val (.int p3), .val (.int p4), .val (.int p5), .val (.int n5), .val (.int w0), .val (.int w1), .val (.int w2), .val (.int w3), .val (.ref aw), .val (.ref ax), .val (.int k), .unset, .unset] [])) target → Steps p.tables e below (T0.setTop (mkF m 190 #[.val (.int p1), .val (.int p2), .val (.int p3), .val (.int p4), .val (.int p5), .val (.int n5), .val (.int w0), .val (.int w1), .val (.int w2), .val (.int w3), .val (.ref aw), .val (.ref ax), .val (.int k), .unset, .unset] [])) target := by
  refine ⟨T0, _, _, X0, e0, N0, Z0, (Keep.refl h0 [ax]), V_x, fun target kt => ?_⟩
  show Steps p.tables e below (T0.setTop (mkF m 190 #[.val (.int p1), .val (.int p2), .val (.int p3), .val (.int p4), .val (.int p5), .val (.int n5), .val (.int w0), .val (.int w1), .val (.int w2), .val (.int w3), .val (.ref aw), .val (.ref ax), .val (.int k), .unset, .unset] [])) _
  refine XS.iload X0.here hx rfl (hb hby at_190) rfl ?_
  show Steps p.tables e below (T0.setTop (mkF m 192 #[.val (.int p1), .val (.int p2), .val (.int p3), .val (.int p4), .val (.int p5), .val (.int n5), .val (.int w0), .val (.int w1), .val (.int w2), .val (.int w3), .val (.ref aw), .val (.ref ax), .val (.int k), .unset, .unset] [(.int n5)])) _
  refine XS.iconst X0.here hx rfl (hb hby at_192) ?_
  show Steps p.tables e below (T0.setTop (mkF m 193 #[.val (.int p1), .val (.int p2), .val (.int p3), .val (.int p4), .val (.int p5), .val (.int n5), .val (.int w0), .val (.int w1), .val (.int w2), .val (.int w3), .val (.ref aw), .val (.ref ax), .val (.int k), .unset, .unset] [(.int (2 : Int32)), (.int n5)])) _
  refine XS.icmpNo X0.here hx rfl (hb hby at_193) rfl (tlt (hn : (2 : Int32) < n5)).2.2.2 ?_
  show Steps p.tables e below (T0.setTop (mkF m 196 #[.val (.int p1), .val (.int p2), .val (.int p3), .val (.int p4), .val (.int p5), .val (.int n5), .val (.int w0), .val (.int w1), .val (.int w2), .val (.int w3), .val (.ref aw), .val (.ref ax), .val (.int k), .unset, .unset] [])) _
  refine XS.iload X0.here hx rfl (hb hby at_196) rfl ?_
  show Steps p.tables e below (T0.setTop (mkF m 198 #[.val (.int p1), .val (.int p2), .val (.int p3), .val (.int p4), .val (.int p5), .val (.int n5), .val (.int w0), .val (.int w1), .val (.int w2), .val (.int w3), .val (.ref aw), .val (.ref ax), .val (.int k), .unset, .unset] [(.int w2)])) _
  refine XS.ifYes X0.here hx rfl (pc0 := 198) (pc' := 210) rfl (hb hby at_198) rfl ((if0 _ _).trans (flt (hq : ¬ ((0 : Int32) < w2))).2.2.2) (by decide) (by decide) ?_
  show Steps p.tables e below (T0.setTop (mkF m 210 #[.val (.int p1), .val (.int p2), .val (.int p3), .val (.int p4), .val (.int p5), .val (.int n5), .val (.int w0), .val (.int w1), .val (.int w2), .val (.int w3), .val (.ref aw), .val (.ref ax), .val (.int k), .unset, .unset] [])) _
  exact kt
theorem se2 {p : Program} {l : Launch} {e : Env} {R : Room} {s : State} {m : MethodId} {args : Array Value} {below : List Frame} {meth : Method} {c : Code} {T0 : State} {locs : List Loc} {cells slots : Nat} {Z : State} {a0 : Array Value} {h0 : Heap} {n0 : Nat} (p1 p2 p3 p4 p5 n5 w0 w1 w2 w3 : Int32) (aw ax : Addr) (k : Int32) (ke : ClassId) (vs : List Value) (X0 : Stand p l e R s m args below meth c T0 locs cells slots) (hx : p.tables.exec = Jvm.exec) (hZ : Z.Warmed39 s.vm) (hw : ∀ d ∈ tables_1, d.before a0 Z = true) (hby : c.code = code) (hml : c.maxLocals = 15) (hown : s.vm.findClass "com/example/steelyard/steelyard/CandidatesPositiveIndicesPinLaw" = some m.cls) (e0 : T0.heap = h0) (N0 : Fr n0 locs) (Z0 : n0 ≤ h0.size) (V_x : Arv Z h0 ax ke .int (4 : Int32) vs (.int (0 : Int32))) (g_x : n0 ≤ ax) (hn : (2 : Int32) < n5) (hk : ¬ k < 0 ∧ k < (4 : Int32)) (hl : k.toNatClampNeg < vs.length) :
    ∃ (T' : State) (h' : Heap) (locs' : List Loc), Stand p l e R s m args below meth c T' locs' cells slots ∧ T'.heap = h' ∧ Fr n0 locs' ∧ n0 ≤ h'.size ∧ Keep h0 h' [ax] ∧ Arv Z h' ax ke .int (4 : Int32) (own_set (decide ((0 : Int32) < w2)) vs k (2 : Int32)) (.int (0 : Int32)) ∧
      ∀ target, Steps p.tables e below (T'.setTop (mkF m 210 #[.val (.int p1), .val (.int p2), .val (.int p3), .val (.int p4), .val (.int p5), .val (.int n5), .val (.int w0), .val (.int w1), .val (.int w2), .val (.int w3), .val (.ref aw), .val (.ref ax), .val (.int (k + own_b (decide ((0 : Int32) < w2)))), .unset, .unset] [])) target → Steps p.tables e below (T0.setTop (mkF m 190 #[.val (.int p1), .val (.int p2), .val (.int p3), .val (.int p4), .val (.int p5), .val (.int n5), .val (.int w0), .val (.int w1), .val (.int w2), .val (.int w3), .val (.ref aw), .val (.ref ax), .val (.int k), .unset, .unset] [])) target := by
  by_cases hq : (0 : Int32) < w2
  · rw [decide_eq_true hq]; exact se2y p1 p2 p3 p4 p5 n5 w0 w1 w2 w3 aw ax k ke vs X0 hx hZ hw hby hml hown e0 N0 Z0 V_x g_x hn hk hl hq
  · rw [decide_eq_false hq, own_k0]; exact se2n p1 p2 p3 p4 p5 n5 w0 w1 w2 w3 aw ax k ke vs X0 hx hZ hw hby hml hown e0 N0 Z0 V_x g_x hn hk hl hq
set_option maxRecDepth 65536 in
set_option maxHeartbeats 40000000 in
theorem se3y {p : Program} {l : Launch} {e : Env} {R : Room} {s : State} {m : MethodId} {args : Array Value} {below : List Frame} {meth : Method} {c : Code} {T0 : State} {locs : List Loc} {cells slots : Nat} {Z : State} {a0 : Array Value} {h0 : Heap} {n0 : Nat} (p1 p2 p3 p4 p5 n5 w0 w1 w2 w3 : Int32) (aw ax : Addr) (k : Int32) (ke : ClassId) (vs : List Value) (X0 : Stand p l e R s m args below meth c T0 locs cells slots) (hx : p.tables.exec = Jvm.exec) (hZ : Z.Warmed39 s.vm) (hw : ∀ d ∈ tables_1, d.before a0 Z = true) (hby : c.code = code) (hml : c.maxLocals = 15) (hown : s.vm.findClass "com/example/steelyard/steelyard/CandidatesPositiveIndicesPinLaw" = some m.cls) (e0 : T0.heap = h0) (N0 : Fr n0 locs) (Z0 : n0 ≤ h0.size) (V_x : Arv Z h0 ax ke .int (4 : Int32) vs (.int (0 : Int32))) (g_x : n0 ≤ ax) (hn : (3 : Int32) < n5) (hk : ¬ k < 0 ∧ k < (4 : Int32)) (hl : k.toNatClampNeg < vs.length) (hq : (0 : Int32) < w3) :
    ∃ (T' : State) (h' : Heap) (locs' : List Loc), Stand p l e R s m args below meth c T' locs' cells slots ∧ T'.heap = h' ∧ Fr n0 locs' ∧ n0 ≤ h'.size ∧ Keep h0 h' [ax] ∧ Arv Z h' ax ke .int (4 : Int32) (vs.set k.toNatClampNeg (.int (3 : Int32))) (.int (0 : Int32)) ∧
      ∀ target, Steps p.tables e below (T'.setTop (mkF m 230 #[.val (.int p1), .val (.int p2), .val (.int p3), .val (.int p4), .val (.int p5), .val (.int n5), .val (.int w0), .val (.int w1), .val (.int w2), .val (.int w3), .val (.ref aw), .val (.ref ax), .val (.int (k + (1 : Int32))), .unset, .unset] [])) target → Steps p.tables e below (T0.setTop (mkF m 210 #[.val (.int p1), .val (.int p2), .val (.int p3), .val (.int p4), .val (.int p5), .val (.int n5), .val (.int w0), .val (.int w1), .val (.int w2), .val (.int w3), .val (.ref aw), .val (.ref ax), .val (.int k), .unset, .unset] [])) target := by
  obtain ⟨cl1, Ar1, q1, S1, M1, H1, G1⟩ := id V_x
  have hin2 : ¬ (k < 0 ∨ cl1.slots.size ≤ (k).toNatClampNeg) := inb_of S1 hk
  obtain ⟨T2, h2, X2, e2, W2, st2⟩ := stI X0 hx hZ e0 Ar1 (j := k) hin2 (g := (mkF m 226 #[.val (.int p1), .val (.int p2), .val (.int p3), .val (.int p4), .val (.int p5), .val (.int n5), .val (.int w0), .val (.int w1), .val (.int w2), .val (.int w3), .val (.ref aw), .val (.ref ax), .val (.int k), .unset, .unset] [(.int (3 : Int32)), (.int k), (.ref ax)])) rfl rfl (hb hby at_226)
  have V2 := Arv.set Ar1 q1 S1 M1 H1 G1 rfl W2 k.toNatClampNeg rfl hl
  have Z2 : n0 ≤ h2.size := Nat.le_trans Z0 (Keep.of_wr W2).1
  have KC2 : Keep h0 h2 [ax] := (Keep.refl h0 [ax]).wr W2 (Or.inl (List.mem_of_getElem? (i := 0) rfl))
  have N2 := Fr.snoc X2 N0 g_x
  refine ⟨T2, _, _, X2, e2, N2, Z2, KC2, V2, fun target kt => ?_⟩
  show Steps p.tables e below (T0.setTop (mkF m 210 #[.val (.int p1), .val (.int p2), .val (.int p3), .val (.int p4), .val (.int p5), .val (.int n5), .val (.int w0), .val (.int w1), .val (.int w2), .val (.int w3), .val (.ref aw), .val (.ref ax), .val (.int k), .unset, .unset] [])) _
  refine XS.iload X0.here hx rfl (hb hby at_210) rfl ?_
  show Steps p.tables e below (T0.setTop (mkF m 212 #[.val (.int p1), .val (.int p2), .val (.int p3), .val (.int p4), .val (.int p5), .val (.int n5), .val (.int w0), .val (.int w1), .val (.int w2), .val (.int w3), .val (.ref aw), .val (.ref ax), .val (.int k), .unset, .unset] [(.int n5)])) _
  refine XS.iconst X0.here hx rfl (hb hby at_212) ?_
  show Steps p.tables e below (T0.setTop (mkF m 213 #[.val (.int p1), .val (.int p2), .val (.int p3), .val (.int p4), .val (.int p5), .val (.int n5), .val (.int w0), .val (.int w1), .val (.int w2), .val (.int w3), .val (.ref aw), .val (.ref ax), .val (.int k), .unset, .unset] [(.int (3 : Int32)), (.int n5)])) _
  refine XS.icmpNo X0.here hx rfl (hb hby at_213) rfl (tlt (hn : (3 : Int32) < n5)).2.2.2 ?_
  show Steps p.tables e below (T0.setTop (mkF m 216 #[.val (.int p1), .val (.int p2), .val (.int p3), .val (.int p4), .val (.int p5), .val (.int n5), .val (.int w0), .val (.int w1), .val (.int w2), .val (.int w3), .val (.ref aw), .val (.ref ax), .val (.int k), .unset, .unset] [])) _
  refine XS.iload X0.here hx rfl (hb hby at_216) rfl ?_
  show Steps p.tables e below (T0.setTop (mkF m 218 #[.val (.int p1), .val (.int p2), .val (.int p3), .val (.int p4), .val (.int p5), .val (.int n5), .val (.int w0), .val (.int w1), .val (.int w2), .val (.int w3), .val (.ref aw), .val (.ref ax), .val (.int k), .unset, .unset] [(.int w3)])) _
  refine XS.ifNo X0.here hx rfl (hb hby at_218) rfl ((if0 _ _).trans (tlt (hq : (0 : Int32) < w3)).2.2.2) ?_
  show Steps p.tables e below (T0.setTop (mkF m 221 #[.val (.int p1), .val (.int p2), .val (.int p3), .val (.int p4), .val (.int p5), .val (.int n5), .val (.int w0), .val (.int w1), .val (.int w2), .val (.int w3), .val (.ref aw), .val (.ref ax), .val (.int k), .unset, .unset] [])) _
  refine XS.aload X0.here hx rfl (hb hby at_221) rfl rfl ?_
  show Steps p.tables e below (T0.setTop (mkF m 223 #[.val (.int p1), .val (.int p2), .val (.int p3), .val (.int p4), .val (.int p5), .val (.int n5), .val (.int w0), .val (.int w1), .val (.int w2), .val (.int w3), .val (.ref aw), .val (.ref ax), .val (.int k), .unset, .unset] [(.ref ax)])) _
  refine XS.iload X0.here hx rfl (hb hby at_223) rfl ?_
  show Steps p.tables e below (T0.setTop (mkF m 225 #[.val (.int p1), .val (.int p2), .val (.int p3), .val (.int p4), .val (.int p5), .val (.int n5), .val (.int w0), .val (.int w1), .val (.int w2), .val (.int w3), .val (.ref aw), .val (.ref ax), .val (.int k), .unset, .unset] [(.int k), (.ref ax)])) _
  refine XS.iconst X0.here hx rfl (hb hby at_225) ?_
  show Steps p.tables e below (T0.setTop (mkF m 226 #[.val (.int p1), .val (.int p2), .val (.int p3), .val (.int p4), .val (.int p5), .val (.int n5), .val (.int w0), .val (.int w1), .val (.int w2), .val (.int w3), .val (.ref aw), .val (.ref ax), .val (.int k), .unset, .unset] [(.int (3 : Int32)), (.int k), (.ref ax)])) _
  refine st2 _ ?_
  show Steps p.tables e below (T2.setTop (mkF m 227 #[.val (.int p1), .val (.int p2), .val (.int p3), .val (.int p4), .val (.int p5), .val (.int n5), .val (.int w0), .val (.int w1), .val (.int w2), .val (.int w3), .val (.ref aw), .val (.ref ax), .val (.int k), .unset, .unset] [])) _
  refine XS.iinc X2.here hx rfl (hb hby at_227) rfl (l' := #[.val (.int p1), .val (.int p2), .val (.int p3), .val (.int p4), .val (.int p5), .val (.int n5), .val (.int w0), .val (.int w1), .val (.int w2), .val (.int w3), .val (.ref aw), .val (.ref ax), .val (.int (k + (1 : Int32))), .unset, .unset]) rfl ?_
  show Steps p.tables e below (T2.setTop (mkF m 230 #[.val (.int p1), .val (.int p2), .val (.int p3), .val (.int p4), .val (.int p5), .val (.int n5), .val (.int w0), .val (.int w1), .val (.int w2), .val (.int w3), .val (.ref aw), .val (.ref ax), .val (.int (k + (1 : Int32))), .unset, .unset] [])) _
  exact kt
set_option maxRecDepth 65536 in
set_option maxHeartbeats 40000000 in
theorem se3n {p : Program} {l : Launch} {e : Env} {R : Room} {s : State} {m : MethodId} {args : Array Value} {below : List Frame} {meth : Method} {c : Code} {T0 : State} {locs : List Loc} {cells slots : Nat} {Z : State} {a0 : Array Value} {h0 : Heap} {n0 : Nat} (p1 p2 p3 p4 p5 n5 w0 w1 w2 w3 : Int32) (aw ax : Addr) (k : Int32) (ke : ClassId) (vs : List Value) (X0 : Stand p l e R s m args below meth c T0 locs cells slots) (hx : p.tables.exec = Jvm.exec) (hZ : Z.Warmed39 s.vm) (hw : ∀ d ∈ tables_1, d.before a0 Z = true) (hby : c.code = code) (hml : c.maxLocals = 15) (hown : s.vm.findClass "com/example/steelyard/steelyard/CandidatesPositiveIndicesPinLaw" = some m.cls) (e0 : T0.heap = h0) (N0 : Fr n0 locs) (Z0 : n0 ≤ h0.size) (V_x : Arv Z h0 ax ke .int (4 : Int32) vs (.int (0 : Int32))) (g_x : n0 ≤ ax) (hn : (3 : Int32) < n5) (hk : ¬ k < 0 ∧ k < (4 : Int32)) (hl : k.toNatClampNeg < vs.length) (hq : ¬ ((0 : Int32) < w3)) :
    ∃ (T' : State) (h' : Heap) (locs' : List Loc), Stand p l e R s m args below meth c T' locs' cells slots ∧ T'.heap = h' ∧ Fr n0 locs' ∧ n0 ≤ h'.size ∧ Keep h0 h' [ax] ∧ Arv Z h' ax ke .int (4 : Int32) vs (.int (0 : Int32)) ∧
      ∀ target, Steps p.tables e below (T'.setTop (mkF m 230 #[.val (.int p1), .val (.int p2), .val (.int p3), .val (.int p4), .val (.int p5), .val (.int n5), .val (.int w0), .val (.int w1), .val (.int w2), .val (.int w3), .val (.ref aw), .val (.ref ax), .val (.int k), .unset, .unset] [])) target → Steps p.tables e below (T0.setTop (mkF m 210 #[.val (.int p1), .val (.int p2), .val (.int p3), .val (.int p4), .val (.int p5), .val (.int n5), .val (.int w0), .val (.int w1), .val (.int w2), .val (.int w3), .val (.ref aw), .val (.ref ax), .val (.int k), .unset, .unset] [])) target := by
  refine ⟨T0, _, _, X0, e0, N0, Z0, (Keep.refl h0 [ax]), V_x, fun target kt => ?_⟩
  show Steps p.tables e below (T0.setTop (mkF m 210 #[.val (.int p1), .val (.int p2), .val (.int p3), .val (.int p4), .val (.int p5), .val (.int n5), .val (.int w0), .val (.int w1), .val (.int w2), .val (.int w3), .val (.ref aw), .val (.ref ax), .val (.int k), .unset, .unset] [])) _
  refine XS.iload X0.here hx rfl (hb hby at_210) rfl ?_
  show Steps p.tables e below (T0.setTop (mkF m 212 #[.val (.int p1), .val (.int p2), .val (.int p3), .val (.int p4), .val (.int p5), .val (.int n5), .val (.int w0), .val (.int w1), .val (.int w2), .val (.int w3), .val (.ref aw), .val (.ref ax), .val (.int k), .unset, .unset] [(.int n5)])) _
  refine XS.iconst X0.here hx rfl (hb hby at_212) ?_
  show Steps p.tables e below (T0.setTop (mkF m 213 #[.val (.int p1), .val (.int p2), .val (.int p3), .val (.int p4), .val (.int p5), .val (.int n5), .val (.int w0), .val (.int w1), .val (.int w2), .val (.int w3), .val (.ref aw), .val (.ref ax), .val (.int k), .unset, .unset] [(.int (3 : Int32)), (.int n5)])) _
  refine XS.icmpNo X0.here hx rfl (hb hby at_213) rfl (tlt (hn : (3 : Int32) < n5)).2.2.2 ?_
  show Steps p.tables e below (T0.setTop (mkF m 216 #[.val (.int p1), .val (.int p2), .val (.int p3), .val (.int p4), .val (.int p5), .val (.int n5), .val (.int w0), .val (.int w1), .val (.int w2), .val (.int w3), .val (.ref aw), .val (.ref ax), .val (.int k), .unset, .unset] [])) _
  refine XS.iload X0.here hx rfl (hb hby at_216) rfl ?_
  show Steps p.tables e below (T0.setTop (mkF m 218 #[.val (.int p1), .val (.int p2), .val (.int p3), .val (.int p4), .val (.int p5), .val (.int n5), .val (.int w0), .val (.int w1), .val (.int w2), .val (.int w3), .val (.ref aw), .val (.ref ax), .val (.int k), .unset, .unset] [(.int w3)])) _
  refine XS.ifYes X0.here hx rfl (pc0 := 218) (pc' := 230) rfl (hb hby at_218) rfl ((if0 _ _).trans (flt (hq : ¬ ((0 : Int32) < w3))).2.2.2) (by decide) (by decide) ?_
  show Steps p.tables e below (T0.setTop (mkF m 230 #[.val (.int p1), .val (.int p2), .val (.int p3), .val (.int p4), .val (.int p5), .val (.int n5), .val (.int w0), .val (.int w1), .val (.int w2), .val (.int w3), .val (.ref aw), .val (.ref ax), .val (.int k), .unset, .unset] [])) _
  exact kt
theorem se3 {p : Program} {l : Launch} {e : Env} {R : Room} {s : State} {m : MethodId} {args : Array Value} {below : List Frame} {meth : Method} {c : Code} {T0 : State} {locs : List Loc} {cells slots : Nat} {Z : State} {a0 : Array Value} {h0 : Heap} {n0 : Nat} (p1 p2 p3 p4 p5 n5 w0 w1 w2 w3 : Int32) (aw ax : Addr) (k : Int32) (ke : ClassId) (vs : List Value) (X0 : Stand p l e R s m args below meth c T0 locs cells slots) (hx : p.tables.exec = Jvm.exec) (hZ : Z.Warmed39 s.vm) (hw : ∀ d ∈ tables_1, d.before a0 Z = true) (hby : c.code = code) (hml : c.maxLocals = 15) (hown : s.vm.findClass "com/example/steelyard/steelyard/CandidatesPositiveIndicesPinLaw" = some m.cls) (e0 : T0.heap = h0) (N0 : Fr n0 locs) (Z0 : n0 ≤ h0.size) (V_x : Arv Z h0 ax ke .int (4 : Int32) vs (.int (0 : Int32))) (g_x : n0 ≤ ax) (hn : (3 : Int32) < n5) (hk : ¬ k < 0 ∧ k < (4 : Int32)) (hl : k.toNatClampNeg < vs.length) :
    ∃ (T' : State) (h' : Heap) (locs' : List Loc), Stand p l e R s m args below meth c T' locs' cells slots ∧ T'.heap = h' ∧ Fr n0 locs' ∧ n0 ≤ h'.size ∧ Keep h0 h' [ax] ∧ Arv Z h' ax ke .int (4 : Int32) (own_set (decide ((0 : Int32) < w3)) vs k (3 : Int32)) (.int (0 : Int32)) ∧
      ∀ target, Steps p.tables e below (T'.setTop (mkF m 230 #[.val (.int p1), .val (.int p2), .val (.int p3), .val (.int p4), .val (.int p5), .val (.int n5), .val (.int w0), .val (.int w1), .val (.int w2), .val (.int w3), .val (.ref aw), .val (.ref ax), .val (.int (k + own_b (decide ((0 : Int32) < w3)))), .unset, .unset] [])) target → Steps p.tables e below (T0.setTop (mkF m 210 #[.val (.int p1), .val (.int p2), .val (.int p3), .val (.int p4), .val (.int p5), .val (.int n5), .val (.int w0), .val (.int w1), .val (.int w2), .val (.int w3), .val (.ref aw), .val (.ref ax), .val (.int k), .unset, .unset] [])) target := by
  by_cases hq : (0 : Int32) < w3
  · rw [decide_eq_true hq]; exact se3y p1 p2 p3 p4 p5 n5 w0 w1 w2 w3 aw ax k ke vs X0 hx hZ hw hby hml hown e0 N0 Z0 V_x g_x hn hk hl hq
  · rw [decide_eq_false hq, own_k0]; exact se3n p1 p2 p3 p4 p5 n5 w0 w1 w2 w3 aw ax k ke vs X0 hx hZ hw hby hml hown e0 N0 Z0 V_x g_x hn hk hl hq
set_option maxRecDepth 65536 in
set_option maxHeartbeats 40000000 in
theorem ck0y {p : Program} {l : Launch} {e : Env} {R : Room} {s : State} {m : MethodId} {args : Array Value} {below : List Frame} {meth : Method} {c : Code} {T0 : State} {locs : List Loc} {cells slots : Nat} {Z : State} {a0 : Array Value} {h0 : Heap} {n0 : Nat} (p1 p2 p3 p4 p5 n5 w0 w1 w2 w3 : Int32) (aw ax ar : Addr) (k : Int32) (ke kr : ClassId) (vs : List Value) (z : Int32) (X0 : Stand p l e R s m args below meth c T0 locs cells slots) (hx : p.tables.exec = Jvm.exec) (hZ : Z.Warmed39 s.vm) (hw : ∀ d ∈ tables_1, d.before a0 Z = true) (hby : c.code = code) (hml : c.maxLocals = 15) (hown : s.vm.findClass "com/example/steelyard/steelyard/CandidatesPositiveIndicesPinLaw" = some m.cls) (e0 : T0.heap = h0) (N0 : Fr n0 locs) (Z0 : n0 ≤ h0.size) (V_x : Arv Z h0 ax ke .int (4 : Int32) vs (.int (0 : Int32))) (V_r : Arv Z h0 ar kr .int k vs (.int (0 : Int32))) (hu : vs.getD ((0 : Int32)).toNatClampNeg (.int (0 : Int32)) = (.int z)) (hq : (0 : Int32) < k) :
    ∀ target, Steps p.tables e below (T0.setTop (mkF m 283 #[.val (.int p1), .val (.int p2), .val (.int p3), .val (.int p4), .val (.int p5), .val (.int n5), .val (.int w0), .val (.int w1), .val (.int w2), .val (.int w3), .val (.ref aw), .val (.ref ax), .val (.int k), .val (.ref ar), .val (.int (1 : Int32))] [])) target → Steps p.tables e below (T0.setTop (mkF m 255 #[.val (.int p1), .val (.int p2), .val (.int p3), .val (.int p4), .val (.int p5), .val (.int n5), .val (.int w0), .val (.int w1), .val (.int w2), .val (.int w3), .val (.ref aw), .val (.ref ax), .val (.int k), .val (.ref ar), .val (.int (1 : Int32))] [])) target := by
  obtain ⟨cl1, Ar1, q1, S1, M1, H1, G1⟩ := id V_r
  have hin1 : ¬ ((0 : Int32) < 0 ∨ cl1.slots.size ≤ ((0 : Int32)).toNatClampNeg) := inb_of S1 ⟨by decide, hq⟩
  have hat1 : cl1.slots[((0 : Int32)).toNatClampNeg]? = some (.int z) := Has.at H1 hin1 hu
  obtain ⟨cl2, Ar2, q2, S2, M2, H2, G2⟩ := id V_x
  have hin2 : ¬ ((0 : Int32) < 0 ∨ cl2.slots.size ≤ ((0 : Int32)).toNatClampNeg) := inb_of S2 ⟨by decide, by decide⟩
  have hat2 : cl2.slots[((0 : Int32)).toNatClampNeg]? = some (.int z) := Has.at H2 hin2 hu
  intro target kt
  show Steps p.tables e below (T0.setTop (mkF m 255 #[.val (.int p1), .val (.int p2), .val (.int p3), .val (.int p4), .val (.int p5), .val (.int n5), .val (.int w0), .val (.int w1), .val (.int w2), .val (.int w3), .val (.ref aw), .val (.ref ax), .val (.int k), .val (.ref ar), .val (.int (1 : Int32))] [])) _
  refine XS.iload X0.here hx rfl (hb hby at_255) rfl ?_
  show Steps p.tables e below (T0.setTop (mkF m 257 #[.val (.int p1), .val (.int p2), .val (.int p3), .val (.int p4), .val (.int p5), .val (.int n5), .val (.int w0), .val (.int w1), .val (.int w2), .val (.int w3), .val (.ref aw), .val (.ref ax), .val (.int k), .val (.ref ar), .val (.int (1 : Int32))] [(.int k)])) _
  refine XS.ifNo X0.here hx rfl (hb hby at_257) rfl ((if0 _ _).trans (tlt (hq : (0 : Int32) < k)).2.2.2) ?_
  show Steps p.tables e below (T0.setTop (mkF m 260 #[.val (.int p1), .val (.int p2), .val (.int p3), .val (.int p4), .val (.int p5), .val (.int n5), .val (.int w0), .val (.int w1), .val (.int w2), .val (.int w3), .val (.ref aw), .val (.ref ax), .val (.int k), .val (.ref ar), .val (.int (1 : Int32))] [])) _
  refine XS.iload X0.here hx rfl (hb hby at_260) rfl ?_
  show Steps p.tables e below (T0.setTop (mkF m 262 #[.val (.int p1), .val (.int p2), .val (.int p3), .val (.int p4), .val (.int p5), .val (.int n5), .val (.int w0), .val (.int w1), .val (.int w2), .val (.int w3), .val (.ref aw), .val (.ref ax), .val (.int k), .val (.ref ar), .val (.int (1 : Int32))] [(.int (1 : Int32))])) _
  refine XS.ifNo X0.here hx rfl (hb hby at_262) rfl ((if0 _ _).trans (feq ((by decide) : ¬ ((1 : Int32) = (0 : Int32)))).1) ?_
  show Steps p.tables e below (T0.setTop (mkF m 265 #[.val (.int p1), .val (.int p2), .val (.int p3), .val (.int p4), .val (.int p5), .val (.int n5), .val (.int w0), .val (.int w1), .val (.int w2), .val (.int w3), .val (.ref aw), .val (.ref ax), .val (.int k), .val (.ref ar), .val (.int (1 : Int32))] [])) _
  refine XS.aload X0.here hx rfl (hb hby at_265) rfl rfl ?_
  show Steps p.tables e below (T0.setTop (mkF m 267 #[.val (.int p1), .val (.int p2), .val (.int p3), .val (.int p4), .val (.int p5), .val (.int n5), .val (.int w0), .val (.int w1), .val (.int w2), .val (.int w3), .val (.ref aw), .val (.ref ax), .val (.int k), .val (.ref ar), .val (.int (1 : Int32))] [(.ref ar)])) _
  refine XS.iconst X0.here hx rfl (hb hby at_267) ?_
  show Steps p.tables e below (T0.setTop (mkF m 268 #[.val (.int p1), .val (.int p2), .val (.int p3), .val (.int p4), .val (.int p5), .val (.int n5), .val (.int w0), .val (.int w1), .val (.int w2), .val (.int w3), .val (.ref aw), .val (.ref ax), .val (.int k), .val (.ref ar), .val (.int (1 : Int32))] [(.int (0 : Int32)), (.ref ar)])) _
  refine X0.iaload hx (j := (0 : Int32)) (v := (.int z)) (by rw [e0]; exact Ar1.1) (State.isArrayOf_alike hZ.alike Ar1.2.1) Ar1.2.2 hin1 hat1 (g := (mkF m 268 #[.val (.int p1), .val (.int p2), .val (.int p3), .val (.int p4), .val (.int p5), .val (.int n5), .val (.int w0), .val (.int w1), .val (.int w2), .val (.int w3), .val (.ref aw), .val (.ref ax), .val (.int k), .val (.ref ar), .val (.int (1 : Int32))] [(.int (0 : Int32)), (.ref ar)])) rfl rfl (hb hby at_268) _ ?_
  show Steps p.tables e below (T0.setTop (mkF m 269 #[.val (.int p1), .val (.int p2), .val (.int p3), .val (.int p4), .val (.int p5), .val (.int n5), .val (.int w0), .val (.int w1), .val (.int w2), .val (.int w3), .val (.ref aw), .val (.ref ax), .val (.int k), .val (.ref ar), .val (.int (1 : Int32))] [(.int z)])) _
  refine XS.aload X0.here hx rfl (hb hby at_269) rfl rfl ?_
  show Steps p.tables e below (T0.setTop (mkF m 271 #[.val (.int p1), .val (.int p2), .val (.int p3), .val (.int p4), .val (.int p5), .val (.int n5), .val (.int w0), .val (.int w1), .val (.int w2), .val (.int w3), .val (.ref aw), .val (.ref ax), .val (.int k), .val (.ref ar), .val (.int (1 : Int32))] [(.ref ax), (.int z)])) _
  refine XS.iconst X0.here hx rfl (hb hby at_271) ?_
  show Steps p.tables e below (T0.setTop (mkF m 272 #[.val (.int p1), .val (.int p2), .val (.int p3), .val (.int p4), .val (.int p5), .val (.int n5), .val (.int w0), .val (.int w1), .val (.int w2), .val (.int w3), .val (.ref aw), .val (.ref ax), .val (.int k), .val (.ref ar), .val (.int (1 : Int32))] [(.int (0 : Int32)), (.ref ax), (.int z)])) _
  refine X0.iaload hx (j := (0 : Int32)) (v := (.int z)) (by rw [e0]; exact Ar2.1) (State.isArrayOf_alike hZ.alike Ar2.2.1) Ar2.2.2 hin2 hat2 (g := (mkF m 272 #[.val (.int p1), .val (.int p2), .val (.int p3), .val (.int p4), .val (.int p5), .val (.int n5), .val (.int w0), .val (.int w1), .val (.int w2), .val (.int w3), .val (.ref aw), .val (.ref ax), .val (.int k), .val (.ref ar), .val (.int (1 : Int32))] [(.int (0 : Int32)), (.ref ax), (.int z)])) rfl rfl (hb hby at_272) _ ?_
  show Steps p.tables e below (T0.setTop (mkF m 273 #[.val (.int p1), .val (.int p2), .val (.int p3), .val (.int p4), .val (.int p5), .val (.int n5), .val (.int w0), .val (.int w1), .val (.int w2), .val (.int w3), .val (.ref aw), .val (.ref ax), .val (.int k), .val (.ref ar), .val (.int (1 : Int32))] [(.int z), (.int z)])) _
  refine XS.icmpNo X0.here hx rfl (hb hby at_273) rfl (teq (rfl : z = z)).2 ?_
  show Steps p.tables e below (T0.setTop (mkF m 276 #[.val (.int p1), .val (.int p2), .val (.int p3), .val (.int p4), .val (.int p5), .val (.int n5), .val (.int w0), .val (.int w1), .val (.int w2), .val (.int w3), .val (.ref aw), .val (.ref ax), .val (.int k), .val (.ref ar), .val (.int (1 : Int32))] [])) _
  refine XS.iconst X0.here hx rfl (hb hby at_276) ?_
  show Steps p.tables e below (T0.setTop (mkF m 277 #[.val (.int p1), .val (.int p2), .val (.int p3), .val (.int p4), .val (.int p5), .val (.int n5), .val (.int w0), .val (.int w1), .val (.int w2), .val (.int w3), .val (.ref aw), .val (.ref ax), .val (.int k), .val (.ref ar), .val (.int (1 : Int32))] [(.int (1 : Int32))])) _
  refine XS.goto X0.here hx rfl (pc0 := 277) (pc' := 281) rfl (hb hby at_277) (by decide) (by decide) ?_
  show Steps p.tables e below (T0.setTop (mkF m 281 #[.val (.int p1), .val (.int p2), .val (.int p3), .val (.int p4), .val (.int p5), .val (.int n5), .val (.int w0), .val (.int w1), .val (.int w2), .val (.int w3), .val (.ref aw), .val (.ref ax), .val (.int k), .val (.ref ar), .val (.int (1 : Int32))] [(.int (1 : Int32))])) _
  refine XS.istore X0.here hx rfl (hb hby at_281) rfl (l' := #[.val (.int p1), .val (.int p2), .val (.int p3), .val (.int p4), .val (.int p5), .val (.int n5), .val (.int w0), .val (.int w1), .val (.int w2), .val (.int w3), .val (.ref aw), .val (.ref ax), .val (.int k), .val (.ref ar), .val (.int (1 : Int32))]) rfl ?_
  show Steps p.tables e below (T0.setTop (mkF m 283 #[.val (.int p1), .val (.int p2), .val (.int p3), .val (.int p4), .val (.int p5), .val (.int n5), .val (.int w0), .val (.int w1), .val (.int w2), .val (.int w3), .val (.ref aw), .val (.ref ax), .val (.int k), .val (.ref ar), .val (.int (1 : Int32))] [])) _
  exact kt
set_option maxRecDepth 65536 in
set_option maxHeartbeats 40000000 in
theorem ck0n {p : Program} {l : Launch} {e : Env} {R : Room} {s : State} {m : MethodId} {args : Array Value} {below : List Frame} {meth : Method} {c : Code} {T0 : State} {locs : List Loc} {cells slots : Nat} {Z : State} {a0 : Array Value} {h0 : Heap} {n0 : Nat} (p1 p2 p3 p4 p5 n5 w0 w1 w2 w3 : Int32) (aw ax ar : Addr) (k : Int32) (ke kr : ClassId) (vs : List Value) (z : Int32) (X0 : Stand p l e R s m args below meth c T0 locs cells slots) (hx : p.tables.exec = Jvm.exec) (hZ : Z.Warmed39 s.vm) (hw : ∀ d ∈ tables_1, d.before a0 Z = true) (hby : c.code = code) (hml : c.maxLocals = 15) (hown : s.vm.findClass "com/example/steelyard/steelyard/CandidatesPositiveIndicesPinLaw" = some m.cls) (e0 : T0.heap = h0) (N0 : Fr n0 locs) (Z0 : n0 ≤ h0.size) (V_x : Arv Z h0 ax ke .int (4 : Int32) vs (.int (0 : Int32))) (V_r : Arv Z h0 ar kr .int k vs (.int (0 : Int32))) (hu : vs.getD ((0 : Int32)).toNatClampNeg (.int (0 : Int32)) = (.int z)) (hq : ¬ ((0 : Int32) < k)) :
    ∀ target, Steps p.tables e below (T0.setTop (mkF m 283 #[.val (.int p1), .val (.int p2), .val (.int p3), .val (.int p4), .val (.int p5), .val (.int n5), .val (.int w0), .val (.int w1), .val (.int w2), .val (.int w3), .val (.ref aw), .val (.ref ax), .val (.int k), .val (.ref ar), .val (.int (1 : Int32))] [])) target → Steps p.tables e below (T0.setTop (mkF m 255 #[.val (.int p1), .val (.int p2), .val (.int p3), .val (.int p4), .val (.int p5), .val (.int n5), .val (.int w0), .val (.int w1), .val (.int w2), .val (.int w3), .val (.ref aw), .val (.ref ax), .val (.int k), .val (.ref ar), .val (.int (1 : Int32))] [])) target := by
  intro target kt
  show Steps p.tables e below (T0.setTop (mkF m 255 #[.val (.int p1), .val (.int p2), .val (.int p3), .val (.int p4), .val (.int p5), .val (.int n5), .val (.int w0), .val (.int w1), .val (.int w2), .val (.int w3), .val (.ref aw), .val (.ref ax), .val (.int k), .val (.ref ar), .val (.int (1 : Int32))] [])) _
  refine XS.iload X0.here hx rfl (hb hby at_255) rfl ?_
  show Steps p.tables e below (T0.setTop (mkF m 257 #[.val (.int p1), .val (.int p2), .val (.int p3), .val (.int p4), .val (.int p5), .val (.int n5), .val (.int w0), .val (.int w1), .val (.int w2), .val (.int w3), .val (.ref aw), .val (.ref ax), .val (.int k), .val (.ref ar), .val (.int (1 : Int32))] [(.int k)])) _
  refine XS.ifYes X0.here hx rfl (pc0 := 257) (pc' := 283) rfl (hb hby at_257) rfl ((if0 _ _).trans (flt (hq : ¬ ((0 : Int32) < k))).2.2.2) (by decide) (by decide) ?_
  show Steps p.tables e below (T0.setTop (mkF m 283 #[.val (.int p1), .val (.int p2), .val (.int p3), .val (.int p4), .val (.int p5), .val (.int n5), .val (.int w0), .val (.int w1), .val (.int w2), .val (.int w3), .val (.ref aw), .val (.ref ax), .val (.int k), .val (.ref ar), .val (.int (1 : Int32))] [])) _
  exact kt
theorem ck0 {p : Program} {l : Launch} {e : Env} {R : Room} {s : State} {m : MethodId} {args : Array Value} {below : List Frame} {meth : Method} {c : Code} {T0 : State} {locs : List Loc} {cells slots : Nat} {Z : State} {a0 : Array Value} {h0 : Heap} {n0 : Nat} (p1 p2 p3 p4 p5 n5 w0 w1 w2 w3 : Int32) (aw ax ar : Addr) (k : Int32) (ke kr : ClassId) (vs : List Value) (z : Int32) (X0 : Stand p l e R s m args below meth c T0 locs cells slots) (hx : p.tables.exec = Jvm.exec) (hZ : Z.Warmed39 s.vm) (hw : ∀ d ∈ tables_1, d.before a0 Z = true) (hby : c.code = code) (hml : c.maxLocals = 15) (hown : s.vm.findClass "com/example/steelyard/steelyard/CandidatesPositiveIndicesPinLaw" = some m.cls) (e0 : T0.heap = h0) (N0 : Fr n0 locs) (Z0 : n0 ≤ h0.size) (V_x : Arv Z h0 ax ke .int (4 : Int32) vs (.int (0 : Int32))) (V_r : Arv Z h0 ar kr .int k vs (.int (0 : Int32))) (hu : vs.getD ((0 : Int32)).toNatClampNeg (.int (0 : Int32)) = (.int z)) :
    ∀ target, Steps p.tables e below (T0.setTop (mkF m 283 #[.val (.int p1), .val (.int p2), .val (.int p3), .val (.int p4), .val (.int p5), .val (.int n5), .val (.int w0), .val (.int w1), .val (.int w2), .val (.int w3), .val (.ref aw), .val (.ref ax), .val (.int k), .val (.ref ar), .val (.int (1 : Int32))] [])) target → Steps p.tables e below (T0.setTop (mkF m 255 #[.val (.int p1), .val (.int p2), .val (.int p3), .val (.int p4), .val (.int p5), .val (.int n5), .val (.int w0), .val (.int w1), .val (.int w2), .val (.int w3), .val (.ref aw), .val (.ref ax), .val (.int k), .val (.ref ar), .val (.int (1 : Int32))] [])) target := by
  by_cases hq : (0 : Int32) < k
  · exact ck0y p1 p2 p3 p4 p5 n5 w0 w1 w2 w3 aw ax ar k ke kr vs z X0 hx hZ hw hby hml hown e0 N0 Z0 V_x V_r hu hq
  · exact ck0n p1 p2 p3 p4 p5 n5 w0 w1 w2 w3 aw ax ar k ke kr vs z X0 hx hZ hw hby hml hown e0 N0 Z0 V_x V_r hu hq
set_option maxRecDepth 65536 in
set_option maxHeartbeats 40000000 in
theorem ck1y {p : Program} {l : Launch} {e : Env} {R : Room} {s : State} {m : MethodId} {args : Array Value} {below : List Frame} {meth : Method} {c : Code} {T0 : State} {locs : List Loc} {cells slots : Nat} {Z : State} {a0 : Array Value} {h0 : Heap} {n0 : Nat} (p1 p2 p3 p4 p5 n5 w0 w1 w2 w3 : Int32) (aw ax ar : Addr) (k : Int32) (ke kr : ClassId) (vs : List Value) (z : Int32) (X0 : Stand p l e R s m args below meth c T0 locs cells slots) (hx : p.tables.exec = Jvm.exec) (hZ : Z.Warmed39 s.vm) (hw : ∀ d ∈ tables_1, d.before a0 Z = true) (hby : c.code = code) (hml : c.maxLocals = 15) (hown : s.vm.findClass "com/example/steelyard/steelyard/CandidatesPositiveIndicesPinLaw" = some m.cls) (e0 : T0.heap = h0) (N0 : Fr n0 locs) (Z0 : n0 ≤ h0.size) (V_x : Arv Z h0 ax ke .int (4 : Int32) vs (.int (0 : Int32))) (V_r : Arv Z h0 ar kr .int k vs (.int (0 : Int32))) (hu : vs.getD ((1 : Int32)).toNatClampNeg (.int (0 : Int32)) = (.int z)) (hq : (1 : Int32) < k) :
    ∀ target, Steps p.tables e below (T0.setTop (mkF m 312 #[.val (.int p1), .val (.int p2), .val (.int p3), .val (.int p4), .val (.int p5), .val (.int n5), .val (.int w0), .val (.int w1), .val (.int w2), .val (.int w3), .val (.ref aw), .val (.ref ax), .val (.int k), .val (.ref ar), .val (.int (1 : Int32))] [])) target → Steps p.tables e below (T0.setTop (mkF m 283 #[.val (.int p1), .val (.int p2), .val (.int p3), .val (.int p4), .val (.int p5), .val (.int n5), .val (.int w0), .val (.int w1), .val (.int w2), .val (.int w3), .val (.ref aw), .val (.ref ax), .val (.int k), .val (.ref ar), .val (.int (1 : Int32))] [])) target := by
  obtain ⟨cl1, Ar1, q1, S1, M1, H1, G1⟩ := id V_r
  have hin1 : ¬ ((1 : Int32) < 0 ∨ cl1.slots.size ≤ ((1 : Int32)).toNatClampNeg) := inb_of S1 ⟨by decide, hq⟩
  have hat1 : cl1.slots[((1 : Int32)).toNatClampNeg]? = some (.int z) := Has.at H1 hin1 hu
  obtain ⟨cl2, Ar2, q2, S2, M2, H2, G2⟩ := id V_x
  have hin2 : ¬ ((1 : Int32) < 0 ∨ cl2.slots.size ≤ ((1 : Int32)).toNatClampNeg) := inb_of S2 ⟨by decide, by decide⟩
  have hat2 : cl2.slots[((1 : Int32)).toNatClampNeg]? = some (.int z) := Has.at H2 hin2 hu
  intro target kt
  show Steps p.tables e below (T0.setTop (mkF m 283 #[.val (.int p1), .val (.int p2), .val (.int p3), .val (.int p4), .val (.int p5), .val (.int n5), .val (.int w0), .val (.int w1), .val (.int w2), .val (.int w3), .val (.ref aw), .val (.ref ax), .val (.int k), .val (.ref ar), .val (.int (1 : Int32))] [])) _
  refine XS.iload X0.here hx rfl (hb hby at_283) rfl ?_
  show Steps p.tables e below (T0.setTop (mkF m 285 #[.val (.int p1), .val (.int p2), .val (.int p3), .val (.int p4), .val (.int p5), .val (.int n5), .val (.int w0), .val (.int w1), .val (.int w2), .val (.int w3), .val (.ref aw), .val (.ref ax), .val (.int k), .val (.ref ar), .val (.int (1 : Int32))] [(.int k)])) _
  refine XS.iconst X0.here hx rfl (hb hby at_285) ?_
  show Steps p.tables e below (T0.setTop (mkF m 286 #[.val (.int p1), .val (.int p2), .val (.int p3), .val (.int p4), .val (.int p5), .val (.int n5), .val (.int w0), .val (.int w1), .val (.int w2), .val (.int w3), .val (.ref aw), .val (.ref ax), .val (.int k), .val (.ref ar), .val (.int (1 : Int32))] [(.int (1 : Int32)), (.int k)])) _
  refine XS.icmpNo X0.here hx rfl (hb hby at_286) rfl (tlt (hq : (1 : Int32) < k)).2.2.2 ?_
  show Steps p.tables e below (T0.setTop (mkF m 289 #[.val (.int p1), .val (.int p2), .val (.int p3), .val (.int p4), .val (.int p5), .val (.int n5), .val (.int w0), .val (.int w1), .val (.int w2), .val (.int w3), .val (.ref aw), .val (.ref ax), .val (.int k), .val (.ref ar), .val (.int (1 : Int32))] [])) _
  refine XS.iload X0.here hx rfl (hb hby at_289) rfl ?_
  show Steps p.tables e below (T0.setTop (mkF m 291 #[.val (.int p1), .val (.int p2), .val (.int p3), .val (.int p4), .val (.int p5), .val (.int n5), .val (.int w0), .val (.int w1), .val (.int w2), .val (.int w3), .val (.ref aw), .val (.ref ax), .val (.int k), .val (.ref ar), .val (.int (1 : Int32))] [(.int (1 : Int32))])) _
  refine XS.ifNo X0.here hx rfl (hb hby at_291) rfl ((if0 _ _).trans (feq ((by decide) : ¬ ((1 : Int32) = (0 : Int32)))).1) ?_
  show Steps p.tables e below (T0.setTop (mkF m 294 #[.val (.int p1), .val (.int p2), .val (.int p3), .val (.int p4), .val (.int p5), .val (.int n5), .val (.int w0), .val (.int w1), .val (.int w2), .val (.int w3), .val (.ref aw), .val (.ref ax), .val (.int k), .val (.ref ar), .val (.int (1 : Int32))] [])) _
  refine XS.aload X0.here hx rfl (hb hby at_294) rfl rfl ?_
  show Steps p.tables e below (T0.setTop (mkF m 296 #[.val (.int p1), .val (.int p2), .val (.int p3), .val (.int p4), .val (.int p5), .val (.int n5), .val (.int w0), .val (.int w1), .val (.int w2), .val (.int w3), .val (.ref aw), .val (.ref ax), .val (.int k), .val (.ref ar), .val (.int (1 : Int32))] [(.ref ar)])) _
  refine XS.iconst X0.here hx rfl (hb hby at_296) ?_
  show Steps p.tables e below (T0.setTop (mkF m 297 #[.val (.int p1), .val (.int p2), .val (.int p3), .val (.int p4), .val (.int p5), .val (.int n5), .val (.int w0), .val (.int w1), .val (.int w2), .val (.int w3), .val (.ref aw), .val (.ref ax), .val (.int k), .val (.ref ar), .val (.int (1 : Int32))] [(.int (1 : Int32)), (.ref ar)])) _
  refine X0.iaload hx (j := (1 : Int32)) (v := (.int z)) (by rw [e0]; exact Ar1.1) (State.isArrayOf_alike hZ.alike Ar1.2.1) Ar1.2.2 hin1 hat1 (g := (mkF m 297 #[.val (.int p1), .val (.int p2), .val (.int p3), .val (.int p4), .val (.int p5), .val (.int n5), .val (.int w0), .val (.int w1), .val (.int w2), .val (.int w3), .val (.ref aw), .val (.ref ax), .val (.int k), .val (.ref ar), .val (.int (1 : Int32))] [(.int (1 : Int32)), (.ref ar)])) rfl rfl (hb hby at_297) _ ?_
  show Steps p.tables e below (T0.setTop (mkF m 298 #[.val (.int p1), .val (.int p2), .val (.int p3), .val (.int p4), .val (.int p5), .val (.int n5), .val (.int w0), .val (.int w1), .val (.int w2), .val (.int w3), .val (.ref aw), .val (.ref ax), .val (.int k), .val (.ref ar), .val (.int (1 : Int32))] [(.int z)])) _
  refine XS.aload X0.here hx rfl (hb hby at_298) rfl rfl ?_
  show Steps p.tables e below (T0.setTop (mkF m 300 #[.val (.int p1), .val (.int p2), .val (.int p3), .val (.int p4), .val (.int p5), .val (.int n5), .val (.int w0), .val (.int w1), .val (.int w2), .val (.int w3), .val (.ref aw), .val (.ref ax), .val (.int k), .val (.ref ar), .val (.int (1 : Int32))] [(.ref ax), (.int z)])) _
  refine XS.iconst X0.here hx rfl (hb hby at_300) ?_
  show Steps p.tables e below (T0.setTop (mkF m 301 #[.val (.int p1), .val (.int p2), .val (.int p3), .val (.int p4), .val (.int p5), .val (.int n5), .val (.int w0), .val (.int w1), .val (.int w2), .val (.int w3), .val (.ref aw), .val (.ref ax), .val (.int k), .val (.ref ar), .val (.int (1 : Int32))] [(.int (1 : Int32)), (.ref ax), (.int z)])) _
  refine X0.iaload hx (j := (1 : Int32)) (v := (.int z)) (by rw [e0]; exact Ar2.1) (State.isArrayOf_alike hZ.alike Ar2.2.1) Ar2.2.2 hin2 hat2 (g := (mkF m 301 #[.val (.int p1), .val (.int p2), .val (.int p3), .val (.int p4), .val (.int p5), .val (.int n5), .val (.int w0), .val (.int w1), .val (.int w2), .val (.int w3), .val (.ref aw), .val (.ref ax), .val (.int k), .val (.ref ar), .val (.int (1 : Int32))] [(.int (1 : Int32)), (.ref ax), (.int z)])) rfl rfl (hb hby at_301) _ ?_
  show Steps p.tables e below (T0.setTop (mkF m 302 #[.val (.int p1), .val (.int p2), .val (.int p3), .val (.int p4), .val (.int p5), .val (.int n5), .val (.int w0), .val (.int w1), .val (.int w2), .val (.int w3), .val (.ref aw), .val (.ref ax), .val (.int k), .val (.ref ar), .val (.int (1 : Int32))] [(.int z), (.int z)])) _
  refine XS.icmpNo X0.here hx rfl (hb hby at_302) rfl (teq (rfl : z = z)).2 ?_
  show Steps p.tables e below (T0.setTop (mkF m 305 #[.val (.int p1), .val (.int p2), .val (.int p3), .val (.int p4), .val (.int p5), .val (.int n5), .val (.int w0), .val (.int w1), .val (.int w2), .val (.int w3), .val (.ref aw), .val (.ref ax), .val (.int k), .val (.ref ar), .val (.int (1 : Int32))] [])) _
  refine XS.iconst X0.here hx rfl (hb hby at_305) ?_
  show Steps p.tables e below (T0.setTop (mkF m 306 #[.val (.int p1), .val (.int p2), .val (.int p3), .val (.int p4), .val (.int p5), .val (.int n5), .val (.int w0), .val (.int w1), .val (.int w2), .val (.int w3), .val (.ref aw), .val (.ref ax), .val (.int k), .val (.ref ar), .val (.int (1 : Int32))] [(.int (1 : Int32))])) _
  refine XS.goto X0.here hx rfl (pc0 := 306) (pc' := 310) rfl (hb hby at_306) (by decide) (by decide) ?_
  show Steps p.tables e below (T0.setTop (mkF m 310 #[.val (.int p1), .val (.int p2), .val (.int p3), .val (.int p4), .val (.int p5), .val (.int n5), .val (.int w0), .val (.int w1), .val (.int w2), .val (.int w3), .val (.ref aw), .val (.ref ax), .val (.int k), .val (.ref ar), .val (.int (1 : Int32))] [(.int (1 : Int32))])) _
  refine XS.istore X0.here hx rfl (hb hby at_310) rfl (l' := #[.val (.int p1), .val (.int p2), .val (.int p3), .val (.int p4), .val (.int p5), .val (.int n5), .val (.int w0), .val (.int w1), .val (.int w2), .val (.int w3), .val (.ref aw), .val (.ref ax), .val (.int k), .val (.ref ar), .val (.int (1 : Int32))]) rfl ?_
  show Steps p.tables e below (T0.setTop (mkF m 312 #[.val (.int p1), .val (.int p2), .val (.int p3), .val (.int p4), .val (.int p5), .val (.int n5), .val (.int w0), .val (.int w1), .val (.int w2), .val (.int w3), .val (.ref aw), .val (.ref ax), .val (.int k), .val (.ref ar), .val (.int (1 : Int32))] [])) _
  exact kt
set_option maxRecDepth 65536 in
set_option maxHeartbeats 40000000 in
theorem ck1n {p : Program} {l : Launch} {e : Env} {R : Room} {s : State} {m : MethodId} {args : Array Value} {below : List Frame} {meth : Method} {c : Code} {T0 : State} {locs : List Loc} {cells slots : Nat} {Z : State} {a0 : Array Value} {h0 : Heap} {n0 : Nat} (p1 p2 p3 p4 p5 n5 w0 w1 w2 w3 : Int32) (aw ax ar : Addr) (k : Int32) (ke kr : ClassId) (vs : List Value) (z : Int32) (X0 : Stand p l e R s m args below meth c T0 locs cells slots) (hx : p.tables.exec = Jvm.exec) (hZ : Z.Warmed39 s.vm) (hw : ∀ d ∈ tables_1, d.before a0 Z = true) (hby : c.code = code) (hml : c.maxLocals = 15) (hown : s.vm.findClass "com/example/steelyard/steelyard/CandidatesPositiveIndicesPinLaw" = some m.cls) (e0 : T0.heap = h0) (N0 : Fr n0 locs) (Z0 : n0 ≤ h0.size) (V_x : Arv Z h0 ax ke .int (4 : Int32) vs (.int (0 : Int32))) (V_r : Arv Z h0 ar kr .int k vs (.int (0 : Int32))) (hu : vs.getD ((1 : Int32)).toNatClampNeg (.int (0 : Int32)) = (.int z)) (hq : ¬ ((1 : Int32) < k)) :
    ∀ target, Steps p.tables e below (T0.setTop (mkF m 312 #[.val (.int p1), .val (.int p2), .val (.int p3), .val (.int p4), .val (.int p5), .val (.int n5), .val (.int w0), .val (.int w1), .val (.int w2), .val (.int w3), .val (.ref aw), .val (.ref ax), .val (.int k), .val (.ref ar), .val (.int (1 : Int32))] [])) target → Steps p.tables e below (T0.setTop (mkF m 283 #[.val (.int p1), .val (.int p2), .val (.int p3), .val (.int p4), .val (.int p5), .val (.int n5), .val (.int w0), .val (.int w1), .val (.int w2), .val (.int w3), .val (.ref aw), .val (.ref ax), .val (.int k), .val (.ref ar), .val (.int (1 : Int32))] [])) target := by
  intro target kt
  show Steps p.tables e below (T0.setTop (mkF m 283 #[.val (.int p1), .val (.int p2), .val (.int p3), .val (.int p4), .val (.int p5), .val (.int n5), .val (.int w0), .val (.int w1), .val (.int w2), .val (.int w3), .val (.ref aw), .val (.ref ax), .val (.int k), .val (.ref ar), .val (.int (1 : Int32))] [])) _
  refine XS.iload X0.here hx rfl (hb hby at_283) rfl ?_
  show Steps p.tables e below (T0.setTop (mkF m 285 #[.val (.int p1), .val (.int p2), .val (.int p3), .val (.int p4), .val (.int p5), .val (.int n5), .val (.int w0), .val (.int w1), .val (.int w2), .val (.int w3), .val (.ref aw), .val (.ref ax), .val (.int k), .val (.ref ar), .val (.int (1 : Int32))] [(.int k)])) _
  refine XS.iconst X0.here hx rfl (hb hby at_285) ?_
  show Steps p.tables e below (T0.setTop (mkF m 286 #[.val (.int p1), .val (.int p2), .val (.int p3), .val (.int p4), .val (.int p5), .val (.int n5), .val (.int w0), .val (.int w1), .val (.int w2), .val (.int w3), .val (.ref aw), .val (.ref ax), .val (.int k), .val (.ref ar), .val (.int (1 : Int32))] [(.int (1 : Int32)), (.int k)])) _
  refine XS.icmpYes X0.here hx rfl (pc0 := 286) (pc' := 312) rfl (hb hby at_286) rfl (flt (hq : ¬ ((1 : Int32) < k))).2.2.2 (by decide) (by decide) ?_
  show Steps p.tables e below (T0.setTop (mkF m 312 #[.val (.int p1), .val (.int p2), .val (.int p3), .val (.int p4), .val (.int p5), .val (.int n5), .val (.int w0), .val (.int w1), .val (.int w2), .val (.int w3), .val (.ref aw), .val (.ref ax), .val (.int k), .val (.ref ar), .val (.int (1 : Int32))] [])) _
  exact kt
theorem ck1 {p : Program} {l : Launch} {e : Env} {R : Room} {s : State} {m : MethodId} {args : Array Value} {below : List Frame} {meth : Method} {c : Code} {T0 : State} {locs : List Loc} {cells slots : Nat} {Z : State} {a0 : Array Value} {h0 : Heap} {n0 : Nat} (p1 p2 p3 p4 p5 n5 w0 w1 w2 w3 : Int32) (aw ax ar : Addr) (k : Int32) (ke kr : ClassId) (vs : List Value) (z : Int32) (X0 : Stand p l e R s m args below meth c T0 locs cells slots) (hx : p.tables.exec = Jvm.exec) (hZ : Z.Warmed39 s.vm) (hw : ∀ d ∈ tables_1, d.before a0 Z = true) (hby : c.code = code) (hml : c.maxLocals = 15) (hown : s.vm.findClass "com/example/steelyard/steelyard/CandidatesPositiveIndicesPinLaw" = some m.cls) (e0 : T0.heap = h0) (N0 : Fr n0 locs) (Z0 : n0 ≤ h0.size) (V_x : Arv Z h0 ax ke .int (4 : Int32) vs (.int (0 : Int32))) (V_r : Arv Z h0 ar kr .int k vs (.int (0 : Int32))) (hu : vs.getD ((1 : Int32)).toNatClampNeg (.int (0 : Int32)) = (.int z)) :
    ∀ target, Steps p.tables e below (T0.setTop (mkF m 312 #[.val (.int p1), .val (.int p2), .val (.int p3), .val (.int p4), .val (.int p5), .val (.int n5), .val (.int w0), .val (.int w1), .val (.int w2), .val (.int w3), .val (.ref aw), .val (.ref ax), .val (.int k), .val (.ref ar), .val (.int (1 : Int32))] [])) target → Steps p.tables e below (T0.setTop (mkF m 283 #[.val (.int p1), .val (.int p2), .val (.int p3), .val (.int p4), .val (.int p5), .val (.int n5), .val (.int w0), .val (.int w1), .val (.int w2), .val (.int w3), .val (.ref aw), .val (.ref ax), .val (.int k), .val (.ref ar), .val (.int (1 : Int32))] [])) target := by
  by_cases hq : (1 : Int32) < k
  · exact ck1y p1 p2 p3 p4 p5 n5 w0 w1 w2 w3 aw ax ar k ke kr vs z X0 hx hZ hw hby hml hown e0 N0 Z0 V_x V_r hu hq
  · exact ck1n p1 p2 p3 p4 p5 n5 w0 w1 w2 w3 aw ax ar k ke kr vs z X0 hx hZ hw hby hml hown e0 N0 Z0 V_x V_r hu hq
set_option maxRecDepth 65536 in
set_option maxHeartbeats 40000000 in
theorem ck2y {p : Program} {l : Launch} {e : Env} {R : Room} {s : State} {m : MethodId} {args : Array Value} {below : List Frame} {meth : Method} {c : Code} {T0 : State} {locs : List Loc} {cells slots : Nat} {Z : State} {a0 : Array Value} {h0 : Heap} {n0 : Nat} (p1 p2 p3 p4 p5 n5 w0 w1 w2 w3 : Int32) (aw ax ar : Addr) (k : Int32) (ke kr : ClassId) (vs : List Value) (z : Int32) (X0 : Stand p l e R s m args below meth c T0 locs cells slots) (hx : p.tables.exec = Jvm.exec) (hZ : Z.Warmed39 s.vm) (hw : ∀ d ∈ tables_1, d.before a0 Z = true) (hby : c.code = code) (hml : c.maxLocals = 15) (hown : s.vm.findClass "com/example/steelyard/steelyard/CandidatesPositiveIndicesPinLaw" = some m.cls) (e0 : T0.heap = h0) (N0 : Fr n0 locs) (Z0 : n0 ≤ h0.size) (V_x : Arv Z h0 ax ke .int (4 : Int32) vs (.int (0 : Int32))) (V_r : Arv Z h0 ar kr .int k vs (.int (0 : Int32))) (hu : vs.getD ((2 : Int32)).toNatClampNeg (.int (0 : Int32)) = (.int z)) (hq : (2 : Int32) < k) :
    ∀ target, Steps p.tables e below (T0.setTop (mkF m 341 #[.val (.int p1), .val (.int p2), .val (.int p3), .val (.int p4), .val (.int p5), .val (.int n5), .val (.int w0), .val (.int w1), .val (.int w2), .val (.int w3), .val (.ref aw), .val (.ref ax), .val (.int k), .val (.ref ar), .val (.int (1 : Int32))] [])) target → Steps p.tables e below (T0.setTop (mkF m 312 #[.val (.int p1), .val (.int p2), .val (.int p3), .val (.int p4), .val (.int p5), .val (.int n5), .val (.int w0), .val (.int w1), .val (.int w2), .val (.int w3), .val (.ref aw), .val (.ref ax), .val (.int k), .val (.ref ar), .val (.int (1 : Int32))] [])) target := by
  obtain ⟨cl1, Ar1, q1, S1, M1, H1, G1⟩ := id V_r
  have hin1 : ¬ ((2 : Int32) < 0 ∨ cl1.slots.size ≤ ((2 : Int32)).toNatClampNeg) := inb_of S1 ⟨by decide, hq⟩
  have hat1 : cl1.slots[((2 : Int32)).toNatClampNeg]? = some (.int z) := Has.at H1 hin1 hu
  obtain ⟨cl2, Ar2, q2, S2, M2, H2, G2⟩ := id V_x
  have hin2 : ¬ ((2 : Int32) < 0 ∨ cl2.slots.size ≤ ((2 : Int32)).toNatClampNeg) := inb_of S2 ⟨by decide, by decide⟩
  have hat2 : cl2.slots[((2 : Int32)).toNatClampNeg]? = some (.int z) := Has.at H2 hin2 hu
  intro target kt
  show Steps p.tables e below (T0.setTop (mkF m 312 #[.val (.int p1), .val (.int p2), .val (.int p3), .val (.int p4), .val (.int p5), .val (.int n5), .val (.int w0), .val (.int w1), .val (.int w2), .val (.int w3), .val (.ref aw), .val (.ref ax), .val (.int k), .val (.ref ar), .val (.int (1 : Int32))] [])) _
  refine XS.iload X0.here hx rfl (hb hby at_312) rfl ?_
  show Steps p.tables e below (T0.setTop (mkF m 314 #[.val (.int p1), .val (.int p2), .val (.int p3), .val (.int p4), .val (.int p5), .val (.int n5), .val (.int w0), .val (.int w1), .val (.int w2), .val (.int w3), .val (.ref aw), .val (.ref ax), .val (.int k), .val (.ref ar), .val (.int (1 : Int32))] [(.int k)])) _
  refine XS.iconst X0.here hx rfl (hb hby at_314) ?_
  show Steps p.tables e below (T0.setTop (mkF m 315 #[.val (.int p1), .val (.int p2), .val (.int p3), .val (.int p4), .val (.int p5), .val (.int n5), .val (.int w0), .val (.int w1), .val (.int w2), .val (.int w3), .val (.ref aw), .val (.ref ax), .val (.int k), .val (.ref ar), .val (.int (1 : Int32))] [(.int (2 : Int32)), (.int k)])) _
  refine XS.icmpNo X0.here hx rfl (hb hby at_315) rfl (tlt (hq : (2 : Int32) < k)).2.2.2 ?_
  show Steps p.tables e below (T0.setTop (mkF m 318 #[.val (.int p1), .val (.int p2), .val (.int p3), .val (.int p4), .val (.int p5), .val (.int n5), .val (.int w0), .val (.int w1), .val (.int w2), .val (.int w3), .val (.ref aw), .val (.ref ax), .val (.int k), .val (.ref ar), .val (.int (1 : Int32))] [])) _
  refine XS.iload X0.here hx rfl (hb hby at_318) rfl ?_
  show Steps p.tables e below (T0.setTop (mkF m 320 #[.val (.int p1), .val (.int p2), .val (.int p3), .val (.int p4), .val (.int p5), .val (.int n5), .val (.int w0), .val (.int w1), .val (.int w2), .val (.int w3), .val (.ref aw), .val (.ref ax), .val (.int k), .val (.ref ar), .val (.int (1 : Int32))] [(.int (1 : Int32))])) _
  refine XS.ifNo X0.here hx rfl (hb hby at_320) rfl ((if0 _ _).trans (feq ((by decide) : ¬ ((1 : Int32) = (0 : Int32)))).1) ?_
  show Steps p.tables e below (T0.setTop (mkF m 323 #[.val (.int p1), .val (.int p2), .val (.int p3), .val (.int p4), .val (.int p5), .val (.int n5), .val (.int w0), .val (.int w1), .val (.int w2), .val (.int w3), .val (.ref aw), .val (.ref ax), .val (.int k), .val (.ref ar), .val (.int (1 : Int32))] [])) _
  refine XS.aload X0.here hx rfl (hb hby at_323) rfl rfl ?_
  show Steps p.tables e below (T0.setTop (mkF m 325 #[.val (.int p1), .val (.int p2), .val (.int p3), .val (.int p4), .val (.int p5), .val (.int n5), .val (.int w0), .val (.int w1), .val (.int w2), .val (.int w3), .val (.ref aw), .val (.ref ax), .val (.int k), .val (.ref ar), .val (.int (1 : Int32))] [(.ref ar)])) _
  refine XS.iconst X0.here hx rfl (hb hby at_325) ?_
  show Steps p.tables e below (T0.setTop (mkF m 326 #[.val (.int p1), .val (.int p2), .val (.int p3), .val (.int p4), .val (.int p5), .val (.int n5), .val (.int w0), .val (.int w1), .val (.int w2), .val (.int w3), .val (.ref aw), .val (.ref ax), .val (.int k), .val (.ref ar), .val (.int (1 : Int32))] [(.int (2 : Int32)), (.ref ar)])) _
  refine X0.iaload hx (j := (2 : Int32)) (v := (.int z)) (by rw [e0]; exact Ar1.1) (State.isArrayOf_alike hZ.alike Ar1.2.1) Ar1.2.2 hin1 hat1 (g := (mkF m 326 #[.val (.int p1), .val (.int p2), .val (.int p3), .val (.int p4), .val (.int p5), .val (.int n5), .val (.int w0), .val (.int w1), .val (.int w2), .val (.int w3), .val (.ref aw), .val (.ref ax), .val (.int k), .val (.ref ar), .val (.int (1 : Int32))] [(.int (2 : Int32)), (.ref ar)])) rfl rfl (hb hby at_326) _ ?_
  show Steps p.tables e below (T0.setTop (mkF m 327 #[.val (.int p1), .val (.int p2), .val (.int p3), .val (.int p4), .val (.int p5), .val (.int n5), .val (.int w0), .val (.int w1), .val (.int w2), .val (.int w3), .val (.ref aw), .val (.ref ax), .val (.int k), .val (.ref ar), .val (.int (1 : Int32))] [(.int z)])) _
  refine XS.aload X0.here hx rfl (hb hby at_327) rfl rfl ?_
  show Steps p.tables e below (T0.setTop (mkF m 329 #[.val (.int p1), .val (.int p2), .val (.int p3), .val (.int p4), .val (.int p5), .val (.int n5), .val (.int w0), .val (.int w1), .val (.int w2), .val (.int w3), .val (.ref aw), .val (.ref ax), .val (.int k), .val (.ref ar), .val (.int (1 : Int32))] [(.ref ax), (.int z)])) _
  refine XS.iconst X0.here hx rfl (hb hby at_329) ?_
  show Steps p.tables e below (T0.setTop (mkF m 330 #[.val (.int p1), .val (.int p2), .val (.int p3), .val (.int p4), .val (.int p5), .val (.int n5), .val (.int w0), .val (.int w1), .val (.int w2), .val (.int w3), .val (.ref aw), .val (.ref ax), .val (.int k), .val (.ref ar), .val (.int (1 : Int32))] [(.int (2 : Int32)), (.ref ax), (.int z)])) _
  refine X0.iaload hx (j := (2 : Int32)) (v := (.int z)) (by rw [e0]; exact Ar2.1) (State.isArrayOf_alike hZ.alike Ar2.2.1) Ar2.2.2 hin2 hat2 (g := (mkF m 330 #[.val (.int p1), .val (.int p2), .val (.int p3), .val (.int p4), .val (.int p5), .val (.int n5), .val (.int w0), .val (.int w1), .val (.int w2), .val (.int w3), .val (.ref aw), .val (.ref ax), .val (.int k), .val (.ref ar), .val (.int (1 : Int32))] [(.int (2 : Int32)), (.ref ax), (.int z)])) rfl rfl (hb hby at_330) _ ?_
  show Steps p.tables e below (T0.setTop (mkF m 331 #[.val (.int p1), .val (.int p2), .val (.int p3), .val (.int p4), .val (.int p5), .val (.int n5), .val (.int w0), .val (.int w1), .val (.int w2), .val (.int w3), .val (.ref aw), .val (.ref ax), .val (.int k), .val (.ref ar), .val (.int (1 : Int32))] [(.int z), (.int z)])) _
  refine XS.icmpNo X0.here hx rfl (hb hby at_331) rfl (teq (rfl : z = z)).2 ?_
  show Steps p.tables e below (T0.setTop (mkF m 334 #[.val (.int p1), .val (.int p2), .val (.int p3), .val (.int p4), .val (.int p5), .val (.int n5), .val (.int w0), .val (.int w1), .val (.int w2), .val (.int w3), .val (.ref aw), .val (.ref ax), .val (.int k), .val (.ref ar), .val (.int (1 : Int32))] [])) _
  refine XS.iconst X0.here hx rfl (hb hby at_334) ?_
  show Steps p.tables e below (T0.setTop (mkF m 335 #[.val (.int p1), .val (.int p2), .val (.int p3), .val (.int p4), .val (.int p5), .val (.int n5), .val (.int w0), .val (.int w1), .val (.int w2), .val (.int w3), .val (.ref aw), .val (.ref ax), .val (.int k), .val (.ref ar), .val (.int (1 : Int32))] [(.int (1 : Int32))])) _
  refine XS.goto X0.here hx rfl (pc0 := 335) (pc' := 339) rfl (hb hby at_335) (by decide) (by decide) ?_
  show Steps p.tables e below (T0.setTop (mkF m 339 #[.val (.int p1), .val (.int p2), .val (.int p3), .val (.int p4), .val (.int p5), .val (.int n5), .val (.int w0), .val (.int w1), .val (.int w2), .val (.int w3), .val (.ref aw), .val (.ref ax), .val (.int k), .val (.ref ar), .val (.int (1 : Int32))] [(.int (1 : Int32))])) _
  refine XS.istore X0.here hx rfl (hb hby at_339) rfl (l' := #[.val (.int p1), .val (.int p2), .val (.int p3), .val (.int p4), .val (.int p5), .val (.int n5), .val (.int w0), .val (.int w1), .val (.int w2), .val (.int w3), .val (.ref aw), .val (.ref ax), .val (.int k), .val (.ref ar), .val (.int (1 : Int32))]) rfl ?_
  show Steps p.tables e below (T0.setTop (mkF m 341 #[.val (.int p1), .val (.int p2), .val (.int p3), .val (.int p4), .val (.int p5), .val (.int n5), .val (.int w0), .val (.int w1), .val (.int w2), .val (.int w3), .val (.ref aw), .val (.ref ax), .val (.int k), .val (.ref ar), .val (.int (1 : Int32))] [])) _
  exact kt
set_option maxRecDepth 65536 in
set_option maxHeartbeats 40000000 in
theorem ck2n {p : Program} {l : Launch} {e : Env} {R : Room} {s : State} {m : MethodId} {args : Array Value} {below : List Frame} {meth : Method} {c : Code} {T0 : State} {locs : List Loc} {cells slots : Nat} {Z : State} {a0 : Array Value} {h0 : Heap} {n0 : Nat} (p1 p2 p3 p4 p5 n5 w0 w1 w2 w3 : Int32) (aw ax ar : Addr) (k : Int32) (ke kr : ClassId) (vs : List Value) (z : Int32) (X0 : Stand p l e R s m args below meth c T0 locs cells slots) (hx : p.tables.exec = Jvm.exec) (hZ : Z.Warmed39 s.vm) (hw : ∀ d ∈ tables_1, d.before a0 Z = true) (hby : c.code = code) (hml : c.maxLocals = 15) (hown : s.vm.findClass "com/example/steelyard/steelyard/CandidatesPositiveIndicesPinLaw" = some m.cls) (e0 : T0.heap = h0) (N0 : Fr n0 locs) (Z0 : n0 ≤ h0.size) (V_x : Arv Z h0 ax ke .int (4 : Int32) vs (.int (0 : Int32))) (V_r : Arv Z h0 ar kr .int k vs (.int (0 : Int32))) (hu : vs.getD ((2 : Int32)).toNatClampNeg (.int (0 : Int32)) = (.int z)) (hq : ¬ ((2 : Int32) < k)) :
    ∀ target, Steps p.tables e below (T0.setTop (mkF m 341 #[.val (.int p1), .val (.int p2), .val (.int p3), .val (.int p4), .val (.int p5), .val (.int n5), .val (.int w0), .val (.int w1), .val (.int w2), .val (.int w3), .val (.ref aw), .val (.ref ax), .val (.int k), .val (.ref ar), .val (.int (1 : Int32))] [])) target → Steps p.tables e below (T0.setTop (mkF m 312 #[.val (.int p1), .val (.int p2), .val (.int p3), .val (.int p4), .val (.int p5), .val (.int n5), .val (.int w0), .val (.int w1), .val (.int w2), .val (.int w3), .val (.ref aw), .val (.ref ax), .val (.int k), .val (.ref ar), .val (.int (1 : Int32))] [])) target := by
  intro target kt
  show Steps p.tables e below (T0.setTop (mkF m 312 #[.val (.int p1), .val (.int p2), .val (.int p3), .val (.int p4), .val (.int p5), .val (.int n5), .val (.int w0), .val (.int w1), .val (.int w2), .val (.int w3), .val (.ref aw), .val (.ref ax), .val (.int k), .val (.ref ar), .val (.int (1 : Int32))] [])) _
  refine XS.iload X0.here hx rfl (hb hby at_312) rfl ?_
  show Steps p.tables e below (T0.setTop (mkF m 314 #[.val (.int p1), .val (.int p2), .val (.int p3), .val (.int p4), .val (.int p5), .val (.int n5), .val (.int w0), .val (.int w1), .val (.int w2), .val (.int w3), .val (.ref aw), .val (.ref ax), .val (.int k), .val (.ref ar), .val (.int (1 : Int32))] [(.int k)])) _
  refine XS.iconst X0.here hx rfl (hb hby at_314) ?_
  show Steps p.tables e below (T0.setTop (mkF m 315 #[.val (.int p1), .val (.int p2), .val (.int p3), .val (.int p4), .val (.int p5), .val (.int n5), .val (.int w0), .val (.int w1), .val (.int w2), .val (.int w3), .val (.ref aw), .val (.ref ax), .val (.int k), .val (.ref ar), .val (.int (1 : Int32))] [(.int (2 : Int32)), (.int k)])) _
  refine XS.icmpYes X0.here hx rfl (pc0 := 315) (pc' := 341) rfl (hb hby at_315) rfl (flt (hq : ¬ ((2 : Int32) < k))).2.2.2 (by decide) (by decide) ?_
  show Steps p.tables e below (T0.setTop (mkF m 341 #[.val (.int p1), .val (.int p2), .val (.int p3), .val (.int p4), .val (.int p5), .val (.int n5), .val (.int w0), .val (.int w1), .val (.int w2), .val (.int w3), .val (.ref aw), .val (.ref ax), .val (.int k), .val (.ref ar), .val (.int (1 : Int32))] [])) _
  exact kt
theorem ck2 {p : Program} {l : Launch} {e : Env} {R : Room} {s : State} {m : MethodId} {args : Array Value} {below : List Frame} {meth : Method} {c : Code} {T0 : State} {locs : List Loc} {cells slots : Nat} {Z : State} {a0 : Array Value} {h0 : Heap} {n0 : Nat} (p1 p2 p3 p4 p5 n5 w0 w1 w2 w3 : Int32) (aw ax ar : Addr) (k : Int32) (ke kr : ClassId) (vs : List Value) (z : Int32) (X0 : Stand p l e R s m args below meth c T0 locs cells slots) (hx : p.tables.exec = Jvm.exec) (hZ : Z.Warmed39 s.vm) (hw : ∀ d ∈ tables_1, d.before a0 Z = true) (hby : c.code = code) (hml : c.maxLocals = 15) (hown : s.vm.findClass "com/example/steelyard/steelyard/CandidatesPositiveIndicesPinLaw" = some m.cls) (e0 : T0.heap = h0) (N0 : Fr n0 locs) (Z0 : n0 ≤ h0.size) (V_x : Arv Z h0 ax ke .int (4 : Int32) vs (.int (0 : Int32))) (V_r : Arv Z h0 ar kr .int k vs (.int (0 : Int32))) (hu : vs.getD ((2 : Int32)).toNatClampNeg (.int (0 : Int32)) = (.int z)) :
    ∀ target, Steps p.tables e below (T0.setTop (mkF m 341 #[.val (.int p1), .val (.int p2), .val (.int p3), .val (.int p4), .val (.int p5), .val (.int n5), .val (.int w0), .val (.int w1), .val (.int w2), .val (.int w3), .val (.ref aw), .val (.ref ax), .val (.int k), .val (.ref ar), .val (.int (1 : Int32))] [])) target → Steps p.tables e below (T0.setTop (mkF m 312 #[.val (.int p1), .val (.int p2), .val (.int p3), .val (.int p4), .val (.int p5), .val (.int n5), .val (.int w0), .val (.int w1), .val (.int w2), .val (.int w3), .val (.ref aw), .val (.ref ax), .val (.int k), .val (.ref ar), .val (.int (1 : Int32))] [])) target := by
  by_cases hq : (2 : Int32) < k
  · exact ck2y p1 p2 p3 p4 p5 n5 w0 w1 w2 w3 aw ax ar k ke kr vs z X0 hx hZ hw hby hml hown e0 N0 Z0 V_x V_r hu hq
  · exact ck2n p1 p2 p3 p4 p5 n5 w0 w1 w2 w3 aw ax ar k ke kr vs z X0 hx hZ hw hby hml hown e0 N0 Z0 V_x V_r hu hq
set_option maxRecDepth 65536 in
set_option maxHeartbeats 40000000 in
theorem ck3y {p : Program} {l : Launch} {e : Env} {R : Room} {s : State} {m : MethodId} {args : Array Value} {below : List Frame} {meth : Method} {c : Code} {T0 : State} {locs : List Loc} {cells slots : Nat} {Z : State} {a0 : Array Value} {h0 : Heap} {n0 : Nat} (p1 p2 p3 p4 p5 n5 w0 w1 w2 w3 : Int32) (aw ax ar : Addr) (k : Int32) (ke kr : ClassId) (vs : List Value) (z : Int32) (X0 : Stand p l e R s m args below meth c T0 locs cells slots) (hx : p.tables.exec = Jvm.exec) (hZ : Z.Warmed39 s.vm) (hw : ∀ d ∈ tables_1, d.before a0 Z = true) (hby : c.code = code) (hml : c.maxLocals = 15) (hown : s.vm.findClass "com/example/steelyard/steelyard/CandidatesPositiveIndicesPinLaw" = some m.cls) (e0 : T0.heap = h0) (N0 : Fr n0 locs) (Z0 : n0 ≤ h0.size) (V_x : Arv Z h0 ax ke .int (4 : Int32) vs (.int (0 : Int32))) (V_r : Arv Z h0 ar kr .int k vs (.int (0 : Int32))) (hu : vs.getD ((3 : Int32)).toNatClampNeg (.int (0 : Int32)) = (.int z)) (hq : (3 : Int32) < k) :
    ∀ target, Steps p.tables e below (T0.setTop (mkF m 370 #[.val (.int p1), .val (.int p2), .val (.int p3), .val (.int p4), .val (.int p5), .val (.int n5), .val (.int w0), .val (.int w1), .val (.int w2), .val (.int w3), .val (.ref aw), .val (.ref ax), .val (.int k), .val (.ref ar), .val (.int (1 : Int32))] [])) target → Steps p.tables e below (T0.setTop (mkF m 341 #[.val (.int p1), .val (.int p2), .val (.int p3), .val (.int p4), .val (.int p5), .val (.int n5), .val (.int w0), .val (.int w1), .val (.int w2), .val (.int w3), .val (.ref aw), .val (.ref ax), .val (.int k), .val (.ref ar), .val (.int (1 : Int32))] [])) target := by
  obtain ⟨cl1, Ar1, q1, S1, M1, H1, G1⟩ := id V_r
  have hin1 : ¬ ((3 : Int32) < 0 ∨ cl1.slots.size ≤ ((3 : Int32)).toNatClampNeg) := inb_of S1 ⟨by decide, hq⟩
  have hat1 : cl1.slots[((3 : Int32)).toNatClampNeg]? = some (.int z) := Has.at H1 hin1 hu
  obtain ⟨cl2, Ar2, q2, S2, M2, H2, G2⟩ := id V_x
  have hin2 : ¬ ((3 : Int32) < 0 ∨ cl2.slots.size ≤ ((3 : Int32)).toNatClampNeg) := inb_of S2 ⟨by decide, by decide⟩
  have hat2 : cl2.slots[((3 : Int32)).toNatClampNeg]? = some (.int z) := Has.at H2 hin2 hu
  intro target kt
  show Steps p.tables e below (T0.setTop (mkF m 341 #[.val (.int p1), .val (.int p2), .val (.int p3), .val (.int p4), .val (.int p5), .val (.int n5), .val (.int w0), .val (.int w1), .val (.int w2), .val (.int w3), .val (.ref aw), .val (.ref ax), .val (.int k), .val (.ref ar), .val (.int (1 : Int32))] [])) _
  refine XS.iload X0.here hx rfl (hb hby at_341) rfl ?_
  show Steps p.tables e below (T0.setTop (mkF m 343 #[.val (.int p1), .val (.int p2), .val (.int p3), .val (.int p4), .val (.int p5), .val (.int n5), .val (.int w0), .val (.int w1), .val (.int w2), .val (.int w3), .val (.ref aw), .val (.ref ax), .val (.int k), .val (.ref ar), .val (.int (1 : Int32))] [(.int k)])) _
  refine XS.iconst X0.here hx rfl (hb hby at_343) ?_
  show Steps p.tables e below (T0.setTop (mkF m 344 #[.val (.int p1), .val (.int p2), .val (.int p3), .val (.int p4), .val (.int p5), .val (.int n5), .val (.int w0), .val (.int w1), .val (.int w2), .val (.int w3), .val (.ref aw), .val (.ref ax), .val (.int k), .val (.ref ar), .val (.int (1 : Int32))] [(.int (3 : Int32)), (.int k)])) _
  refine XS.icmpNo X0.here hx rfl (hb hby at_344) rfl (tlt (hq : (3 : Int32) < k)).2.2.2 ?_
  show Steps p.tables e below (T0.setTop (mkF m 347 #[.val (.int p1), .val (.int p2), .val (.int p3), .val (.int p4), .val (.int p5), .val (.int n5), .val (.int w0), .val (.int w1), .val (.int w2), .val (.int w3), .val (.ref aw), .val (.ref ax), .val (.int k), .val (.ref ar), .val (.int (1 : Int32))] [])) _
  refine XS.iload X0.here hx rfl (hb hby at_347) rfl ?_
  show Steps p.tables e below (T0.setTop (mkF m 349 #[.val (.int p1), .val (.int p2), .val (.int p3), .val (.int p4), .val (.int p5), .val (.int n5), .val (.int w0), .val (.int w1), .val (.int w2), .val (.int w3), .val (.ref aw), .val (.ref ax), .val (.int k), .val (.ref ar), .val (.int (1 : Int32))] [(.int (1 : Int32))])) _
  refine XS.ifNo X0.here hx rfl (hb hby at_349) rfl ((if0 _ _).trans (feq ((by decide) : ¬ ((1 : Int32) = (0 : Int32)))).1) ?_
  show Steps p.tables e below (T0.setTop (mkF m 352 #[.val (.int p1), .val (.int p2), .val (.int p3), .val (.int p4), .val (.int p5), .val (.int n5), .val (.int w0), .val (.int w1), .val (.int w2), .val (.int w3), .val (.ref aw), .val (.ref ax), .val (.int k), .val (.ref ar), .val (.int (1 : Int32))] [])) _
  refine XS.aload X0.here hx rfl (hb hby at_352) rfl rfl ?_
  show Steps p.tables e below (T0.setTop (mkF m 354 #[.val (.int p1), .val (.int p2), .val (.int p3), .val (.int p4), .val (.int p5), .val (.int n5), .val (.int w0), .val (.int w1), .val (.int w2), .val (.int w3), .val (.ref aw), .val (.ref ax), .val (.int k), .val (.ref ar), .val (.int (1 : Int32))] [(.ref ar)])) _
  refine XS.iconst X0.here hx rfl (hb hby at_354) ?_
  show Steps p.tables e below (T0.setTop (mkF m 355 #[.val (.int p1), .val (.int p2), .val (.int p3), .val (.int p4), .val (.int p5), .val (.int n5), .val (.int w0), .val (.int w1), .val (.int w2), .val (.int w3), .val (.ref aw), .val (.ref ax), .val (.int k), .val (.ref ar), .val (.int (1 : Int32))] [(.int (3 : Int32)), (.ref ar)])) _
  refine X0.iaload hx (j := (3 : Int32)) (v := (.int z)) (by rw [e0]; exact Ar1.1) (State.isArrayOf_alike hZ.alike Ar1.2.1) Ar1.2.2 hin1 hat1 (g := (mkF m 355 #[.val (.int p1), .val (.int p2), .val (.int p3), .val (.int p4), .val (.int p5), .val (.int n5), .val (.int w0), .val (.int w1), .val (.int w2), .val (.int w3), .val (.ref aw), .val (.ref ax), .val (.int k), .val (.ref ar), .val (.int (1 : Int32))] [(.int (3 : Int32)), (.ref ar)])) rfl rfl (hb hby at_355) _ ?_
  show Steps p.tables e below (T0.setTop (mkF m 356 #[.val (.int p1), .val (.int p2), .val (.int p3), .val (.int p4), .val (.int p5), .val (.int n5), .val (.int w0), .val (.int w1), .val (.int w2), .val (.int w3), .val (.ref aw), .val (.ref ax), .val (.int k), .val (.ref ar), .val (.int (1 : Int32))] [(.int z)])) _
  refine XS.aload X0.here hx rfl (hb hby at_356) rfl rfl ?_
  show Steps p.tables e below (T0.setTop (mkF m 358 #[.val (.int p1), .val (.int p2), .val (.int p3), .val (.int p4), .val (.int p5), .val (.int n5), .val (.int w0), .val (.int w1), .val (.int w2), .val (.int w3), .val (.ref aw), .val (.ref ax), .val (.int k), .val (.ref ar), .val (.int (1 : Int32))] [(.ref ax), (.int z)])) _
  refine XS.iconst X0.here hx rfl (hb hby at_358) ?_
  show Steps p.tables e below (T0.setTop (mkF m 359 #[.val (.int p1), .val (.int p2), .val (.int p3), .val (.int p4), .val (.int p5), .val (.int n5), .val (.int w0), .val (.int w1), .val (.int w2), .val (.int w3), .val (.ref aw), .val (.ref ax), .val (.int k), .val (.ref ar), .val (.int (1 : Int32))] [(.int (3 : Int32)), (.ref ax), (.int z)])) _
  refine X0.iaload hx (j := (3 : Int32)) (v := (.int z)) (by rw [e0]; exact Ar2.1) (State.isArrayOf_alike hZ.alike Ar2.2.1) Ar2.2.2 hin2 hat2 (g := (mkF m 359 #[.val (.int p1), .val (.int p2), .val (.int p3), .val (.int p4), .val (.int p5), .val (.int n5), .val (.int w0), .val (.int w1), .val (.int w2), .val (.int w3), .val (.ref aw), .val (.ref ax), .val (.int k), .val (.ref ar), .val (.int (1 : Int32))] [(.int (3 : Int32)), (.ref ax), (.int z)])) rfl rfl (hb hby at_359) _ ?_
  show Steps p.tables e below (T0.setTop (mkF m 360 #[.val (.int p1), .val (.int p2), .val (.int p3), .val (.int p4), .val (.int p5), .val (.int n5), .val (.int w0), .val (.int w1), .val (.int w2), .val (.int w3), .val (.ref aw), .val (.ref ax), .val (.int k), .val (.ref ar), .val (.int (1 : Int32))] [(.int z), (.int z)])) _
  refine XS.icmpNo X0.here hx rfl (hb hby at_360) rfl (teq (rfl : z = z)).2 ?_
  show Steps p.tables e below (T0.setTop (mkF m 363 #[.val (.int p1), .val (.int p2), .val (.int p3), .val (.int p4), .val (.int p5), .val (.int n5), .val (.int w0), .val (.int w1), .val (.int w2), .val (.int w3), .val (.ref aw), .val (.ref ax), .val (.int k), .val (.ref ar), .val (.int (1 : Int32))] [])) _
  refine XS.iconst X0.here hx rfl (hb hby at_363) ?_
  show Steps p.tables e below (T0.setTop (mkF m 364 #[.val (.int p1), .val (.int p2), .val (.int p3), .val (.int p4), .val (.int p5), .val (.int n5), .val (.int w0), .val (.int w1), .val (.int w2), .val (.int w3), .val (.ref aw), .val (.ref ax), .val (.int k), .val (.ref ar), .val (.int (1 : Int32))] [(.int (1 : Int32))])) _
  refine XS.goto X0.here hx rfl (pc0 := 364) (pc' := 368) rfl (hb hby at_364) (by decide) (by decide) ?_
  show Steps p.tables e below (T0.setTop (mkF m 368 #[.val (.int p1), .val (.int p2), .val (.int p3), .val (.int p4), .val (.int p5), .val (.int n5), .val (.int w0), .val (.int w1), .val (.int w2), .val (.int w3), .val (.ref aw), .val (.ref ax), .val (.int k), .val (.ref ar), .val (.int (1 : Int32))] [(.int (1 : Int32))])) _
  refine XS.istore X0.here hx rfl (hb hby at_368) rfl (l' := #[.val (.int p1), .val (.int p2), .val (.int p3), .val (.int p4), .val (.int p5), .val (.int n5), .val (.int w0), .val (.int w1), .val (.int w2), .val (.int w3), .val (.ref aw), .val (.ref ax), .val (.int k), .val (.ref ar), .val (.int (1 : Int32))]) rfl ?_
  show Steps p.tables e below (T0.setTop (mkF m 370 #[.val (.int p1), .val (.int p2), .val (.int p3), .val (.int p4), .val (.int p5), .val (.int n5), .val (.int w0), .val (.int w1), .val (.int w2), .val (.int w3), .val (.ref aw), .val (.ref ax), .val (.int k), .val (.ref ar), .val (.int (1 : Int32))] [])) _
  exact kt
set_option maxRecDepth 65536 in
set_option maxHeartbeats 40000000 in
theorem ck3n {p : Program} {l : Launch} {e : Env} {R : Room} {s : State} {m : MethodId} {args : Array Value} {below : List Frame} {meth : Method} {c : Code} {T0 : State} {locs : List Loc} {cells slots : Nat} {Z : State} {a0 : Array Value} {h0 : Heap} {n0 : Nat} (p1 p2 p3 p4 p5 n5 w0 w1 w2 w3 : Int32) (aw ax ar : Addr) (k : Int32) (ke kr : ClassId) (vs : List Value) (z : Int32) (X0 : Stand p l e R s m args below meth c T0 locs cells slots) (hx : p.tables.exec = Jvm.exec) (hZ : Z.Warmed39 s.vm) (hw : ∀ d ∈ tables_1, d.before a0 Z = true) (hby : c.code = code) (hml : c.maxLocals = 15) (hown : s.vm.findClass "com/example/steelyard/steelyard/CandidatesPositiveIndicesPinLaw" = some m.cls) (e0 : T0.heap = h0) (N0 : Fr n0 locs) (Z0 : n0 ≤ h0.size) (V_x : Arv Z h0 ax ke .int (4 : Int32) vs (.int (0 : Int32))) (V_r : Arv Z h0 ar kr .int k vs (.int (0 : Int32))) (hu : vs.getD ((3 : Int32)).toNatClampNeg (.int (0 : Int32)) = (.int z)) (hq : ¬ ((3 : Int32) < k)) :
    ∀ target, Steps p.tables e below (T0.setTop (mkF m 370 #[.val (.int p1), .val (.int p2), .val (.int p3), .val (.int p4), .val (.int p5), .val (.int n5), .val (.int w0), .val (.int w1), .val (.int w2), .val (.int w3), .val (.ref aw), .val (.ref ax), .val (.int k), .val (.ref ar), .val (.int (1 : Int32))] [])) target → Steps p.tables e below (T0.setTop (mkF m 341 #[.val (.int p1), .val (.int p2), .val (.int p3), .val (.int p4), .val (.int p5), .val (.int n5), .val (.int w0), .val (.int w1), .val (.int w2), .val (.int w3), .val (.ref aw), .val (.ref ax), .val (.int k), .val (.ref ar), .val (.int (1 : Int32))] [])) target := by
  intro target kt
  show Steps p.tables e below (T0.setTop (mkF m 341 #[.val (.int p1), .val (.int p2), .val (.int p3), .val (.int p4), .val (.int p5), .val (.int n5), .val (.int w0), .val (.int w1), .val (.int w2), .val (.int w3), .val (.ref aw), .val (.ref ax), .val (.int k), .val (.ref ar), .val (.int (1 : Int32))] [])) _
  refine XS.iload X0.here hx rfl (hb hby at_341) rfl ?_
  show Steps p.tables e below (T0.setTop (mkF m 343 #[.val (.int p1), .val (.int p2), .val (.int p3), .val (.int p4), .val (.int p5), .val (.int n5), .val (.int w0), .val (.int w1), .val (.int w2), .val (.int w3), .val (.ref aw), .val (.ref ax), .val (.int k), .val (.ref ar), .val (.int (1 : Int32))] [(.int k)])) _
  refine XS.iconst X0.here hx rfl (hb hby at_343) ?_
  show Steps p.tables e below (T0.setTop (mkF m 344 #[.val (.int p1), .val (.int p2), .val (.int p3), .val (.int p4), .val (.int p5), .val (.int n5), .val (.int w0), .val (.int w1), .val (.int w2), .val (.int w3), .val (.ref aw), .val (.ref ax), .val (.int k), .val (.ref ar), .val (.int (1 : Int32))] [(.int (3 : Int32)), (.int k)])) _
  refine XS.icmpYes X0.here hx rfl (pc0 := 344) (pc' := 370) rfl (hb hby at_344) rfl (flt (hq : ¬ ((3 : Int32) < k))).2.2.2 (by decide) (by decide) ?_
  show Steps p.tables e below (T0.setTop (mkF m 370 #[.val (.int p1), .val (.int p2), .val (.int p3), .val (.int p4), .val (.int p5), .val (.int n5), .val (.int w0), .val (.int w1), .val (.int w2), .val (.int w3), .val (.ref aw), .val (.ref ax), .val (.int k), .val (.ref ar), .val (.int (1 : Int32))] [])) _
  exact kt
theorem ck3 {p : Program} {l : Launch} {e : Env} {R : Room} {s : State} {m : MethodId} {args : Array Value} {below : List Frame} {meth : Method} {c : Code} {T0 : State} {locs : List Loc} {cells slots : Nat} {Z : State} {a0 : Array Value} {h0 : Heap} {n0 : Nat} (p1 p2 p3 p4 p5 n5 w0 w1 w2 w3 : Int32) (aw ax ar : Addr) (k : Int32) (ke kr : ClassId) (vs : List Value) (z : Int32) (X0 : Stand p l e R s m args below meth c T0 locs cells slots) (hx : p.tables.exec = Jvm.exec) (hZ : Z.Warmed39 s.vm) (hw : ∀ d ∈ tables_1, d.before a0 Z = true) (hby : c.code = code) (hml : c.maxLocals = 15) (hown : s.vm.findClass "com/example/steelyard/steelyard/CandidatesPositiveIndicesPinLaw" = some m.cls) (e0 : T0.heap = h0) (N0 : Fr n0 locs) (Z0 : n0 ≤ h0.size) (V_x : Arv Z h0 ax ke .int (4 : Int32) vs (.int (0 : Int32))) (V_r : Arv Z h0 ar kr .int k vs (.int (0 : Int32))) (hu : vs.getD ((3 : Int32)).toNatClampNeg (.int (0 : Int32)) = (.int z)) :
    ∀ target, Steps p.tables e below (T0.setTop (mkF m 370 #[.val (.int p1), .val (.int p2), .val (.int p3), .val (.int p4), .val (.int p5), .val (.int n5), .val (.int w0), .val (.int w1), .val (.int w2), .val (.int w3), .val (.ref aw), .val (.ref ax), .val (.int k), .val (.ref ar), .val (.int (1 : Int32))] [])) target → Steps p.tables e below (T0.setTop (mkF m 341 #[.val (.int p1), .val (.int p2), .val (.int p3), .val (.int p4), .val (.int p5), .val (.int n5), .val (.int w0), .val (.int w1), .val (.int w2), .val (.int w3), .val (.ref aw), .val (.ref ax), .val (.int k), .val (.ref ar), .val (.int (1 : Int32))] [])) target := by
  by_cases hq : (3 : Int32) < k
  · exact ck3y p1 p2 p3 p4 p5 n5 w0 w1 w2 w3 aw ax ar k ke kr vs z X0 hx hZ hw hby hml hown e0 N0 Z0 V_x V_r hu hq
  · exact ck3n p1 p2 p3 p4 p5 n5 w0 w1 w2 w3 aw ax ar k ke kr vs z X0 hx hZ hw hby hml hown e0 N0 Z0 V_x V_r hu hq
def Q0 (Z : State) (p1 p2 p3 p4 p5 : Int32) (h0 : Heap) (n0 : Nat) (v : Option Value) (h : Heap) (L : List Loc) : Prop := v = some (.int (1 : Int32)) ∧ Fr n0 L
theorem pd_0_0 : parseMethodDescriptor "(I)I" = some ⟨[.int], some .int⟩ := by decide +kernel
theorem pd_0_1 : parseMethodDescriptor "([I)[I" = some ⟨[(.array .int)], some (.array .int)⟩ := by decide +kernel
theorem pn_0 : plainName "com/example/steelyard/steelyard/CandidatesPositiveIndicesPinLaw" = true := by first | (simp [plainName, overriddenIn]; done) | decide +kernel
theorem ef_0 (m : MethodId) (x0 : Int32) (x1 : Int32) (x2 : Int32) (x3 : Int32) (x4 : Int32) : entryFrame m #[(.int x0), (.int x1), (.int x2), (.int x3), (.int x4)] maxLocals = mkF m 0 #[.val (.int x0), .val (.int x1), .val (.int x2), .val (.int x3), .val (.int x4), .unset, .unset, .unset, .unset, .unset, .unset, .unset, .unset, .unset, .unset] [] := by first | (simp [entryFrame, mkF, argsToLocals, Value.category, maxLocals]; done) | rfl
set_option maxRecDepth 65536 in
set_option maxHeartbeats 40000000 in
theorem rm0_0 (l : Launch) (Z : State) (a0 : Array Value) (hw : ∀ d ∈ tables_1, d.before a0 Z = true) (ws : List Jvm.Cond) (p1 p2 p3 p4 p5 : Int32) (h0 : Heap) (n0 : Nat) (Z0 : n0 ≤ h0.size) (hn : ((p1 &&& (7 : Int32)) % (5 : Int32)) = (0 : Int32)) :
    MetFree l x (head1 (Jvm.Cond.code x code maxLocals ret :: ws) room_1) (fun a U => a = #[(.int p1), (.int p2), (.int p3), (.int p4), (.int p5)] ∧ Z.Warmed39 U.vm ∧ U.heap = h0) (fun _ _ _ _ _ => True) (fun _ U o U' => ∃ v L, o = .returned v ∧ Q0 Z p1 p2 p3 p4 p5 h0 n0 v U'.heap L ∧ FrameEnd U o U' L room_1.cells room_1.slots) := by
  refine MetFree.of_bodySF (plainFor_of_name pn_0) hisR ?_
  intro p e s m args below meth c s₁ Bd hml0 hP hK
  obtain ⟨rfl, hZ, hh⟩ := hP
  have hx := Bd.exec
  have hby := Bd.bytes
  have hml : c.maxLocals = 15 := hml0
  have hown : s.vm.findClass "com/example/steelyard/steelyard/CandidatesPositiveIndicesPinLaw" = some m.cls := findClass_of_methodNamed Bd.named
  have hnm := (name_of_methodNamed Bd.named Bd.method).1
  have X0 : Stand p l e room_1 s m #[(.int p1), (.int p2), (.int p3), (.int p4), (.int p5)] below meth c s₁ [] 0 0 := Stand.of_body Bd
  have e0 : s₁.heap = h0 := by rw [← hh, Bd.state]; rfl
  have N0 := Fr.nil n0
  have pre0 : ∀ tz, Steps p.tables e below (s₁.setTop (mkF m 0 #[.val (.int p1), .val (.int p2), .val (.int p3), .val (.int p4), .val (.int p5), .unset, .unset, .unset, .unset, .unset, .unset, .unset, .unset, .unset, .unset] [])) tz → Steps p.tables e below (s₁.setTop (entryFrame m #[(.int p1), (.int p2), (.int p3), (.int p4), (.int p5)] maxLocals)) tz := fun tz kz => castTop (ef_0 m p1 p2 p3 p4 p5) kz
  obtain ⟨_, _, ⟨T1, L1, k1, n1⟩, -, X1, ⟨Lc1, hQ1, l1, y1, z1⟩, st1⟩ := Jvm.LawKit.callS X0 hx (y := (⟨"com/example/steelyard/steelyard/CandidatesPositiveIndicesPinLaw", "weightOf", "(I)I"⟩ : MethodName)) hown (mvT hZ (hw _ (List.mem_of_getElem? (i := 0) rfl))) (mvT hZ (hw _ (List.mem_of_getElem? (i := 1) rfl))) (mvT hZ (hw _ (List.mem_of_getElem? (i := 2) rfl))) (mvT hZ (hw _ (List.mem_of_getElem? (i := 3) rfl))) (by decide) (backOf (W := 0) (rmW l Z a0 hw [] p2 h0 n0 Z0) hZ (hw _ (List.mem_of_getElem? (i := 3) rfl)) (hw _ (List.mem_of_getElem? (i := 2) rfl)) (by decide) (by decide)) (g := (mkF m 9 #[.val (.int p1), .val (.int p2), .val (.int p3), .val (.int p4), .val (.int p5), .val (.int (0 : Int32)), .unset, .unset, .unset, .unset, .unset, .unset, .unset, .unset, .unset] [(.int p2)])) rfl (by rw [hml]; rfl) (argsL := [(.int p2)]) (rest := []) (lenOf pd_0_0 rfl) rfl (by show 2 * 0 + _ ≤ _; exact Nat.le_of_eq rfl) (hb hby at_9) (fun _ _ => ⟨rfl, e0, (by decide : 0 + 0 ≤ _), (by decide : 0 + 0 ≤ _)⟩)
  dsimp only [Pt.U, Pt.locs, Pt.cells, Pt.slots] at X1 l1 y1 z1 st1 hQ1
  subst l1 y1 z1
  obtain ⟨rfl, N1q, eh1⟩ := hQ1
  have N1 := Fr.app N0 N1q
  obtain ⟨_, _, ⟨T2, L2, k2, n2⟩, -, X2, ⟨Lc2, hQ2, l2, y2, z2⟩, st2⟩ := Jvm.LawKit.callS X1 hx (y := (⟨"com/example/steelyard/steelyard/CandidatesPositiveIndicesPinLaw", "weightOf", "(I)I"⟩ : MethodName)) hown (mvT hZ (hw _ (List.mem_of_getElem? (i := 0) rfl))) (mvT hZ (hw _ (List.mem_of_getElem? (i := 1) rfl))) (mvT hZ (hw _ (List.mem_of_getElem? (i := 2) rfl))) (mvT hZ (hw _ (List.mem_of_getElem? (i := 3) rfl))) (by decide) (backOf (W := 0) (rmW l Z a0 hw [] p3 h0 n0 Z0) hZ (hw _ (List.mem_of_getElem? (i := 3) rfl)) (hw _ (List.mem_of_getElem? (i := 2) rfl)) (by decide) (by decide)) (g := (mkF m 15 #[.val (.int p1), .val (.int p2), .val (.int p3), .val (.int p4), .val (.int p5), .val (.int (0 : Int32)), .val (.int (own_wt p2)), .unset, .unset, .unset, .unset, .unset, .unset, .unset, .unset] [(.int p3)])) rfl (by rw [hml]; rfl) (argsL := [(.int p3)]) (rest := []) (lenOf pd_0_0 rfl) rfl (by show 2 * 0 + _ ≤ _; exact Nat.le_of_eq rfl) (hb hby at_15) (fun _ _ => ⟨rfl, eh1, (by decide : 0 + 0 ≤ _), (by decide : 0 + 0 ≤ _)⟩)
  dsimp only [Pt.U, Pt.locs, Pt.cells, Pt.slots] at X2 l2 y2 z2 st2 hQ2
  subst l2 y2 z2
  obtain ⟨rfl, N2q, eh2⟩ := hQ2
  have N2 := Fr.app N1 N2q
  obtain ⟨_, _, ⟨T3, L3, k3, n3⟩, -, X3, ⟨Lc3, hQ3, l3, y3, z3⟩, st3⟩ := Jvm.LawKit.callS X2 hx (y := (⟨"com/example/steelyard/steelyard/CandidatesPositiveIndicesPinLaw", "weightOf", "(I)I"⟩ : MethodName)) hown (mvT hZ (hw _ (List.mem_of_getElem? (i := 0) rfl))) (mvT hZ (hw _ (List.mem_of_getElem? (i := 1) rfl))) (mvT hZ (hw _ (List.mem_of_getElem? (i := 2) rfl))) (mvT hZ (hw _ (List.mem_of_getElem? (i := 3) rfl))) (by decide) (backOf (W := 0) (rmW l Z a0 hw [] p4 h0 n0 Z0) hZ (hw _ (List.mem_of_getElem? (i := 3) rfl)) (hw _ (List.mem_of_getElem? (i := 2) rfl)) (by decide) (by decide)) (g := (mkF m 21 #[.val (.int p1), .val (.int p2), .val (.int p3), .val (.int p4), .val (.int p5), .val (.int (0 : Int32)), .val (.int (own_wt p2)), .val (.int (own_wt p3)), .unset, .unset, .unset, .unset, .unset, .unset, .unset] [(.int p4)])) rfl (by rw [hml]; rfl) (argsL := [(.int p4)]) (rest := []) (lenOf pd_0_0 rfl) rfl (by show 2 * 0 + _ ≤ _; exact Nat.le_of_eq rfl) (hb hby at_21) (fun _ _ => ⟨rfl, eh2, (by decide : 0 + 0 ≤ _), (by decide : 0 + 0 ≤ _)⟩)
  dsimp only [Pt.U, Pt.locs, Pt.cells, Pt.slots] at X3 l3 y3 z3 st3 hQ3
  subst l3 y3 z3
  obtain ⟨rfl, N3q, eh3⟩ := hQ3
  have N3 := Fr.app N2 N3q
  obtain ⟨_, _, ⟨T4, L4, k4, n4⟩, -, X4, ⟨Lc4, hQ4, l4, y4, z4⟩, st4⟩ := Jvm.LawKit.callS X3 hx (y := (⟨"com/example/steelyard/steelyard/CandidatesPositiveIndicesPinLaw", "weightOf", "(I)I"⟩ : MethodName)) hown (mvT hZ (hw _ (List.mem_of_getElem? (i := 0) rfl))) (mvT hZ (hw _ (List.mem_of_getElem? (i := 1) rfl))) (mvT hZ (hw _ (List.mem_of_getElem? (i := 2) rfl))) (mvT hZ (hw _ (List.mem_of_getElem? (i := 3) rfl))) (by decide) (backOf (W := 0) (rmW l Z a0 hw [] p5 h0 n0 Z0) hZ (hw _ (List.mem_of_getElem? (i := 3) rfl)) (hw _ (List.mem_of_getElem? (i := 2) rfl)) (by decide) (by decide)) (g := (mkF m 28 #[.val (.int p1), .val (.int p2), .val (.int p3), .val (.int p4), .val (.int p5), .val (.int (0 : Int32)), .val (.int (own_wt p2)), .val (.int (own_wt p3)), .val (.int (own_wt p4)), .unset, .unset, .unset, .unset, .unset, .unset] [(.int p5)])) rfl (by rw [hml]; rfl) (argsL := [(.int p5)]) (rest := []) (lenOf pd_0_0 rfl) rfl (by show 2 * 0 + _ ≤ _; exact Nat.le_of_eq rfl) (hb hby at_28) (fun _ _ => ⟨rfl, eh3, (by decide : 0 + 0 ≤ _), (by decide : 0 + 0 ≤ _)⟩)
  dsimp only [Pt.U, Pt.locs, Pt.cells, Pt.slots] at X4 l4 y4 z4 st4 hQ4
  subst l4 y4 z4
  obtain ⟨rfl, N4q, eh4⟩ := hQ4
  have N4 := Fr.app N3 N4q
  obtain ⟨T5, h5, k5, X5, e5, E5, A5, st5⟩ := newP X4 hx hZ (hw _ (List.mem_of_getElem? (i := 4) rfl)) eh4 (g := (mkF m 39 #[.val (.int p1), .val (.int p2), .val (.int p3), .val (.int p4), .val (.int p5), .val (.int (0 : Int32)), .val (.int (own_wt p2)), .val (.int (own_wt p3)), .val (.int (own_wt p4)), .val (.int (own_wt p5)), .unset, .unset, .unset, .unset, .unset] [(.int (0 : Int32))])) rfl (hb hby at_39) rfl (by decide) (cap := 0) (by decide) (by decide) (by decide) (by decide)
  obtain ⟨b5, g5⟩ : ∃ z, z = h0.size := ⟨_, rfl⟩
  rw [← g5] at A5 st5
  have gb5 : n0 ≤ b5 := Nat.le_trans Z0 (Nat.le_of_eq g5.symm)
  have Z5 : n0 ≤ h5.size := Nat.le_trans Z0 E5.1
  have V5 : Arv Z h5 b5 k5 .int (0 : Int32) [] (.int (0 : Int32)) := Arv.new A5 (by decide)
  obtain ⟨T6, h6, k6, X6, e6, E6, A6, st6⟩ := newP X5 hx hZ (hw _ (List.mem_of_getElem? (i := 4) rfl)) e5 (g := (mkF m 144 #[.val (.int p1), .val (.int p2), .val (.int p3), .val (.int p4), .val (.int p5), .val (.int (0 : Int32)), .val (.int (own_wt p2)), .val (.int (own_wt p3)), .val (.int (own_wt p4)), .val (.int (own_wt p5)), .val (.ref b5), .unset, .unset, .unset, .unset] [(.int (4 : Int32))])) rfl (hb hby at_144) rfl (by decide) (cap := 4) (by decide) (by decide) (by decide) (by decide)
  obtain ⟨b6, g6⟩ : ∃ z, z = h5.size := ⟨_, rfl⟩
  rw [← g6] at A6 st6
  have gb6 : n0 ≤ b6 := Nat.le_trans Z5 (Nat.le_of_eq g6.symm)
  have ne_b5_b6 : b5 ≠ b6 := (Nat.ne_of_lt (Nat.lt_of_lt_of_le V5.lt (Nat.le_of_eq g6.symm)))
  have V_b5_6 := V5.ext E6
  have Z6 : n0 ≤ h6.size := Nat.le_trans Z5 E6.1
  have V6 : Arv Z h6 b6 k6 .int (4 : Int32) [(.int (0 : Int32)), (.int (0 : Int32)), (.int (0 : Int32)), (.int (0 : Int32))] (.int (0 : Int32)) := (Arv.new A6 (by decide)).pad (pad_rep [] (.int (0 : Int32)) 4)
  obtain ⟨_, _, ⟨T7, L7, k7, n7⟩, -, X7, ⟨Lc7, hQ7, l7, y7, z7⟩, st7⟩ := Jvm.LawKit.callS X6 hx (y := (⟨"com/example/steelyard/steelyard/Candidates", "positiveIndices", "([I)[I"⟩ : MethodName)) hown (mvT hZ (hw _ (List.mem_of_getElem? (i := 5) rfl))) (mvT hZ (hw _ (List.mem_of_getElem? (i := 6) rfl))) (mvT hZ (hw _ (List.mem_of_getElem? (i := 7) rfl))) (mvT hZ (hw _ (List.mem_of_getElem? (i := 8) rfl))) (by decide) (backOf (W := 0) (rmP0 l Z a0 hw [] b5 k5  h6 n0 Z6 V_b5_6) hZ (hw _ (List.mem_of_getElem? (i := 8) rfl)) (hw _ (List.mem_of_getElem? (i := 7) rfl)) (by decide) (by decide)) (g := (mkF m 232 #[.val (.int p1), .val (.int p2), .val (.int p3), .val (.int p4), .val (.int p5), .val (.int (0 : Int32)), .val (.int (own_wt p2)), .val (.int (own_wt p3)), .val (.int (own_wt p4)), .val (.int (own_wt p5)), .val (.ref b5), .val (.ref b6), .val (.int (0 : Int32)), .unset, .unset] [(.ref b5)])) rfl (by rw [hml]; rfl) (argsL := [(.ref b5)]) (rest := []) (lenOf pd_0_1 rfl) rfl (by show 2 * 0 + _ ≤ _; exact Nat.le_of_eq rfl) (hb hby at_232) (fun _ _ => ⟨rfl, e6, (by decide : 2 + 1 ≤ _), (by decide : 4 + 0 ≤ _)⟩)
  dsimp only [Pt.U, Pt.locs, Pt.cells, Pt.slots] at X7 l7 y7 z7 st7 hQ7
  subst l7 y7 z7
  obtain ⟨rfl, N7q, K7, kk7, Vt7⟩ := hQ7
  have N7 := Fr.app N4 N7q
  have V_b5_7 := V_b5_6.keep K7 nin0
  have V_b6_7 := V6.keep K7 nin0
  have Z7 : n0 ≤ T7.heap.size := Nat.le_trans Z6 K7.1
  obtain ⟨c7, gc7⟩ : ∃ z, z = h6.size := ⟨_, rfl⟩
  rw [← gc7] at st7 Vt7
  obtain ⟨cl8, Ar8, q8, S8, M8, H8, G8⟩ := id Vt7
  obtain ⟨z9, hz9⟩ := own_u0_0 
  obtain ⟨z10, hz10⟩ := own_u0_1 
  obtain ⟨z11, hz11⟩ := own_u0_2 
  obtain ⟨z12, hz12⟩ := own_u0_3 
  obtain ⟨fs, hr, hrun, hended, hW, hsame⟩ := X7.leave (v := some (.int (1 : Int32))) (fun h => by rw [Bd.returns] at h; cases h)
  refine ⟨_, _, pre0 _ ?_, hrun, hended, _, _, rfl, ?_, ⟨_, rfl⟩, hW, hsame.mono (by decide) (by decide)⟩
  · show Steps p.tables e below (s₁.setTop (mkF m 0 #[.val (.int p1), .val (.int p2), .val (.int p3), .val (.int p4), .val (.int p5), .unset, .unset, .unset, .unset, .unset, .unset, .unset, .unset, .unset, .unset] [])) _
    refine XS.iloadN X0.here hx rfl (hb hby at_0) rfl ?_
    show Steps p.tables e below (s₁.setTop (mkF m 1 #[.val (.int p1), .val (.int p2), .val (.int p3), .val (.int p4), .val (.int p5), .unset, .unset, .unset, .unset, .unset, .unset, .unset, .unset, .unset, .unset] [(.int p1)])) _
    refine XS.bipush X0.here hx rfl (hb hby at_1) ?_
    show Steps p.tables e below (s₁.setTop (mkF m 3 #[.val (.int p1), .val (.int p2), .val (.int p3), .val (.int p4), .val (.int p5), .unset, .unset, .unset, .unset, .unset, .unset, .unset, .unset, .unset, .unset] [(.int (7 : Int32)), (.int p1)])) _
    refine XS.iand X0.here hx rfl (hb hby at_3) rfl ?_
    show Steps p.tables e below (s₁.setTop (mkF m 4 #[.val (.int p1), .val (.int p2), .val (.int p3), .val (.int p4), .val (.int p5), .unset, .unset, .unset, .unset, .unset, .unset, .unset, .unset, .unset, .unset] [(.int (p1 &&& (7 : Int32)))])) _
    refine XS.iconst X0.here hx rfl (hb hby at_4) ?_
    show Steps p.tables e below (s₁.setTop (mkF m 5 #[.val (.int p1), .val (.int p2), .val (.int p3), .val (.int p4), .val (.int p5), .unset, .unset, .unset, .unset, .unset, .unset, .unset, .unset, .unset, .unset] [(.int (5 : Int32)), (.int (p1 &&& (7 : Int32)))])) _
    refine iremM X0 hx (g := (mkF m 5 #[.val (.int p1), .val (.int p2), .val (.int p3), .val (.int p4), .val (.int p5), .unset, .unset, .unset, .unset, .unset, .unset, .unset, .unset, .unset, .unset] [(.int (5 : Int32)), (.int (p1 &&& (7 : Int32)))])) rfl (hb hby at_5) rfl (by decide) ?_
    show Steps p.tables e below (s₁.setTop (mkF m 6 #[.val (.int p1), .val (.int p2), .val (.int p3), .val (.int p4), .val (.int p5), .unset, .unset, .unset, .unset, .unset, .unset, .unset, .unset, .unset, .unset] [(.int ((p1 &&& (7 : Int32)) % (5 : Int32)))])) _
    rw [hn]
    show Steps p.tables e below (s₁.setTop (mkF m 6 #[.val (.int p1), .val (.int p2), .val (.int p3), .val (.int p4), .val (.int p5), .unset, .unset, .unset, .unset, .unset, .unset, .unset, .unset, .unset, .unset] [(.int (0 : Int32))])) _
    refine XS.istore X0.here hx rfl (hb hby at_6) rfl (l' := #[.val (.int p1), .val (.int p2), .val (.int p3), .val (.int p4), .val (.int p5), .val (.int (0 : Int32)), .unset, .unset, .unset, .unset, .unset, .unset, .unset, .unset, .unset]) rfl ?_
    show Steps p.tables e below (s₁.setTop (mkF m 8 #[.val (.int p1), .val (.int p2), .val (.int p3), .val (.int p4), .val (.int p5), .val (.int (0 : Int32)), .unset, .unset, .unset, .unset, .unset, .unset, .unset, .unset, .unset] [])) _
    refine XS.iloadN X0.here hx rfl (hb hby at_8) rfl ?_
    show Steps p.tables e below (s₁.setTop (mkF m 9 #[.val (.int p1), .val (.int p2), .val (.int p3), .val (.int p4), .val (.int p5), .val (.int (0 : Int32)), .unset, .unset, .unset, .unset, .unset, .unset, .unset, .unset, .unset] [(.int p2)])) _
    refine st1 _ ?_
    show Steps p.tables e below (T1.setTop (mkF m 12 #[.val (.int p1), .val (.int p2), .val (.int p3), .val (.int p4), .val (.int p5), .val (.int (0 : Int32)), .unset, .unset, .unset, .unset, .unset, .unset, .unset, .unset, .unset] [(.int (own_wt p2))])) _
    refine XS.istore X1.here hx rfl (hb hby at_12) rfl (l' := #[.val (.int p1), .val (.int p2), .val (.int p3), .val (.int p4), .val (.int p5), .val (.int (0 : Int32)), .val (.int (own_wt p2)), .unset, .unset, .unset, .unset, .unset, .unset, .unset, .unset]) rfl ?_
    show Steps p.tables e below (T1.setTop (mkF m 14 #[.val (.int p1), .val (.int p2), .val (.int p3), .val (.int p4), .val (.int p5), .val (.int (0 : Int32)), .val (.int (own_wt p2)), .unset, .unset, .unset, .unset, .unset, .unset, .unset, .unset] [])) _
    refine XS.iloadN X1.here hx rfl (hb hby at_14) rfl ?_
    show Steps p.tables e below (T1.setTop (mkF m 15 #[.val (.int p1), .val (.int p2), .val (.int p3), .val (.int p4), .val (.int p5), .val (.int (0 : Int32)), .val (.int (own_wt p2)), .unset, .unset, .unset, .unset, .unset, .unset, .unset, .unset] [(.int p3)])) _
    refine st2 _ ?_
    show Steps p.tables e below (T2.setTop (mkF m 18 #[.val (.int p1), .val (.int p2), .val (.int p3), .val (.int p4), .val (.int p5), .val (.int (0 : Int32)), .val (.int (own_wt p2)), .unset, .unset, .unset, .unset, .unset, .unset, .unset, .unset] [(.int (own_wt p3))])) _
    refine XS.istore X2.here hx rfl (hb hby at_18) rfl (l' := #[.val (.int p1), .val (.int p2), .val (.int p3), .val (.int p4), .val (.int p5), .val (.int (0 : Int32)), .val (.int (own_wt p2)), .val (.int (own_wt p3)), .unset, .unset, .unset, .unset, .unset, .unset, .unset]) rfl ?_
    show Steps p.tables e below (T2.setTop (mkF m 20 #[.val (.int p1), .val (.int p2), .val (.int p3), .val (.int p4), .val (.int p5), .val (.int (0 : Int32)), .val (.int (own_wt p2)), .val (.int (own_wt p3)), .unset, .unset, .unset, .unset, .unset, .unset, .unset] [])) _
    refine XS.iloadN X2.here hx rfl (hb hby at_20) rfl ?_
    show Steps p.tables e below (T2.setTop (mkF m 21 #[.val (.int p1), .val (.int p2), .val (.int p3), .val (.int p4), .val (.int p5), .val (.int (0 : Int32)), .val (.int (own_wt p2)), .val (.int (own_wt p3)), .unset, .unset, .unset, .unset, .unset, .unset, .unset] [(.int p4)])) _
    refine st3 _ ?_
    show Steps p.tables e below (T3.setTop (mkF m 24 #[.val (.int p1), .val (.int p2), .val (.int p3), .val (.int p4), .val (.int p5), .val (.int (0 : Int32)), .val (.int (own_wt p2)), .val (.int (own_wt p3)), .unset, .unset, .unset, .unset, .unset, .unset, .unset] [(.int (own_wt p4))])) _
    refine XS.istore X3.here hx rfl (hb hby at_24) rfl (l' := #[.val (.int p1), .val (.int p2), .val (.int p3), .val (.int p4), .val (.int p5), .val (.int (0 : Int32)), .val (.int (own_wt p2)), .val (.int (own_wt p3)), .val (.int (own_wt p4)), .unset, .unset, .unset, .unset, .unset, .unset]) rfl ?_
    show Steps p.tables e below (T3.setTop (mkF m 26 #[.val (.int p1), .val (.int p2), .val (.int p3), .val (.int p4), .val (.int p5), .val (.int (0 : Int32)), .val (.int (own_wt p2)), .val (.int (own_wt p3)), .val (.int (own_wt p4)), .unset, .unset, .unset, .unset, .unset, .unset] [])) _
    refine XS.iload X3.here hx rfl (hb hby at_26) rfl ?_
    show Steps p.tables e below (T3.setTop (mkF m 28 #[.val (.int p1), .val (.int p2), .val (.int p3), .val (.int p4), .val (.int p5), .val (.int (0 : Int32)), .val (.int (own_wt p2)), .val (.int (own_wt p3)), .val (.int (own_wt p4)), .unset, .unset, .unset, .unset, .unset, .unset] [(.int p5)])) _
    refine st4 _ ?_
    show Steps p.tables e below (T4.setTop (mkF m 31 #[.val (.int p1), .val (.int p2), .val (.int p3), .val (.int p4), .val (.int p5), .val (.int (0 : Int32)), .val (.int (own_wt p2)), .val (.int (own_wt p3)), .val (.int (own_wt p4)), .unset, .unset, .unset, .unset, .unset, .unset] [(.int (own_wt p5))])) _
    refine XS.istore X4.here hx rfl (hb hby at_31) rfl (l' := #[.val (.int p1), .val (.int p2), .val (.int p3), .val (.int p4), .val (.int p5), .val (.int (0 : Int32)), .val (.int (own_wt p2)), .val (.int (own_wt p3)), .val (.int (own_wt p4)), .val (.int (own_wt p5)), .unset, .unset, .unset, .unset, .unset]) rfl ?_
    show Steps p.tables e below (T4.setTop (mkF m 33 #[.val (.int p1), .val (.int p2), .val (.int p3), .val (.int p4), .val (.int p5), .val (.int (0 : Int32)), .val (.int (own_wt p2)), .val (.int (own_wt p3)), .val (.int (own_wt p4)), .val (.int (own_wt p5)), .unset, .unset, .unset, .unset, .unset] [])) _
    refine XS.iload X4.here hx rfl (hb hby at_33) rfl ?_
    show Steps p.tables e below (T4.setTop (mkF m 35 #[.val (.int p1), .val (.int p2), .val (.int p3), .val (.int p4), .val (.int p5), .val (.int (0 : Int32)), .val (.int (own_wt p2)), .val (.int (own_wt p3)), .val (.int (own_wt p4)), .val (.int (own_wt p5)), .unset, .unset, .unset, .unset, .unset] [(.int (0 : Int32))])) _
    refine XS.ifNo X4.here hx rfl (hb hby at_35) rfl ((if0 _ _).trans (teq ((by decide) : (0 : Int32) = (0 : Int32))).2) ?_
    show Steps p.tables e below (T4.setTop (mkF m 38 #[.val (.int p1), .val (.int p2), .val (.int p3), .val (.int p4), .val (.int p5), .val (.int (0 : Int32)), .val (.int (own_wt p2)), .val (.int (own_wt p3)), .val (.int (own_wt p4)), .val (.int (own_wt p5)), .unset, .unset, .unset, .unset, .unset] [])) _
    refine XS.iconst X4.here hx rfl (hb hby at_38) ?_
    show Steps p.tables e below (T4.setTop (mkF m 39 #[.val (.int p1), .val (.int p2), .val (.int p3), .val (.int p4), .val (.int p5), .val (.int (0 : Int32)), .val (.int (own_wt p2)), .val (.int (own_wt p3)), .val (.int (own_wt p4)), .val (.int (own_wt p5)), .unset, .unset, .unset, .unset, .unset] [(.int (0 : Int32))])) _
    refine st5 _ ?_
    show Steps p.tables e below (T5.setTop (mkF m 41 #[.val (.int p1), .val (.int p2), .val (.int p3), .val (.int p4), .val (.int p5), .val (.int (0 : Int32)), .val (.int (own_wt p2)), .val (.int (own_wt p3)), .val (.int (own_wt p4)), .val (.int (own_wt p5)), .unset, .unset, .unset, .unset, .unset] [(.ref b5)])) _
    refine XS.astore X5.here hx rfl (hb hby at_41) rfl rfl (l' := #[.val (.int p1), .val (.int p2), .val (.int p3), .val (.int p4), .val (.int p5), .val (.int (0 : Int32)), .val (.int (own_wt p2)), .val (.int (own_wt p3)), .val (.int (own_wt p4)), .val (.int (own_wt p5)), .val (.ref b5), .unset, .unset, .unset, .unset]) rfl ?_
    show Steps p.tables e below (T5.setTop (mkF m 43 #[.val (.int p1), .val (.int p2), .val (.int p3), .val (.int p4), .val (.int p5), .val (.int (0 : Int32)), .val (.int (own_wt p2)), .val (.int (own_wt p3)), .val (.int (own_wt p4)), .val (.int (own_wt p5)), .val (.ref b5), .unset, .unset, .unset, .unset] [])) _
    refine XS.goto X5.here hx rfl (pc0 := 43) (pc' := 143) rfl (hb hby at_43) (by decide) (by decide) ?_
    show Steps p.tables e below (T5.setTop (mkF m 143 #[.val (.int p1), .val (.int p2), .val (.int p3), .val (.int p4), .val (.int p5), .val (.int (0 : Int32)), .val (.int (own_wt p2)), .val (.int (own_wt p3)), .val (.int (own_wt p4)), .val (.int (own_wt p5)), .val (.ref b5), .unset, .unset, .unset, .unset] [])) _
    refine XS.iconst X5.here hx rfl (hb hby at_143) ?_
    show Steps p.tables e below (T5.setTop (mkF m 144 #[.val (.int p1), .val (.int p2), .val (.int p3), .val (.int p4), .val (.int p5), .val (.int (0 : Int32)), .val (.int (own_wt p2)), .val (.int (own_wt p3)), .val (.int (own_wt p4)), .val (.int (own_wt p5)), .val (.ref b5), .unset, .unset, .unset, .unset] [(.int (4 : Int32))])) _
    refine st6 _ ?_
    show Steps p.tables e below (T6.setTop (mkF m 146 #[.val (.int p1), .val (.int p2), .val (.int p3), .val (.int p4), .val (.int p5), .val (.int (0 : Int32)), .val (.int (own_wt p2)), .val (.int (own_wt p3)), .val (.int (own_wt p4)), .val (.int (own_wt p5)), .val (.ref b5), .unset, .unset, .unset, .unset] [(.ref b6)])) _
    refine XS.astore X6.here hx rfl (hb hby at_146) rfl rfl (l' := #[.val (.int p1), .val (.int p2), .val (.int p3), .val (.int p4), .val (.int p5), .val (.int (0 : Int32)), .val (.int (own_wt p2)), .val (.int (own_wt p3)), .val (.int (own_wt p4)), .val (.int (own_wt p5)), .val (.ref b5), .val (.ref b6), .unset, .unset, .unset]) rfl ?_
    show Steps p.tables e below (T6.setTop (mkF m 148 #[.val (.int p1), .val (.int p2), .val (.int p3), .val (.int p4), .val (.int p5), .val (.int (0 : Int32)), .val (.int (own_wt p2)), .val (.int (own_wt p3)), .val (.int (own_wt p4)), .val (.int (own_wt p5)), .val (.ref b5), .val (.ref b6), .unset, .unset, .unset] [])) _
    refine XS.iconst X6.here hx rfl (hb hby at_148) ?_
    show Steps p.tables e below (T6.setTop (mkF m 149 #[.val (.int p1), .val (.int p2), .val (.int p3), .val (.int p4), .val (.int p5), .val (.int (0 : Int32)), .val (.int (own_wt p2)), .val (.int (own_wt p3)), .val (.int (own_wt p4)), .val (.int (own_wt p5)), .val (.ref b5), .val (.ref b6), .unset, .unset, .unset] [(.int (0 : Int32))])) _
    refine XS.istore X6.here hx rfl (hb hby at_149) rfl (l' := #[.val (.int p1), .val (.int p2), .val (.int p3), .val (.int p4), .val (.int p5), .val (.int (0 : Int32)), .val (.int (own_wt p2)), .val (.int (own_wt p3)), .val (.int (own_wt p4)), .val (.int (own_wt p5)), .val (.ref b5), .val (.ref b6), .val (.int (0 : Int32)), .unset, .unset]) rfl ?_
    show Steps p.tables e below (T6.setTop (mkF m 151 #[.val (.int p1), .val (.int p2), .val (.int p3), .val (.int p4), .val (.int p5), .val (.int (0 : Int32)), .val (.int (own_wt p2)), .val (.int (own_wt p3)), .val (.int (own_wt p4)), .val (.int (own_wt p5)), .val (.ref b5), .val (.ref b6), .val (.int (0 : Int32)), .unset, .unset] [])) _
    refine XS.iload X6.here hx rfl (hb hby at_151) rfl ?_
    show Steps p.tables e below (T6.setTop (mkF m 153 #[.val (.int p1), .val (.int p2), .val (.int p3), .val (.int p4), .val (.int p5), .val (.int (0 : Int32)), .val (.int (own_wt p2)), .val (.int (own_wt p3)), .val (.int (own_wt p4)), .val (.int (own_wt p5)), .val (.ref b5), .val (.ref b6), .val (.int (0 : Int32)), .unset, .unset] [(.int (0 : Int32))])) _
    refine XS.ifYes X6.here hx rfl (pc0 := 153) (pc' := 170) rfl (hb hby at_153) rfl ((if0 _ _).trans (flt ((by decide) : ¬ ((0 : Int32) < (0 : Int32)))).2.2.2) (by decide) (by decide) ?_
    show Steps p.tables e below (T6.setTop (mkF m 170 #[.val (.int p1), .val (.int p2), .val (.int p3), .val (.int p4), .val (.int p5), .val (.int (0 : Int32)), .val (.int (own_wt p2)), .val (.int (own_wt p3)), .val (.int (own_wt p4)), .val (.int (own_wt p5)), .val (.ref b5), .val (.ref b6), .val (.int (0 : Int32)), .unset, .unset] [])) _
    refine XS.iload X6.here hx rfl (hb hby at_170) rfl ?_
    show Steps p.tables e below (T6.setTop (mkF m 172 #[.val (.int p1), .val (.int p2), .val (.int p3), .val (.int p4), .val (.int p5), .val (.int (0 : Int32)), .val (.int (own_wt p2)), .val (.int (own_wt p3)), .val (.int (own_wt p4)), .val (.int (own_wt p5)), .val (.ref b5), .val (.ref b6), .val (.int (0 : Int32)), .unset, .unset] [(.int (0 : Int32))])) _
    refine XS.iconst X6.here hx rfl (hb hby at_172) ?_
    show Steps p.tables e below (T6.setTop (mkF m 173 #[.val (.int p1), .val (.int p2), .val (.int p3), .val (.int p4), .val (.int p5), .val (.int (0 : Int32)), .val (.int (own_wt p2)), .val (.int (own_wt p3)), .val (.int (own_wt p4)), .val (.int (own_wt p5)), .val (.ref b5), .val (.ref b6), .val (.int (0 : Int32)), .unset, .unset] [(.int (1 : Int32)), (.int (0 : Int32))])) _
    refine XS.icmpYes X6.here hx rfl (pc0 := 173) (pc' := 190) rfl (hb hby at_173) rfl (flt ((by decide) : ¬ ((1 : Int32) < (0 : Int32)))).2.2.2 (by decide) (by decide) ?_
    show Steps p.tables e below (T6.setTop (mkF m 190 #[.val (.int p1), .val (.int p2), .val (.int p3), .val (.int p4), .val (.int p5), .val (.int (0 : Int32)), .val (.int (own_wt p2)), .val (.int (own_wt p3)), .val (.int (own_wt p4)), .val (.int (own_wt p5)), .val (.ref b5), .val (.ref b6), .val (.int (0 : Int32)), .unset, .unset] [])) _
    refine XS.iload X6.here hx rfl (hb hby at_190) rfl ?_
    show Steps p.tables e below (T6.setTop (mkF m 192 #[.val (.int p1), .val (.int p2), .val (.int p3), .val (.int p4), .val (.int p5), .val (.int (0 : Int32)), .val (.int (own_wt p2)), .val (.int (own_wt p3)), .val (.int (own_wt p4)), .val (.int (own_wt p5)), .val (.ref b5), .val (.ref b6), .val (.int (0 : Int32)), .unset, .unset] [(.int (0 : Int32))])) _
    refine XS.iconst X6.here hx rfl (hb hby at_192) ?_
    show Steps p.tables e below (T6.setTop (mkF m 193 #[.val (.int p1), .val (.int p2), .val (.int p3), .val (.int p4), .val (.int p5), .val (.int (0 : Int32)), .val (.int (own_wt p2)), .val (.int (own_wt p3)), .val (.int (own_wt p4)), .val (.int (own_wt p5)), .val (.ref b5), .val (.ref b6), .val (.int (0 : Int32)), .unset, .unset] [(.int (2 : Int32)), (.int (0 : Int32))])) _
    refine XS.icmpYes X6.here hx rfl (pc0 := 193) (pc' := 210) rfl (hb hby at_193) rfl (flt ((by decide) : ¬ ((2 : Int32) < (0 : Int32)))).2.2.2 (by decide) (by decide) ?_
    show Steps p.tables e below (T6.setTop (mkF m 210 #[.val (.int p1), .val (.int p2), .val (.int p3), .val (.int p4), .val (.int p5), .val (.int (0 : Int32)), .val (.int (own_wt p2)), .val (.int (own_wt p3)), .val (.int (own_wt p4)), .val (.int (own_wt p5)), .val (.ref b5), .val (.ref b6), .val (.int (0 : Int32)), .unset, .unset] [])) _
    refine XS.iload X6.here hx rfl (hb hby at_210) rfl ?_
    show Steps p.tables e below (T6.setTop (mkF m 212 #[.val (.int p1), .val (.int p2), .val (.int p3), .val (.int p4), .val (.int p5), .val (.int (0 : Int32)), .val (.int (own_wt p2)), .val (.int (own_wt p3)), .val (.int (own_wt p4)), .val (.int (own_wt p5)), .val (.ref b5), .val (.ref b6), .val (.int (0 : Int32)), .unset, .unset] [(.int (0 : Int32))])) _
    refine XS.iconst X6.here hx rfl (hb hby at_212) ?_
    show Steps p.tables e below (T6.setTop (mkF m 213 #[.val (.int p1), .val (.int p2), .val (.int p3), .val (.int p4), .val (.int p5), .val (.int (0 : Int32)), .val (.int (own_wt p2)), .val (.int (own_wt p3)), .val (.int (own_wt p4)), .val (.int (own_wt p5)), .val (.ref b5), .val (.ref b6), .val (.int (0 : Int32)), .unset, .unset] [(.int (3 : Int32)), (.int (0 : Int32))])) _
    refine XS.icmpYes X6.here hx rfl (pc0 := 213) (pc' := 230) rfl (hb hby at_213) rfl (flt ((by decide) : ¬ ((3 : Int32) < (0 : Int32)))).2.2.2 (by decide) (by decide) ?_
    show Steps p.tables e below (T6.setTop (mkF m 230 #[.val (.int p1), .val (.int p2), .val (.int p3), .val (.int p4), .val (.int p5), .val (.int (0 : Int32)), .val (.int (own_wt p2)), .val (.int (own_wt p3)), .val (.int (own_wt p4)), .val (.int (own_wt p5)), .val (.ref b5), .val (.ref b6), .val (.int (0 : Int32)), .unset, .unset] [])) _
    refine XS.aload X6.here hx rfl (hb hby at_230) rfl rfl ?_
    show Steps p.tables e below (T6.setTop (mkF m 232 #[.val (.int p1), .val (.int p2), .val (.int p3), .val (.int p4), .val (.int p5), .val (.int (0 : Int32)), .val (.int (own_wt p2)), .val (.int (own_wt p3)), .val (.int (own_wt p4)), .val (.int (own_wt p5)), .val (.ref b5), .val (.ref b6), .val (.int (0 : Int32)), .unset, .unset] [(.ref b5)])) _
    refine st7 _ ?_
    show Steps p.tables e below (T7.setTop (mkF m 235 #[.val (.int p1), .val (.int p2), .val (.int p3), .val (.int p4), .val (.int p5), .val (.int (0 : Int32)), .val (.int (own_wt p2)), .val (.int (own_wt p3)), .val (.int (own_wt p4)), .val (.int (own_wt p5)), .val (.ref b5), .val (.ref b6), .val (.int (0 : Int32)), .unset, .unset] [(.ref c7)])) _
    refine XS.astore X7.here hx rfl (hb hby at_235) rfl rfl (l' := #[.val (.int p1), .val (.int p2), .val (.int p3), .val (.int p4), .val (.int p5), .val (.int (0 : Int32)), .val (.int (own_wt p2)), .val (.int (own_wt p3)), .val (.int (own_wt p4)), .val (.int (own_wt p5)), .val (.ref b5), .val (.ref b6), .val (.int (0 : Int32)), .val (.ref c7), .unset]) rfl ?_
    show Steps p.tables e below (T7.setTop (mkF m 237 #[.val (.int p1), .val (.int p2), .val (.int p3), .val (.int p4), .val (.int p5), .val (.int (0 : Int32)), .val (.int (own_wt p2)), .val (.int (own_wt p3)), .val (.int (own_wt p4)), .val (.int (own_wt p5)), .val (.ref b5), .val (.ref b6), .val (.int (0 : Int32)), .val (.ref c7), .unset] [])) _
    refine XS.aload X7.here hx rfl (hb hby at_237) rfl rfl ?_
    show Steps p.tables e below (T7.setTop (mkF m 239 #[.val (.int p1), .val (.int p2), .val (.int p3), .val (.int p4), .val (.int p5), .val (.int (0 : Int32)), .val (.int (own_wt p2)), .val (.int (own_wt p3)), .val (.int (own_wt p4)), .val (.int (own_wt p5)), .val (.ref b5), .val (.ref b6), .val (.int (0 : Int32)), .val (.ref c7), .unset] [(.ref c7)])) _
    refine XS.ifnullNo X7.here hx rfl (hb hby at_239) rfl ?_
    show Steps p.tables e below (T7.setTop (mkF m 242 #[.val (.int p1), .val (.int p2), .val (.int p3), .val (.int p4), .val (.int p5), .val (.int (0 : Int32)), .val (.int (own_wt p2)), .val (.int (own_wt p3)), .val (.int (own_wt p4)), .val (.int (own_wt p5)), .val (.ref b5), .val (.ref b6), .val (.int (0 : Int32)), .val (.ref c7), .unset] [])) _
    refine XS.aload X7.here hx rfl (hb hby at_242) rfl rfl ?_
    show Steps p.tables e below (T7.setTop (mkF m 244 #[.val (.int p1), .val (.int p2), .val (.int p3), .val (.int p4), .val (.int p5), .val (.int (0 : Int32)), .val (.int (own_wt p2)), .val (.int (own_wt p3)), .val (.int (own_wt p4)), .val (.int (own_wt p5)), .val (.ref b5), .val (.ref b6), .val (.int (0 : Int32)), .val (.ref c7), .unset] [(.ref c7)])) _
    refine X7.arraylength hx Ar8.1 (State.isArrayOf_alike hZ.alike Ar8.2.1) (g := (mkF m 244 #[.val (.int p1), .val (.int p2), .val (.int p3), .val (.int p4), .val (.int p5), .val (.int (0 : Int32)), .val (.int (own_wt p2)), .val (.int (own_wt p3)), .val (.int (own_wt p4)), .val (.int (own_wt p5)), .val (.ref b5), .val (.ref b6), .val (.int (0 : Int32)), .val (.ref c7), .unset] [(.ref c7)])) rfl rfl (hb hby at_244) _ ?_
    rw [len_of S8 M8]
    show Steps p.tables e below (T7.setTop (mkF m 245 #[.val (.int p1), .val (.int p2), .val (.int p3), .val (.int p4), .val (.int p5), .val (.int (0 : Int32)), .val (.int (own_wt p2)), .val (.int (own_wt p3)), .val (.int (own_wt p4)), .val (.int (own_wt p5)), .val (.ref b5), .val (.ref b6), .val (.int (0 : Int32)), .val (.ref c7), .unset] [(.int (0 : Int32))])) _
    refine XS.iload X7.here hx rfl (hb hby at_245) rfl ?_
    show Steps p.tables e below (T7.setTop (mkF m 247 #[.val (.int p1), .val (.int p2), .val (.int p3), .val (.int p4), .val (.int p5), .val (.int (0 : Int32)), .val (.int (own_wt p2)), .val (.int (own_wt p3)), .val (.int (own_wt p4)), .val (.int (own_wt p5)), .val (.ref b5), .val (.ref b6), .val (.int (0 : Int32)), .val (.ref c7), .unset] [(.int (0 : Int32)), (.int (0 : Int32))])) _
    refine XS.icmpYes X7.here hx rfl (pc0 := 247) (pc' := 252) rfl (hb hby at_247) rfl (teq ((by decide) : (0 : Int32) = (0 : Int32))).1 (by decide) (by decide) ?_
    show Steps p.tables e below (T7.setTop (mkF m 252 #[.val (.int p1), .val (.int p2), .val (.int p3), .val (.int p4), .val (.int p5), .val (.int (0 : Int32)), .val (.int (own_wt p2)), .val (.int (own_wt p3)), .val (.int (own_wt p4)), .val (.int (own_wt p5)), .val (.ref b5), .val (.ref b6), .val (.int (0 : Int32)), .val (.ref c7), .unset] [])) _
    refine XS.iconst X7.here hx rfl (hb hby at_252) ?_
    show Steps p.tables e below (T7.setTop (mkF m 253 #[.val (.int p1), .val (.int p2), .val (.int p3), .val (.int p4), .val (.int p5), .val (.int (0 : Int32)), .val (.int (own_wt p2)), .val (.int (own_wt p3)), .val (.int (own_wt p4)), .val (.int (own_wt p5)), .val (.ref b5), .val (.ref b6), .val (.int (0 : Int32)), .val (.ref c7), .unset] [(.int (1 : Int32))])) _
    refine XS.istore X7.here hx rfl (hb hby at_253) rfl (l' := #[.val (.int p1), .val (.int p2), .val (.int p3), .val (.int p4), .val (.int p5), .val (.int (0 : Int32)), .val (.int (own_wt p2)), .val (.int (own_wt p3)), .val (.int (own_wt p4)), .val (.int (own_wt p5)), .val (.ref b5), .val (.ref b6), .val (.int (0 : Int32)), .val (.ref c7), .val (.int (1 : Int32))]) rfl ?_
    show Steps p.tables e below (T7.setTop (mkF m 255 #[.val (.int p1), .val (.int p2), .val (.int p3), .val (.int p4), .val (.int p5), .val (.int (0 : Int32)), .val (.int (own_wt p2)), .val (.int (own_wt p3)), .val (.int (own_wt p4)), .val (.int (own_wt p5)), .val (.ref b5), .val (.ref b6), .val (.int (0 : Int32)), .val (.ref c7), .val (.int (1 : Int32))] [])) _
    refine ck0 p1 p2 p3 p4 p5 (0 : Int32) (own_wt p2) (own_wt p3) (own_wt p4) (own_wt p5) b5 b6 c7 (0 : Int32) k6 kk7 [(.int (0 : Int32)), (.int (0 : Int32)), (.int (0 : Int32)), (.int (0 : Int32))] z9 X7 hx hZ hw hby hml hown rfl N7 Z7 V_b6_7 Vt7 hz9 _ ?_
    show Steps p.tables e below (T7.setTop (mkF m 283 #[.val (.int p1), .val (.int p2), .val (.int p3), .val (.int p4), .val (.int p5), .val (.int (0 : Int32)), .val (.int (own_wt p2)), .val (.int (own_wt p3)), .val (.int (own_wt p4)), .val (.int (own_wt p5)), .val (.ref b5), .val (.ref b6), .val (.int (0 : Int32)), .val (.ref c7), .val (.int (1 : Int32))] [])) _
    refine ck1 p1 p2 p3 p4 p5 (0 : Int32) (own_wt p2) (own_wt p3) (own_wt p4) (own_wt p5) b5 b6 c7 (0 : Int32) k6 kk7 [(.int (0 : Int32)), (.int (0 : Int32)), (.int (0 : Int32)), (.int (0 : Int32))] z10 X7 hx hZ hw hby hml hown rfl N7 Z7 V_b6_7 Vt7 hz10 _ ?_
    show Steps p.tables e below (T7.setTop (mkF m 312 #[.val (.int p1), .val (.int p2), .val (.int p3), .val (.int p4), .val (.int p5), .val (.int (0 : Int32)), .val (.int (own_wt p2)), .val (.int (own_wt p3)), .val (.int (own_wt p4)), .val (.int (own_wt p5)), .val (.ref b5), .val (.ref b6), .val (.int (0 : Int32)), .val (.ref c7), .val (.int (1 : Int32))] [])) _
    refine ck2 p1 p2 p3 p4 p5 (0 : Int32) (own_wt p2) (own_wt p3) (own_wt p4) (own_wt p5) b5 b6 c7 (0 : Int32) k6 kk7 [(.int (0 : Int32)), (.int (0 : Int32)), (.int (0 : Int32)), (.int (0 : Int32))] z11 X7 hx hZ hw hby hml hown rfl N7 Z7 V_b6_7 Vt7 hz11 _ ?_
    show Steps p.tables e below (T7.setTop (mkF m 341 #[.val (.int p1), .val (.int p2), .val (.int p3), .val (.int p4), .val (.int p5), .val (.int (0 : Int32)), .val (.int (own_wt p2)), .val (.int (own_wt p3)), .val (.int (own_wt p4)), .val (.int (own_wt p5)), .val (.ref b5), .val (.ref b6), .val (.int (0 : Int32)), .val (.ref c7), .val (.int (1 : Int32))] [])) _
    refine ck3 p1 p2 p3 p4 p5 (0 : Int32) (own_wt p2) (own_wt p3) (own_wt p4) (own_wt p5) b5 b6 c7 (0 : Int32) k6 kk7 [(.int (0 : Int32)), (.int (0 : Int32)), (.int (0 : Int32)), (.int (0 : Int32))] z12 X7 hx hZ hw hby hml hown rfl N7 Z7 V_b6_7 Vt7 hz12 _ ?_
    show Steps p.tables e below (T7.setTop (mkF m 370 #[.val (.int p1), .val (.int p2), .val (.int p3), .val (.int p4), .val (.int p5), .val (.int (0 : Int32)), .val (.int (own_wt p2)), .val (.int (own_wt p3)), .val (.int (own_wt p4)), .val (.int (own_wt p5)), .val (.ref b5), .val (.ref b6), .val (.int (0 : Int32)), .val (.ref c7), .val (.int (1 : Int32))] [])) _
    refine XS.iload X7.here hx rfl (hb hby at_370) rfl ?_
    show Steps p.tables e below (T7.setTop (mkF m 372 #[.val (.int p1), .val (.int p2), .val (.int p3), .val (.int p4), .val (.int p5), .val (.int (0 : Int32)), .val (.int (own_wt p2)), .val (.int (own_wt p3)), .val (.int (own_wt p4)), .val (.int (own_wt p5)), .val (.ref b5), .val (.ref b6), .val (.int (0 : Int32)), .val (.ref c7), .val (.int (1 : Int32))] [(.int (1 : Int32))])) _
    exact retN X7 hx (t := .boolean) Bd.returns (by simp) (hb hby at_372) hr
  · show Q0 Z p1 p2 p3 p4 p5 h0 n0 _ T7.heap _
    exact ⟨rfl, N7⟩
set_option maxRecDepth 65536 in
set_option maxHeartbeats 40000000 in
theorem rm0_1 (l : Launch) (Z : State) (a0 : Array Value) (hw : ∀ d ∈ tables_1, d.before a0 Z = true) (ws : List Jvm.Cond) (p1 p2 p3 p4 p5 : Int32) (h0 : Heap) (n0 : Nat) (Z0 : n0 ≤ h0.size) (hn : ((p1 &&& (7 : Int32)) % (5 : Int32)) = (1 : Int32)) :
    MetFree l x (head1 (Jvm.Cond.code x code maxLocals ret :: ws) room_1) (fun a U => a = #[(.int p1), (.int p2), (.int p3), (.int p4), (.int p5)] ∧ Z.Warmed39 U.vm ∧ U.heap = h0) (fun _ _ _ _ _ => True) (fun _ U o U' => ∃ v L, o = .returned v ∧ Q0 Z p1 p2 p3 p4 p5 h0 n0 v U'.heap L ∧ FrameEnd U o U' L room_1.cells room_1.slots) := by
  refine MetFree.of_bodySF (plainFor_of_name pn_0) hisR ?_
  intro p e s m args below meth c s₁ Bd hml0 hP hK
  obtain ⟨rfl, hZ, hh⟩ := hP
  have hx := Bd.exec
  have hby := Bd.bytes
  have hml : c.maxLocals = 15 := hml0
  have hown : s.vm.findClass "com/example/steelyard/steelyard/CandidatesPositiveIndicesPinLaw" = some m.cls := findClass_of_methodNamed Bd.named
  have hnm := (name_of_methodNamed Bd.named Bd.method).1
  have X0 : Stand p l e room_1 s m #[(.int p1), (.int p2), (.int p3), (.int p4), (.int p5)] below meth c s₁ [] 0 0 := Stand.of_body Bd
  have e0 : s₁.heap = h0 := by rw [← hh, Bd.state]; rfl
  have N0 := Fr.nil n0
  have pre0 : ∀ tz, Steps p.tables e below (s₁.setTop (mkF m 0 #[.val (.int p1), .val (.int p2), .val (.int p3), .val (.int p4), .val (.int p5), .unset, .unset, .unset, .unset, .unset, .unset, .unset, .unset, .unset, .unset] [])) tz → Steps p.tables e below (s₁.setTop (entryFrame m #[(.int p1), (.int p2), (.int p3), (.int p4), (.int p5)] maxLocals)) tz := fun tz kz => castTop (ef_0 m p1 p2 p3 p4 p5) kz
  obtain ⟨_, _, ⟨T1, L1, k1, n1⟩, -, X1, ⟨Lc1, hQ1, l1, y1, z1⟩, st1⟩ := Jvm.LawKit.callS X0 hx (y := (⟨"com/example/steelyard/steelyard/CandidatesPositiveIndicesPinLaw", "weightOf", "(I)I"⟩ : MethodName)) hown (mvT hZ (hw _ (List.mem_of_getElem? (i := 0) rfl))) (mvT hZ (hw _ (List.mem_of_getElem? (i := 1) rfl))) (mvT hZ (hw _ (List.mem_of_getElem? (i := 2) rfl))) (mvT hZ (hw _ (List.mem_of_getElem? (i := 3) rfl))) (by decide) (backOf (W := 0) (rmW l Z a0 hw [] p2 h0 n0 Z0) hZ (hw _ (List.mem_of_getElem? (i := 3) rfl)) (hw _ (List.mem_of_getElem? (i := 2) rfl)) (by decide) (by decide)) (g := (mkF m 9 #[.val (.int p1), .val (.int p2), .val (.int p3), .val (.int p4), .val (.int p5), .val (.int (1 : Int32)), .unset, .unset, .unset, .unset, .unset, .unset, .unset, .unset, .unset] [(.int p2)])) rfl (by rw [hml]; rfl) (argsL := [(.int p2)]) (rest := []) (lenOf pd_0_0 rfl) rfl (by show 2 * 0 + _ ≤ _; exact Nat.le_of_eq rfl) (hb hby at_9) (fun _ _ => ⟨rfl, e0, (by decide : 0 + 0 ≤ _), (by decide : 0 + 0 ≤ _)⟩)
  dsimp only [Pt.U, Pt.locs, Pt.cells, Pt.slots] at X1 l1 y1 z1 st1 hQ1
  subst l1 y1 z1
  obtain ⟨rfl, N1q, eh1⟩ := hQ1
  have N1 := Fr.app N0 N1q
  obtain ⟨_, _, ⟨T2, L2, k2, n2⟩, -, X2, ⟨Lc2, hQ2, l2, y2, z2⟩, st2⟩ := Jvm.LawKit.callS X1 hx (y := (⟨"com/example/steelyard/steelyard/CandidatesPositiveIndicesPinLaw", "weightOf", "(I)I"⟩ : MethodName)) hown (mvT hZ (hw _ (List.mem_of_getElem? (i := 0) rfl))) (mvT hZ (hw _ (List.mem_of_getElem? (i := 1) rfl))) (mvT hZ (hw _ (List.mem_of_getElem? (i := 2) rfl))) (mvT hZ (hw _ (List.mem_of_getElem? (i := 3) rfl))) (by decide) (backOf (W := 0) (rmW l Z a0 hw [] p3 h0 n0 Z0) hZ (hw _ (List.mem_of_getElem? (i := 3) rfl)) (hw _ (List.mem_of_getElem? (i := 2) rfl)) (by decide) (by decide)) (g := (mkF m 15 #[.val (.int p1), .val (.int p2), .val (.int p3), .val (.int p4), .val (.int p5), .val (.int (1 : Int32)), .val (.int (own_wt p2)), .unset, .unset, .unset, .unset, .unset, .unset, .unset, .unset] [(.int p3)])) rfl (by rw [hml]; rfl) (argsL := [(.int p3)]) (rest := []) (lenOf pd_0_0 rfl) rfl (by show 2 * 0 + _ ≤ _; exact Nat.le_of_eq rfl) (hb hby at_15) (fun _ _ => ⟨rfl, eh1, (by decide : 0 + 0 ≤ _), (by decide : 0 + 0 ≤ _)⟩)
  dsimp only [Pt.U, Pt.locs, Pt.cells, Pt.slots] at X2 l2 y2 z2 st2 hQ2
  subst l2 y2 z2
  obtain ⟨rfl, N2q, eh2⟩ := hQ2
  have N2 := Fr.app N1 N2q
  obtain ⟨_, _, ⟨T3, L3, k3, n3⟩, -, X3, ⟨Lc3, hQ3, l3, y3, z3⟩, st3⟩ := Jvm.LawKit.callS X2 hx (y := (⟨"com/example/steelyard/steelyard/CandidatesPositiveIndicesPinLaw", "weightOf", "(I)I"⟩ : MethodName)) hown (mvT hZ (hw _ (List.mem_of_getElem? (i := 0) rfl))) (mvT hZ (hw _ (List.mem_of_getElem? (i := 1) rfl))) (mvT hZ (hw _ (List.mem_of_getElem? (i := 2) rfl))) (mvT hZ (hw _ (List.mem_of_getElem? (i := 3) rfl))) (by decide) (backOf (W := 0) (rmW l Z a0 hw [] p4 h0 n0 Z0) hZ (hw _ (List.mem_of_getElem? (i := 3) rfl)) (hw _ (List.mem_of_getElem? (i := 2) rfl)) (by decide) (by decide)) (g := (mkF m 21 #[.val (.int p1), .val (.int p2), .val (.int p3), .val (.int p4), .val (.int p5), .val (.int (1 : Int32)), .val (.int (own_wt p2)), .val (.int (own_wt p3)), .unset, .unset, .unset, .unset, .unset, .unset, .unset] [(.int p4)])) rfl (by rw [hml]; rfl) (argsL := [(.int p4)]) (rest := []) (lenOf pd_0_0 rfl) rfl (by show 2 * 0 + _ ≤ _; exact Nat.le_of_eq rfl) (hb hby at_21) (fun _ _ => ⟨rfl, eh2, (by decide : 0 + 0 ≤ _), (by decide : 0 + 0 ≤ _)⟩)
  dsimp only [Pt.U, Pt.locs, Pt.cells, Pt.slots] at X3 l3 y3 z3 st3 hQ3
  subst l3 y3 z3
  obtain ⟨rfl, N3q, eh3⟩ := hQ3
  have N3 := Fr.app N2 N3q
  obtain ⟨_, _, ⟨T4, L4, k4, n4⟩, -, X4, ⟨Lc4, hQ4, l4, y4, z4⟩, st4⟩ := Jvm.LawKit.callS X3 hx (y := (⟨"com/example/steelyard/steelyard/CandidatesPositiveIndicesPinLaw", "weightOf", "(I)I"⟩ : MethodName)) hown (mvT hZ (hw _ (List.mem_of_getElem? (i := 0) rfl))) (mvT hZ (hw _ (List.mem_of_getElem? (i := 1) rfl))) (mvT hZ (hw _ (List.mem_of_getElem? (i := 2) rfl))) (mvT hZ (hw _ (List.mem_of_getElem? (i := 3) rfl))) (by decide) (backOf (W := 0) (rmW l Z a0 hw [] p5 h0 n0 Z0) hZ (hw _ (List.mem_of_getElem? (i := 3) rfl)) (hw _ (List.mem_of_getElem? (i := 2) rfl)) (by decide) (by decide)) (g := (mkF m 28 #[.val (.int p1), .val (.int p2), .val (.int p3), .val (.int p4), .val (.int p5), .val (.int (1 : Int32)), .val (.int (own_wt p2)), .val (.int (own_wt p3)), .val (.int (own_wt p4)), .unset, .unset, .unset, .unset, .unset, .unset] [(.int p5)])) rfl (by rw [hml]; rfl) (argsL := [(.int p5)]) (rest := []) (lenOf pd_0_0 rfl) rfl (by show 2 * 0 + _ ≤ _; exact Nat.le_of_eq rfl) (hb hby at_28) (fun _ _ => ⟨rfl, eh3, (by decide : 0 + 0 ≤ _), (by decide : 0 + 0 ≤ _)⟩)
  dsimp only [Pt.U, Pt.locs, Pt.cells, Pt.slots] at X4 l4 y4 z4 st4 hQ4
  subst l4 y4 z4
  obtain ⟨rfl, N4q, eh4⟩ := hQ4
  have N4 := Fr.app N3 N4q
  obtain ⟨T5, h5, k5, X5, e5, E5, A5, st5⟩ := newP X4 hx hZ (hw _ (List.mem_of_getElem? (i := 4) rfl)) eh4 (g := (mkF m 53 #[.val (.int p1), .val (.int p2), .val (.int p3), .val (.int p4), .val (.int p5), .val (.int (1 : Int32)), .val (.int (own_wt p2)), .val (.int (own_wt p3)), .val (.int (own_wt p4)), .val (.int (own_wt p5)), .unset, .unset, .unset, .unset, .unset] [(.int (1 : Int32))])) rfl (hb hby at_53) rfl (by decide) (cap := 1) (by decide) (by decide) (by decide) (by decide)
  obtain ⟨b5, g5⟩ : ∃ z, z = h0.size := ⟨_, rfl⟩
  rw [← g5] at A5 st5
  have gb5 : n0 ≤ b5 := Nat.le_trans Z0 (Nat.le_of_eq g5.symm)
  have Z5 : n0 ≤ h5.size := Nat.le_trans Z0 E5.1
  have V5 : Arv Z h5 b5 k5 .int (1 : Int32) [(.int (0 : Int32))] (.int (0 : Int32)) := (Arv.new A5 (by decide)).pad (pad_rep [] (.int (0 : Int32)) 1)
  obtain ⟨cl6, Ar6, q6, S6, M6, H6, G6⟩ := id V5
  have hin7 : ¬ ((0 : Int32) < 0 ∨ cl6.slots.size ≤ ((0 : Int32)).toNatClampNeg) := inb_of S6 ⟨by decide, by decide⟩
  obtain ⟨T7, h7, X7, e7, W7, st7⟩ := stI X5 hx hZ e5 Ar6 (j := (0 : Int32)) hin7 (g := (mkF m 59 #[.val (.int p1), .val (.int p2), .val (.int p3), .val (.int p4), .val (.int p5), .val (.int (1 : Int32)), .val (.int (own_wt p2)), .val (.int (own_wt p3)), .val (.int (own_wt p4)), .val (.int (own_wt p5)), .unset, .unset, .unset, .unset, .unset] [(.int (own_wt p2)), (.int (0 : Int32)), (.ref b5), (.ref b5)])) rfl rfl (hb hby at_59)
  have V7 : Arv Z h7 b5 k5 .int (1 : Int32) [(.int (own_wt p2))] (.int (0 : Int32)) := Arv.set Ar6 q6 S6 M6 H6 G6 rfl W7 0 rfl (Nat.le_of_ble_eq_true rfl)
  have Z7 : n0 ≤ h7.size := Nat.le_trans Z5 (Keep.of_wr W7).1
  have N7 := Fr.snoc X7 N4 gb5
  obtain ⟨T8, h8, k8, X8, e8, E8, A8, st8⟩ := newP X7 hx hZ (hw _ (List.mem_of_getElem? (i := 4) rfl)) e7 (g := (mkF m 144 #[.val (.int p1), .val (.int p2), .val (.int p3), .val (.int p4), .val (.int p5), .val (.int (1 : Int32)), .val (.int (own_wt p2)), .val (.int (own_wt p3)), .val (.int (own_wt p4)), .val (.int (own_wt p5)), .val (.ref b5), .unset, .unset, .unset, .unset] [(.int (4 : Int32))])) rfl (hb hby at_144) rfl (by decide) (cap := 4) (by decide) (by decide) (by decide) (by decide)
  obtain ⟨b8, g8⟩ : ∃ z, z = h7.size := ⟨_, rfl⟩
  rw [← g8] at A8 st8
  have gb8 : n0 ≤ b8 := Nat.le_trans Z7 (Nat.le_of_eq g8.symm)
  have ne_b5_b8 : b5 ≠ b8 := (Nat.ne_of_lt (Nat.lt_of_lt_of_le V7.lt (Nat.le_of_eq g8.symm)))
  have V_b5_8 := V7.ext E8
  have Z8 : n0 ≤ h8.size := Nat.le_trans Z7 E8.1
  have V8 : Arv Z h8 b8 k8 .int (4 : Int32) [(.int (0 : Int32)), (.int (0 : Int32)), (.int (0 : Int32)), (.int (0 : Int32))] (.int (0 : Int32)) := (Arv.new A8 (by decide)).pad (pad_rep [] (.int (0 : Int32)) 4)
  obtain ⟨T9, h9, L9, X9, e9, N9, Z9, K9, Vx9, st9⟩ := se0 p1 p2 p3 p4 p5 (1 : Int32) (own_wt p2) (own_wt p3) (own_wt p4) (own_wt p5) b5 b8 (0 : Int32) k8 [(.int (0 : Int32)), (.int (0 : Int32)), (.int (0 : Int32)), (.int (0 : Int32))] X8 hx hZ hw hby hml hown e8 N7 Z8 V8 gb8 (by decide) (own_f0 ).1 (own_f0 ).2
  have V_b5_9 := V_b5_8.keep K9 (ninS ne_b5_b8 nin0)
  obtain ⟨_, _, ⟨T10, L10, k10, n10⟩, -, X10, ⟨Lc10, hQ10, l10, y10, z10⟩, st10⟩ := Jvm.LawKit.callS X9 hx (y := (⟨"com/example/steelyard/steelyard/Candidates", "positiveIndices", "([I)[I"⟩ : MethodName)) hown (mvT hZ (hw _ (List.mem_of_getElem? (i := 5) rfl))) (mvT hZ (hw _ (List.mem_of_getElem? (i := 6) rfl))) (mvT hZ (hw _ (List.mem_of_getElem? (i := 7) rfl))) (mvT hZ (hw _ (List.mem_of_getElem? (i := 8) rfl))) (by decide) (backOf (W := 0) (rmP1 l Z a0 hw [] b5 k5 (own_wt p2) h9 n0 Z9 V_b5_9) hZ (hw _ (List.mem_of_getElem? (i := 8) rfl)) (hw _ (List.mem_of_getElem? (i := 7) rfl)) (by decide) (by decide)) (g := (mkF m 232 #[.val (.int p1), .val (.int p2), .val (.int p3), .val (.int p4), .val (.int p5), .val (.int (1 : Int32)), .val (.int (own_wt p2)), .val (.int (own_wt p3)), .val (.int (own_wt p4)), .val (.int (own_wt p5)), .val (.ref b5), .val (.ref b8), .val (.int ((0 : Int32) + own_b (decide ((0 : Int32) < (own_wt p2))))), .unset, .unset] [(.ref b5)])) rfl (by rw [hml]; rfl) (argsL := [(.ref b5)]) (rest := []) (lenOf pd_0_1 rfl) rfl (by show 2 * 0 + _ ≤ _; exact Nat.le_of_eq rfl) (hb hby at_232) (fun _ _ => ⟨rfl, e9, (by decide : 2 + 1 ≤ _), (by decide : 5 + 4 ≤ _)⟩)
  dsimp only [Pt.U, Pt.locs, Pt.cells, Pt.slots] at X10 l10 y10 z10 st10 hQ10
  subst l10 y10 z10
  obtain ⟨rfl, N10q, K10, kk10, Vt10⟩ := hQ10
  have N10 := Fr.app N9 N10q
  have V_b5_10 := V_b5_9.keep K10 nin0
  have V_b8_10 := Vx9.keep K10 nin0
  have Z10 : n0 ≤ T10.heap.size := Nat.le_trans Z9 K10.1
  obtain ⟨c10, gc10⟩ : ∃ z, z = h9.size := ⟨_, rfl⟩
  rw [← gc10] at st10 Vt10
  obtain ⟨cl11, Ar11, q11, S11, M11, H11, G11⟩ := id Vt10
  obtain ⟨z12, hz12⟩ := own_u1_0 (decide ((0 : Int32) < (own_wt p2)))
  obtain ⟨z13, hz13⟩ := own_u1_1 (decide ((0 : Int32) < (own_wt p2)))
  obtain ⟨z14, hz14⟩ := own_u1_2 (decide ((0 : Int32) < (own_wt p2)))
  obtain ⟨z15, hz15⟩ := own_u1_3 (decide ((0 : Int32) < (own_wt p2)))
  obtain ⟨fs, hr, hrun, hended, hW, hsame⟩ := X10.leave (v := some (.int (1 : Int32))) (fun h => by rw [Bd.returns] at h; cases h)
  refine ⟨_, _, pre0 _ ?_, hrun, hended, _, _, rfl, ?_, ⟨_, rfl⟩, hW, hsame.mono (by decide) (by decide)⟩
  · show Steps p.tables e below (s₁.setTop (mkF m 0 #[.val (.int p1), .val (.int p2), .val (.int p3), .val (.int p4), .val (.int p5), .unset, .unset, .unset, .unset, .unset, .unset, .unset, .unset, .unset, .unset] [])) _
    refine XS.iloadN X0.here hx rfl (hb hby at_0) rfl ?_
    show Steps p.tables e below (s₁.setTop (mkF m 1 #[.val (.int p1), .val (.int p2), .val (.int p3), .val (.int p4), .val (.int p5), .unset, .unset, .unset, .unset, .unset, .unset, .unset, .unset, .unset, .unset] [(.int p1)])) _
    refine XS.bipush X0.here hx rfl (hb hby at_1) ?_
    show Steps p.tables e below (s₁.setTop (mkF m 3 #[.val (.int p1), .val (.int p2), .val (.int p3), .val (.int p4), .val (.int p5), .unset, .unset, .unset, .unset, .unset, .unset, .unset, .unset, .unset, .unset] [(.int (7 : Int32)), (.int p1)])) _
    refine XS.iand X0.here hx rfl (hb hby at_3) rfl ?_
    show Steps p.tables e below (s₁.setTop (mkF m 4 #[.val (.int p1), .val (.int p2), .val (.int p3), .val (.int p4), .val (.int p5), .unset, .unset, .unset, .unset, .unset, .unset, .unset, .unset, .unset, .unset] [(.int (p1 &&& (7 : Int32)))])) _
    refine XS.iconst X0.here hx rfl (hb hby at_4) ?_
    show Steps p.tables e below (s₁.setTop (mkF m 5 #[.val (.int p1), .val (.int p2), .val (.int p3), .val (.int p4), .val (.int p5), .unset, .unset, .unset, .unset, .unset, .unset, .unset, .unset, .unset, .unset] [(.int (5 : Int32)), (.int (p1 &&& (7 : Int32)))])) _
    refine iremM X0 hx (g := (mkF m 5 #[.val (.int p1), .val (.int p2), .val (.int p3), .val (.int p4), .val (.int p5), .unset, .unset, .unset, .unset, .unset, .unset, .unset, .unset, .unset, .unset] [(.int (5 : Int32)), (.int (p1 &&& (7 : Int32)))])) rfl (hb hby at_5) rfl (by decide) ?_
    show Steps p.tables e below (s₁.setTop (mkF m 6 #[.val (.int p1), .val (.int p2), .val (.int p3), .val (.int p4), .val (.int p5), .unset, .unset, .unset, .unset, .unset, .unset, .unset, .unset, .unset, .unset] [(.int ((p1 &&& (7 : Int32)) % (5 : Int32)))])) _
    rw [hn]
    show Steps p.tables e below (s₁.setTop (mkF m 6 #[.val (.int p1), .val (.int p2), .val (.int p3), .val (.int p4), .val (.int p5), .unset, .unset, .unset, .unset, .unset, .unset, .unset, .unset, .unset, .unset] [(.int (1 : Int32))])) _
    refine XS.istore X0.here hx rfl (hb hby at_6) rfl (l' := #[.val (.int p1), .val (.int p2), .val (.int p3), .val (.int p4), .val (.int p5), .val (.int (1 : Int32)), .unset, .unset, .unset, .unset, .unset, .unset, .unset, .unset, .unset]) rfl ?_
    show Steps p.tables e below (s₁.setTop (mkF m 8 #[.val (.int p1), .val (.int p2), .val (.int p3), .val (.int p4), .val (.int p5), .val (.int (1 : Int32)), .unset, .unset, .unset, .unset, .unset, .unset, .unset, .unset, .unset] [])) _
    refine XS.iloadN X0.here hx rfl (hb hby at_8) rfl ?_
    show Steps p.tables e below (s₁.setTop (mkF m 9 #[.val (.int p1), .val (.int p2), .val (.int p3), .val (.int p4), .val (.int p5), .val (.int (1 : Int32)), .unset, .unset, .unset, .unset, .unset, .unset, .unset, .unset, .unset] [(.int p2)])) _
    refine st1 _ ?_
    show Steps p.tables e below (T1.setTop (mkF m 12 #[.val (.int p1), .val (.int p2), .val (.int p3), .val (.int p4), .val (.int p5), .val (.int (1 : Int32)), .unset, .unset, .unset, .unset, .unset, .unset, .unset, .unset, .unset] [(.int (own_wt p2))])) _
    refine XS.istore X1.here hx rfl (hb hby at_12) rfl (l' := #[.val (.int p1), .val (.int p2), .val (.int p3), .val (.int p4), .val (.int p5), .val (.int (1 : Int32)), .val (.int (own_wt p2)), .unset, .unset, .unset, .unset, .unset, .unset, .unset, .unset]) rfl ?_
    show Steps p.tables e below (T1.setTop (mkF m 14 #[.val (.int p1), .val (.int p2), .val (.int p3), .val (.int p4), .val (.int p5), .val (.int (1 : Int32)), .val (.int (own_wt p2)), .unset, .unset, .unset, .unset, .unset, .unset, .unset, .unset] [])) _
    refine XS.iloadN X1.here hx rfl (hb hby at_14) rfl ?_
    show Steps p.tables e below (T1.setTop (mkF m 15 #[.val (.int p1), .val (.int p2), .val (.int p3), .val (.int p4), .val (.int p5), .val (.int (1 : Int32)), .val (.int (own_wt p2)), .unset, .unset, .unset, .unset, .unset, .unset, .unset, .unset] [(.int p3)])) _
    refine st2 _ ?_
    show Steps p.tables e below (T2.setTop (mkF m 18 #[.val (.int p1), .val (.int p2), .val (.int p3), .val (.int p4), .val (.int p5), .val (.int (1 : Int32)), .val (.int (own_wt p2)), .unset, .unset, .unset, .unset, .unset, .unset, .unset, .unset] [(.int (own_wt p3))])) _
    refine XS.istore X2.here hx rfl (hb hby at_18) rfl (l' := #[.val (.int p1), .val (.int p2), .val (.int p3), .val (.int p4), .val (.int p5), .val (.int (1 : Int32)), .val (.int (own_wt p2)), .val (.int (own_wt p3)), .unset, .unset, .unset, .unset, .unset, .unset, .unset]) rfl ?_
    show Steps p.tables e below (T2.setTop (mkF m 20 #[.val (.int p1), .val (.int p2), .val (.int p3), .val (.int p4), .val (.int p5), .val (.int (1 : Int32)), .val (.int (own_wt p2)), .val (.int (own_wt p3)), .unset, .unset, .unset, .unset, .unset, .unset, .unset] [])) _
    refine XS.iloadN X2.here hx rfl (hb hby at_20) rfl ?_
    show Steps p.tables e below (T2.setTop (mkF m 21 #[.val (.int p1), .val (.int p2), .val (.int p3), .val (.int p4), .val (.int p5), .val (.int (1 : Int32)), .val (.int (own_wt p2)), .val (.int (own_wt p3)), .unset, .unset, .unset, .unset, .unset, .unset, .unset] [(.int p4)])) _
    refine st3 _ ?_
    show Steps p.tables e below (T3.setTop (mkF m 24 #[.val (.int p1), .val (.int p2), .val (.int p3), .val (.int p4), .val (.int p5), .val (.int (1 : Int32)), .val (.int (own_wt p2)), .val (.int (own_wt p3)), .unset, .unset, .unset, .unset, .unset, .unset, .unset] [(.int (own_wt p4))])) _
    refine XS.istore X3.here hx rfl (hb hby at_24) rfl (l' := #[.val (.int p1), .val (.int p2), .val (.int p3), .val (.int p4), .val (.int p5), .val (.int (1 : Int32)), .val (.int (own_wt p2)), .val (.int (own_wt p3)), .val (.int (own_wt p4)), .unset, .unset, .unset, .unset, .unset, .unset]) rfl ?_
    show Steps p.tables e below (T3.setTop (mkF m 26 #[.val (.int p1), .val (.int p2), .val (.int p3), .val (.int p4), .val (.int p5), .val (.int (1 : Int32)), .val (.int (own_wt p2)), .val (.int (own_wt p3)), .val (.int (own_wt p4)), .unset, .unset, .unset, .unset, .unset, .unset] [])) _
    refine XS.iload X3.here hx rfl (hb hby at_26) rfl ?_
    show Steps p.tables e below (T3.setTop (mkF m 28 #[.val (.int p1), .val (.int p2), .val (.int p3), .val (.int p4), .val (.int p5), .val (.int (1 : Int32)), .val (.int (own_wt p2)), .val (.int (own_wt p3)), .val (.int (own_wt p4)), .unset, .unset, .unset, .unset, .unset, .unset] [(.int p5)])) _
    refine st4 _ ?_
    show Steps p.tables e below (T4.setTop (mkF m 31 #[.val (.int p1), .val (.int p2), .val (.int p3), .val (.int p4), .val (.int p5), .val (.int (1 : Int32)), .val (.int (own_wt p2)), .val (.int (own_wt p3)), .val (.int (own_wt p4)), .unset, .unset, .unset, .unset, .unset, .unset] [(.int (own_wt p5))])) _
    refine XS.istore X4.here hx rfl (hb hby at_31) rfl (l' := #[.val (.int p1), .val (.int p2), .val (.int p3), .val (.int p4), .val (.int p5), .val (.int (1 : Int32)), .val (.int (own_wt p2)), .val (.int (own_wt p3)), .val (.int (own_wt p4)), .val (.int (own_wt p5)), .unset, .unset, .unset, .unset, .unset]) rfl ?_
    show Steps p.tables e below (T4.setTop (mkF m 33 #[.val (.int p1), .val (.int p2), .val (.int p3), .val (.int p4), .val (.int p5), .val (.int (1 : Int32)), .val (.int (own_wt p2)), .val (.int (own_wt p3)), .val (.int (own_wt p4)), .val (.int (own_wt p5)), .unset, .unset, .unset, .unset, .unset] [])) _
    refine XS.iload X4.here hx rfl (hb hby at_33) rfl ?_
    show Steps p.tables e below (T4.setTop (mkF m 35 #[.val (.int p1), .val (.int p2), .val (.int p3), .val (.int p4), .val (.int p5), .val (.int (1 : Int32)), .val (.int (own_wt p2)), .val (.int (own_wt p3)), .val (.int (own_wt p4)), .val (.int (own_wt p5)), .unset, .unset, .unset, .unset, .unset] [(.int (1 : Int32))])) _
    refine XS.ifYes X4.here hx rfl (pc0 := 35) (pc' := 46) rfl (hb hby at_35) rfl ((if0 _ _).trans (feq ((by decide) : ¬ ((1 : Int32) = (0 : Int32)))).2) (by decide) (by decide) ?_
    show Steps p.tables e below (T4.setTop (mkF m 46 #[.val (.int p1), .val (.int p2), .val (.int p3), .val (.int p4), .val (.int p5), .val (.int (1 : Int32)), .val (.int (own_wt p2)), .val (.int (own_wt p3)), .val (.int (own_wt p4)), .val (.int (own_wt p5)), .unset, .unset, .unset, .unset, .unset] [])) _
    refine XS.iload X4.here hx rfl (hb hby at_46) rfl ?_
    show Steps p.tables e below (T4.setTop (mkF m 48 #[.val (.int p1), .val (.int p2), .val (.int p3), .val (.int p4), .val (.int p5), .val (.int (1 : Int32)), .val (.int (own_wt p2)), .val (.int (own_wt p3)), .val (.int (own_wt p4)), .val (.int (own_wt p5)), .unset, .unset, .unset, .unset, .unset] [(.int (1 : Int32))])) _
    refine XS.iconst X4.here hx rfl (hb hby at_48) ?_
    show Steps p.tables e below (T4.setTop (mkF m 49 #[.val (.int p1), .val (.int p2), .val (.int p3), .val (.int p4), .val (.int p5), .val (.int (1 : Int32)), .val (.int (own_wt p2)), .val (.int (own_wt p3)), .val (.int (own_wt p4)), .val (.int (own_wt p5)), .unset, .unset, .unset, .unset, .unset] [(.int (1 : Int32)), (.int (1 : Int32))])) _
    refine XS.icmpNo X4.here hx rfl (hb hby at_49) rfl (teq ((by decide) : (1 : Int32) = (1 : Int32))).2 ?_
    show Steps p.tables e below (T4.setTop (mkF m 52 #[.val (.int p1), .val (.int p2), .val (.int p3), .val (.int p4), .val (.int p5), .val (.int (1 : Int32)), .val (.int (own_wt p2)), .val (.int (own_wt p3)), .val (.int (own_wt p4)), .val (.int (own_wt p5)), .unset, .unset, .unset, .unset, .unset] [])) _
    refine XS.iconst X4.here hx rfl (hb hby at_52) ?_
    show Steps p.tables e below (T4.setTop (mkF m 53 #[.val (.int p1), .val (.int p2), .val (.int p3), .val (.int p4), .val (.int p5), .val (.int (1 : Int32)), .val (.int (own_wt p2)), .val (.int (own_wt p3)), .val (.int (own_wt p4)), .val (.int (own_wt p5)), .unset, .unset, .unset, .unset, .unset] [(.int (1 : Int32))])) _
    refine st5 _ ?_
    show Steps p.tables e below (T5.setTop (mkF m 55 #[.val (.int p1), .val (.int p2), .val (.int p3), .val (.int p4), .val (.int p5), .val (.int (1 : Int32)), .val (.int (own_wt p2)), .val (.int (own_wt p3)), .val (.int (own_wt p4)), .val (.int (own_wt p5)), .unset, .unset, .unset, .unset, .unset] [(.ref b5)])) _
    refine XS.dup X5.here hx rfl (hb hby at_55) rfl rfl ?_
    show Steps p.tables e below (T5.setTop (mkF m 56 #[.val (.int p1), .val (.int p2), .val (.int p3), .val (.int p4), .val (.int p5), .val (.int (1 : Int32)), .val (.int (own_wt p2)), .val (.int (own_wt p3)), .val (.int (own_wt p4)), .val (.int (own_wt p5)), .unset, .unset, .unset, .unset, .unset] [(.ref b5), (.ref b5)])) _
    refine XS.iconst X5.here hx rfl (hb hby at_56) ?_
    show Steps p.tables e below (T5.setTop (mkF m 57 #[.val (.int p1), .val (.int p2), .val (.int p3), .val (.int p4), .val (.int p5), .val (.int (1 : Int32)), .val (.int (own_wt p2)), .val (.int (own_wt p3)), .val (.int (own_wt p4)), .val (.int (own_wt p5)), .unset, .unset, .unset, .unset, .unset] [(.int (0 : Int32)), (.ref b5), (.ref b5)])) _
    refine XS.iload X5.here hx rfl (hb hby at_57) rfl ?_
    show Steps p.tables e below (T5.setTop (mkF m 59 #[.val (.int p1), .val (.int p2), .val (.int p3), .val (.int p4), .val (.int p5), .val (.int (1 : Int32)), .val (.int (own_wt p2)), .val (.int (own_wt p3)), .val (.int (own_wt p4)), .val (.int (own_wt p5)), .unset, .unset, .unset, .unset, .unset] [(.int (own_wt p2)), (.int (0 : Int32)), (.ref b5), (.ref b5)])) _
    refine st7 _ ?_
    show Steps p.tables e below (T7.setTop (mkF m 60 #[.val (.int p1), .val (.int p2), .val (.int p3), .val (.int p4), .val (.int p5), .val (.int (1 : Int32)), .val (.int (own_wt p2)), .val (.int (own_wt p3)), .val (.int (own_wt p4)), .val (.int (own_wt p5)), .unset, .unset, .unset, .unset, .unset] [(.ref b5)])) _
    refine XS.astore X7.here hx rfl (hb hby at_60) rfl rfl (l' := #[.val (.int p1), .val (.int p2), .val (.int p3), .val (.int p4), .val (.int p5), .val (.int (1 : Int32)), .val (.int (own_wt p2)), .val (.int (own_wt p3)), .val (.int (own_wt p4)), .val (.int (own_wt p5)), .val (.ref b5), .unset, .unset, .unset, .unset]) rfl ?_
    show Steps p.tables e below (T7.setTop (mkF m 62 #[.val (.int p1), .val (.int p2), .val (.int p3), .val (.int p4), .val (.int p5), .val (.int (1 : Int32)), .val (.int (own_wt p2)), .val (.int (own_wt p3)), .val (.int (own_wt p4)), .val (.int (own_wt p5)), .val (.ref b5), .unset, .unset, .unset, .unset] [])) _
    refine XS.goto X7.here hx rfl (pc0 := 62) (pc' := 143) rfl (hb hby at_62) (by decide) (by decide) ?_
    show Steps p.tables e below (T7.setTop (mkF m 143 #[.val (.int p1), .val (.int p2), .val (.int p3), .val (.int p4), .val (.int p5), .val (.int (1 : Int32)), .val (.int (own_wt p2)), .val (.int (own_wt p3)), .val (.int (own_wt p4)), .val (.int (own_wt p5)), .val (.ref b5), .unset, .unset, .unset, .unset] [])) _
    refine XS.iconst X7.here hx rfl (hb hby at_143) ?_
    show Steps p.tables e below (T7.setTop (mkF m 144 #[.val (.int p1), .val (.int p2), .val (.int p3), .val (.int p4), .val (.int p5), .val (.int (1 : Int32)), .val (.int (own_wt p2)), .val (.int (own_wt p3)), .val (.int (own_wt p4)), .val (.int (own_wt p5)), .val (.ref b5), .unset, .unset, .unset, .unset] [(.int (4 : Int32))])) _
    refine st8 _ ?_
    show Steps p.tables e below (T8.setTop (mkF m 146 #[.val (.int p1), .val (.int p2), .val (.int p3), .val (.int p4), .val (.int p5), .val (.int (1 : Int32)), .val (.int (own_wt p2)), .val (.int (own_wt p3)), .val (.int (own_wt p4)), .val (.int (own_wt p5)), .val (.ref b5), .unset, .unset, .unset, .unset] [(.ref b8)])) _
    refine XS.astore X8.here hx rfl (hb hby at_146) rfl rfl (l' := #[.val (.int p1), .val (.int p2), .val (.int p3), .val (.int p4), .val (.int p5), .val (.int (1 : Int32)), .val (.int (own_wt p2)), .val (.int (own_wt p3)), .val (.int (own_wt p4)), .val (.int (own_wt p5)), .val (.ref b5), .val (.ref b8), .unset, .unset, .unset]) rfl ?_
    show Steps p.tables e below (T8.setTop (mkF m 148 #[.val (.int p1), .val (.int p2), .val (.int p3), .val (.int p4), .val (.int p5), .val (.int (1 : Int32)), .val (.int (own_wt p2)), .val (.int (own_wt p3)), .val (.int (own_wt p4)), .val (.int (own_wt p5)), .val (.ref b5), .val (.ref b8), .unset, .unset, .unset] [])) _
    refine XS.iconst X8.here hx rfl (hb hby at_148) ?_
    show Steps p.tables e below (T8.setTop (mkF m 149 #[.val (.int p1), .val (.int p2), .val (.int p3), .val (.int p4), .val (.int p5), .val (.int (1 : Int32)), .val (.int (own_wt p2)), .val (.int (own_wt p3)), .val (.int (own_wt p4)), .val (.int (own_wt p5)), .val (.ref b5), .val (.ref b8), .unset, .unset, .unset] [(.int (0 : Int32))])) _
    refine XS.istore X8.here hx rfl (hb hby at_149) rfl (l' := #[.val (.int p1), .val (.int p2), .val (.int p3), .val (.int p4), .val (.int p5), .val (.int (1 : Int32)), .val (.int (own_wt p2)), .val (.int (own_wt p3)), .val (.int (own_wt p4)), .val (.int (own_wt p5)), .val (.ref b5), .val (.ref b8), .val (.int (0 : Int32)), .unset, .unset]) rfl ?_
    show Steps p.tables e below (T8.setTop (mkF m 151 #[.val (.int p1), .val (.int p2), .val (.int p3), .val (.int p4), .val (.int p5), .val (.int (1 : Int32)), .val (.int (own_wt p2)), .val (.int (own_wt p3)), .val (.int (own_wt p4)), .val (.int (own_wt p5)), .val (.ref b5), .val (.ref b8), .val (.int (0 : Int32)), .unset, .unset] [])) _
    refine st9 _ ?_
    show Steps p.tables e below (T9.setTop (mkF m 170 #[.val (.int p1), .val (.int p2), .val (.int p3), .val (.int p4), .val (.int p5), .val (.int (1 : Int32)), .val (.int (own_wt p2)), .val (.int (own_wt p3)), .val (.int (own_wt p4)), .val (.int (own_wt p5)), .val (.ref b5), .val (.ref b8), .val (.int ((0 : Int32) + own_b (decide ((0 : Int32) < (own_wt p2))))), .unset, .unset] [])) _
    refine XS.iload X9.here hx rfl (hb hby at_170) rfl ?_
    show Steps p.tables e below (T9.setTop (mkF m 172 #[.val (.int p1), .val (.int p2), .val (.int p3), .val (.int p4), .val (.int p5), .val (.int (1 : Int32)), .val (.int (own_wt p2)), .val (.int (own_wt p3)), .val (.int (own_wt p4)), .val (.int (own_wt p5)), .val (.ref b5), .val (.ref b8), .val (.int ((0 : Int32) + own_b (decide ((0 : Int32) < (own_wt p2))))), .unset, .unset] [(.int (1 : Int32))])) _
    refine XS.iconst X9.here hx rfl (hb hby at_172) ?_
    show Steps p.tables e below (T9.setTop (mkF m 173 #[.val (.int p1), .val (.int p2), .val (.int p3), .val (.int p4), .val (.int p5), .val (.int (1 : Int32)), .val (.int (own_wt p2)), .val (.int (own_wt p3)), .val (.int (own_wt p4)), .val (.int (own_wt p5)), .val (.ref b5), .val (.ref b8), .val (.int ((0 : Int32) + own_b (decide ((0 : Int32) < (own_wt p2))))), .unset, .unset] [(.int (1 : Int32)), (.int (1 : Int32))])) _
    refine XS.icmpYes X9.here hx rfl (pc0 := 173) (pc' := 190) rfl (hb hby at_173) rfl (flt ((by decide) : ¬ ((1 : Int32) < (1 : Int32)))).2.2.2 (by decide) (by decide) ?_
    show Steps p.tables e below (T9.setTop (mkF m 190 #[.val (.int p1), .val (.int p2), .val (.int p3), .val (.int p4), .val (.int p5), .val (.int (1 : Int32)), .val (.int (own_wt p2)), .val (.int (own_wt p3)), .val (.int (own_wt p4)), .val (.int (own_wt p5)), .val (.ref b5), .val (.ref b8), .val (.int ((0 : Int32) + own_b (decide ((0 : Int32) < (own_wt p2))))), .unset, .unset] [])) _
    refine XS.iload X9.here hx rfl (hb hby at_190) rfl ?_
    show Steps p.tables e below (T9.setTop (mkF m 192 #[.val (.int p1), .val (.int p2), .val (.int p3), .val (.int p4), .val (.int p5), .val (.int (1 : Int32)), .val (.int (own_wt p2)), .val (.int (own_wt p3)), .val (.int (own_wt p4)), .val (.int (own_wt p5)), .val (.ref b5), .val (.ref b8), .val (.int ((0 : Int32) + own_b (decide ((0 : Int32) < (own_wt p2))))), .unset, .unset] [(.int (1 : Int32))])) _
    refine XS.iconst X9.here hx rfl (hb hby at_192) ?_
    show Steps p.tables e below (T9.setTop (mkF m 193 #[.val (.int p1), .val (.int p2), .val (.int p3), .val (.int p4), .val (.int p5), .val (.int (1 : Int32)), .val (.int (own_wt p2)), .val (.int (own_wt p3)), .val (.int (own_wt p4)), .val (.int (own_wt p5)), .val (.ref b5), .val (.ref b8), .val (.int ((0 : Int32) + own_b (decide ((0 : Int32) < (own_wt p2))))), .unset, .unset] [(.int (2 : Int32)), (.int (1 : Int32))])) _
    refine XS.icmpYes X9.here hx rfl (pc0 := 193) (pc' := 210) rfl (hb hby at_193) rfl (flt ((by decide) : ¬ ((2 : Int32) < (1 : Int32)))).2.2.2 (by decide) (by decide) ?_
    show Steps p.tables e below (T9.setTop (mkF m 210 #[.val (.int p1), .val (.int p2), .val (.int p3), .val (.int p4), .val (.int p5), .val (.int (1 : Int32)), .val (.int (own_wt p2)), .val (.int (own_wt p3)), .val (.int (own_wt p4)), .val (.int (own_wt p5)), .val (.ref b5), .val (.ref b8), .val (.int ((0 : Int32) + own_b (decide ((0 : Int32) < (own_wt p2))))), .unset, .unset] [])) _
    refine XS.iload X9.here hx rfl (hb hby at_210) rfl ?_
    show Steps p.tables e below (T9.setTop (mkF m 212 #[.val (.int p1), .val (.int p2), .val (.int p3), .val (.int p4), .val (.int p5), .val (.int (1 : Int32)), .val (.int (own_wt p2)), .val (.int (own_wt p3)), .val (.int (own_wt p4)), .val (.int (own_wt p5)), .val (.ref b5), .val (.ref b8), .val (.int ((0 : Int32) + own_b (decide ((0 : Int32) < (own_wt p2))))), .unset, .unset] [(.int (1 : Int32))])) _
    refine XS.iconst X9.here hx rfl (hb hby at_212) ?_
    show Steps p.tables e below (T9.setTop (mkF m 213 #[.val (.int p1), .val (.int p2), .val (.int p3), .val (.int p4), .val (.int p5), .val (.int (1 : Int32)), .val (.int (own_wt p2)), .val (.int (own_wt p3)), .val (.int (own_wt p4)), .val (.int (own_wt p5)), .val (.ref b5), .val (.ref b8), .val (.int ((0 : Int32) + own_b (decide ((0 : Int32) < (own_wt p2))))), .unset, .unset] [(.int (3 : Int32)), (.int (1 : Int32))])) _
    refine XS.icmpYes X9.here hx rfl (pc0 := 213) (pc' := 230) rfl (hb hby at_213) rfl (flt ((by decide) : ¬ ((3 : Int32) < (1 : Int32)))).2.2.2 (by decide) (by decide) ?_
    show Steps p.tables e below (T9.setTop (mkF m 230 #[.val (.int p1), .val (.int p2), .val (.int p3), .val (.int p4), .val (.int p5), .val (.int (1 : Int32)), .val (.int (own_wt p2)), .val (.int (own_wt p3)), .val (.int (own_wt p4)), .val (.int (own_wt p5)), .val (.ref b5), .val (.ref b8), .val (.int ((0 : Int32) + own_b (decide ((0 : Int32) < (own_wt p2))))), .unset, .unset] [])) _
    refine XS.aload X9.here hx rfl (hb hby at_230) rfl rfl ?_
    show Steps p.tables e below (T9.setTop (mkF m 232 #[.val (.int p1), .val (.int p2), .val (.int p3), .val (.int p4), .val (.int p5), .val (.int (1 : Int32)), .val (.int (own_wt p2)), .val (.int (own_wt p3)), .val (.int (own_wt p4)), .val (.int (own_wt p5)), .val (.ref b5), .val (.ref b8), .val (.int ((0 : Int32) + own_b (decide ((0 : Int32) < (own_wt p2))))), .unset, .unset] [(.ref b5)])) _
    refine st10 _ ?_
    show Steps p.tables e below (T10.setTop (mkF m 235 #[.val (.int p1), .val (.int p2), .val (.int p3), .val (.int p4), .val (.int p5), .val (.int (1 : Int32)), .val (.int (own_wt p2)), .val (.int (own_wt p3)), .val (.int (own_wt p4)), .val (.int (own_wt p5)), .val (.ref b5), .val (.ref b8), .val (.int ((0 : Int32) + own_b (decide ((0 : Int32) < (own_wt p2))))), .unset, .unset] [(.ref c10)])) _
    refine XS.astore X10.here hx rfl (hb hby at_235) rfl rfl (l' := #[.val (.int p1), .val (.int p2), .val (.int p3), .val (.int p4), .val (.int p5), .val (.int (1 : Int32)), .val (.int (own_wt p2)), .val (.int (own_wt p3)), .val (.int (own_wt p4)), .val (.int (own_wt p5)), .val (.ref b5), .val (.ref b8), .val (.int ((0 : Int32) + own_b (decide ((0 : Int32) < (own_wt p2))))), .val (.ref c10), .unset]) rfl ?_
    show Steps p.tables e below (T10.setTop (mkF m 237 #[.val (.int p1), .val (.int p2), .val (.int p3), .val (.int p4), .val (.int p5), .val (.int (1 : Int32)), .val (.int (own_wt p2)), .val (.int (own_wt p3)), .val (.int (own_wt p4)), .val (.int (own_wt p5)), .val (.ref b5), .val (.ref b8), .val (.int ((0 : Int32) + own_b (decide ((0 : Int32) < (own_wt p2))))), .val (.ref c10), .unset] [])) _
    refine XS.aload X10.here hx rfl (hb hby at_237) rfl rfl ?_
    show Steps p.tables e below (T10.setTop (mkF m 239 #[.val (.int p1), .val (.int p2), .val (.int p3), .val (.int p4), .val (.int p5), .val (.int (1 : Int32)), .val (.int (own_wt p2)), .val (.int (own_wt p3)), .val (.int (own_wt p4)), .val (.int (own_wt p5)), .val (.ref b5), .val (.ref b8), .val (.int ((0 : Int32) + own_b (decide ((0 : Int32) < (own_wt p2))))), .val (.ref c10), .unset] [(.ref c10)])) _
    refine XS.ifnullNo X10.here hx rfl (hb hby at_239) rfl ?_
    show Steps p.tables e below (T10.setTop (mkF m 242 #[.val (.int p1), .val (.int p2), .val (.int p3), .val (.int p4), .val (.int p5), .val (.int (1 : Int32)), .val (.int (own_wt p2)), .val (.int (own_wt p3)), .val (.int (own_wt p4)), .val (.int (own_wt p5)), .val (.ref b5), .val (.ref b8), .val (.int ((0 : Int32) + own_b (decide ((0 : Int32) < (own_wt p2))))), .val (.ref c10), .unset] [])) _
    refine XS.aload X10.here hx rfl (hb hby at_242) rfl rfl ?_
    show Steps p.tables e below (T10.setTop (mkF m 244 #[.val (.int p1), .val (.int p2), .val (.int p3), .val (.int p4), .val (.int p5), .val (.int (1 : Int32)), .val (.int (own_wt p2)), .val (.int (own_wt p3)), .val (.int (own_wt p4)), .val (.int (own_wt p5)), .val (.ref b5), .val (.ref b8), .val (.int ((0 : Int32) + own_b (decide ((0 : Int32) < (own_wt p2))))), .val (.ref c10), .unset] [(.ref c10)])) _
    refine X10.arraylength hx Ar11.1 (State.isArrayOf_alike hZ.alike Ar11.2.1) (g := (mkF m 244 #[.val (.int p1), .val (.int p2), .val (.int p3), .val (.int p4), .val (.int p5), .val (.int (1 : Int32)), .val (.int (own_wt p2)), .val (.int (own_wt p3)), .val (.int (own_wt p4)), .val (.int (own_wt p5)), .val (.ref b5), .val (.ref b8), .val (.int ((0 : Int32) + own_b (decide ((0 : Int32) < (own_wt p2))))), .val (.ref c10), .unset] [(.ref c10)])) rfl rfl (hb hby at_244) _ ?_
    rw [len_of S11 M11]
    show Steps p.tables e below (T10.setTop (mkF m 245 #[.val (.int p1), .val (.int p2), .val (.int p3), .val (.int p4), .val (.int p5), .val (.int (1 : Int32)), .val (.int (own_wt p2)), .val (.int (own_wt p3)), .val (.int (own_wt p4)), .val (.int (own_wt p5)), .val (.ref b5), .val (.ref b8), .val (.int ((0 : Int32) + own_b (decide ((0 : Int32) < (own_wt p2))))), .val (.ref c10), .unset] [(.int ((0 : Int32) + own_b (decide ((0 : Int32) < (own_wt p2)))))])) _
    refine XS.iload X10.here hx rfl (hb hby at_245) rfl ?_
    show Steps p.tables e below (T10.setTop (mkF m 247 #[.val (.int p1), .val (.int p2), .val (.int p3), .val (.int p4), .val (.int p5), .val (.int (1 : Int32)), .val (.int (own_wt p2)), .val (.int (own_wt p3)), .val (.int (own_wt p4)), .val (.int (own_wt p5)), .val (.ref b5), .val (.ref b8), .val (.int ((0 : Int32) + own_b (decide ((0 : Int32) < (own_wt p2))))), .val (.ref c10), .unset] [(.int ((0 : Int32) + own_b (decide ((0 : Int32) < (own_wt p2))))), (.int ((0 : Int32) + own_b (decide ((0 : Int32) < (own_wt p2)))))])) _
    refine XS.icmpYes X10.here hx rfl (pc0 := 247) (pc' := 252) rfl (hb hby at_247) rfl (teq (rfl : ((0 : Int32) + own_b (decide ((0 : Int32) < (own_wt p2)))) = ((0 : Int32) + own_b (decide ((0 : Int32) < (own_wt p2)))))).1 (by decide) (by decide) ?_
    show Steps p.tables e below (T10.setTop (mkF m 252 #[.val (.int p1), .val (.int p2), .val (.int p3), .val (.int p4), .val (.int p5), .val (.int (1 : Int32)), .val (.int (own_wt p2)), .val (.int (own_wt p3)), .val (.int (own_wt p4)), .val (.int (own_wt p5)), .val (.ref b5), .val (.ref b8), .val (.int ((0 : Int32) + own_b (decide ((0 : Int32) < (own_wt p2))))), .val (.ref c10), .unset] [])) _
    refine XS.iconst X10.here hx rfl (hb hby at_252) ?_
    show Steps p.tables e below (T10.setTop (mkF m 253 #[.val (.int p1), .val (.int p2), .val (.int p3), .val (.int p4), .val (.int p5), .val (.int (1 : Int32)), .val (.int (own_wt p2)), .val (.int (own_wt p3)), .val (.int (own_wt p4)), .val (.int (own_wt p5)), .val (.ref b5), .val (.ref b8), .val (.int ((0 : Int32) + own_b (decide ((0 : Int32) < (own_wt p2))))), .val (.ref c10), .unset] [(.int (1 : Int32))])) _
    refine XS.istore X10.here hx rfl (hb hby at_253) rfl (l' := #[.val (.int p1), .val (.int p2), .val (.int p3), .val (.int p4), .val (.int p5), .val (.int (1 : Int32)), .val (.int (own_wt p2)), .val (.int (own_wt p3)), .val (.int (own_wt p4)), .val (.int (own_wt p5)), .val (.ref b5), .val (.ref b8), .val (.int ((0 : Int32) + own_b (decide ((0 : Int32) < (own_wt p2))))), .val (.ref c10), .val (.int (1 : Int32))]) rfl ?_
    show Steps p.tables e below (T10.setTop (mkF m 255 #[.val (.int p1), .val (.int p2), .val (.int p3), .val (.int p4), .val (.int p5), .val (.int (1 : Int32)), .val (.int (own_wt p2)), .val (.int (own_wt p3)), .val (.int (own_wt p4)), .val (.int (own_wt p5)), .val (.ref b5), .val (.ref b8), .val (.int ((0 : Int32) + own_b (decide ((0 : Int32) < (own_wt p2))))), .val (.ref c10), .val (.int (1 : Int32))] [])) _
    refine ck0 p1 p2 p3 p4 p5 (1 : Int32) (own_wt p2) (own_wt p3) (own_wt p4) (own_wt p5) b5 b8 c10 ((0 : Int32) + own_b (decide ((0 : Int32) < (own_wt p2)))) k8 kk10 (own_set (decide ((0 : Int32) < (own_wt p2))) [(.int (0 : Int32)), (.int (0 : Int32)), (.int (0 : Int32)), (.int (0 : Int32))] (0 : Int32) (0 : Int32)) z12 X10 hx hZ hw hby hml hown rfl N10 Z10 V_b8_10 Vt10 hz12 _ ?_
    show Steps p.tables e below (T10.setTop (mkF m 283 #[.val (.int p1), .val (.int p2), .val (.int p3), .val (.int p4), .val (.int p5), .val (.int (1 : Int32)), .val (.int (own_wt p2)), .val (.int (own_wt p3)), .val (.int (own_wt p4)), .val (.int (own_wt p5)), .val (.ref b5), .val (.ref b8), .val (.int ((0 : Int32) + own_b (decide ((0 : Int32) < (own_wt p2))))), .val (.ref c10), .val (.int (1 : Int32))] [])) _
    refine ck1 p1 p2 p3 p4 p5 (1 : Int32) (own_wt p2) (own_wt p3) (own_wt p4) (own_wt p5) b5 b8 c10 ((0 : Int32) + own_b (decide ((0 : Int32) < (own_wt p2)))) k8 kk10 (own_set (decide ((0 : Int32) < (own_wt p2))) [(.int (0 : Int32)), (.int (0 : Int32)), (.int (0 : Int32)), (.int (0 : Int32))] (0 : Int32) (0 : Int32)) z13 X10 hx hZ hw hby hml hown rfl N10 Z10 V_b8_10 Vt10 hz13 _ ?_
    show Steps p.tables e below (T10.setTop (mkF m 312 #[.val (.int p1), .val (.int p2), .val (.int p3), .val (.int p4), .val (.int p5), .val (.int (1 : Int32)), .val (.int (own_wt p2)), .val (.int (own_wt p3)), .val (.int (own_wt p4)), .val (.int (own_wt p5)), .val (.ref b5), .val (.ref b8), .val (.int ((0 : Int32) + own_b (decide ((0 : Int32) < (own_wt p2))))), .val (.ref c10), .val (.int (1 : Int32))] [])) _
    refine ck2 p1 p2 p3 p4 p5 (1 : Int32) (own_wt p2) (own_wt p3) (own_wt p4) (own_wt p5) b5 b8 c10 ((0 : Int32) + own_b (decide ((0 : Int32) < (own_wt p2)))) k8 kk10 (own_set (decide ((0 : Int32) < (own_wt p2))) [(.int (0 : Int32)), (.int (0 : Int32)), (.int (0 : Int32)), (.int (0 : Int32))] (0 : Int32) (0 : Int32)) z14 X10 hx hZ hw hby hml hown rfl N10 Z10 V_b8_10 Vt10 hz14 _ ?_
    show Steps p.tables e below (T10.setTop (mkF m 341 #[.val (.int p1), .val (.int p2), .val (.int p3), .val (.int p4), .val (.int p5), .val (.int (1 : Int32)), .val (.int (own_wt p2)), .val (.int (own_wt p3)), .val (.int (own_wt p4)), .val (.int (own_wt p5)), .val (.ref b5), .val (.ref b8), .val (.int ((0 : Int32) + own_b (decide ((0 : Int32) < (own_wt p2))))), .val (.ref c10), .val (.int (1 : Int32))] [])) _
    refine ck3 p1 p2 p3 p4 p5 (1 : Int32) (own_wt p2) (own_wt p3) (own_wt p4) (own_wt p5) b5 b8 c10 ((0 : Int32) + own_b (decide ((0 : Int32) < (own_wt p2)))) k8 kk10 (own_set (decide ((0 : Int32) < (own_wt p2))) [(.int (0 : Int32)), (.int (0 : Int32)), (.int (0 : Int32)), (.int (0 : Int32))] (0 : Int32) (0 : Int32)) z15 X10 hx hZ hw hby hml hown rfl N10 Z10 V_b8_10 Vt10 hz15 _ ?_
    show Steps p.tables e below (T10.setTop (mkF m 370 #[.val (.int p1), .val (.int p2), .val (.int p3), .val (.int p4), .val (.int p5), .val (.int (1 : Int32)), .val (.int (own_wt p2)), .val (.int (own_wt p3)), .val (.int (own_wt p4)), .val (.int (own_wt p5)), .val (.ref b5), .val (.ref b8), .val (.int ((0 : Int32) + own_b (decide ((0 : Int32) < (own_wt p2))))), .val (.ref c10), .val (.int (1 : Int32))] [])) _
    refine XS.iload X10.here hx rfl (hb hby at_370) rfl ?_
    show Steps p.tables e below (T10.setTop (mkF m 372 #[.val (.int p1), .val (.int p2), .val (.int p3), .val (.int p4), .val (.int p5), .val (.int (1 : Int32)), .val (.int (own_wt p2)), .val (.int (own_wt p3)), .val (.int (own_wt p4)), .val (.int (own_wt p5)), .val (.ref b5), .val (.ref b8), .val (.int ((0 : Int32) + own_b (decide ((0 : Int32) < (own_wt p2))))), .val (.ref c10), .val (.int (1 : Int32))] [(.int (1 : Int32))])) _
    exact retN X10 hx (t := .boolean) Bd.returns (by simp) (hb hby at_372) hr
  · show Q0 Z p1 p2 p3 p4 p5 h0 n0 _ T10.heap _
    exact ⟨rfl, N10⟩
set_option maxRecDepth 65536 in
set_option maxHeartbeats 40000000 in
theorem rm0_2 (l : Launch) (Z : State) (a0 : Array Value) (hw : ∀ d ∈ tables_1, d.before a0 Z = true) (ws : List Jvm.Cond) (p1 p2 p3 p4 p5 : Int32) (h0 : Heap) (n0 : Nat) (Z0 : n0 ≤ h0.size) (hn : ((p1 &&& (7 : Int32)) % (5 : Int32)) = (2 : Int32)) :
    MetFree l x (head1 (Jvm.Cond.code x code maxLocals ret :: ws) room_1) (fun a U => a = #[(.int p1), (.int p2), (.int p3), (.int p4), (.int p5)] ∧ Z.Warmed39 U.vm ∧ U.heap = h0) (fun _ _ _ _ _ => True) (fun _ U o U' => ∃ v L, o = .returned v ∧ Q0 Z p1 p2 p3 p4 p5 h0 n0 v U'.heap L ∧ FrameEnd U o U' L room_1.cells room_1.slots) := by
  refine MetFree.of_bodySF (plainFor_of_name pn_0) hisR ?_
  intro p e s m args below meth c s₁ Bd hml0 hP hK
  obtain ⟨rfl, hZ, hh⟩ := hP
  have hx := Bd.exec
  have hby := Bd.bytes
  have hml : c.maxLocals = 15 := hml0
  have hown : s.vm.findClass "com/example/steelyard/steelyard/CandidatesPositiveIndicesPinLaw" = some m.cls := findClass_of_methodNamed Bd.named
  have hnm := (name_of_methodNamed Bd.named Bd.method).1
  have X0 : Stand p l e room_1 s m #[(.int p1), (.int p2), (.int p3), (.int p4), (.int p5)] below meth c s₁ [] 0 0 := Stand.of_body Bd
  have e0 : s₁.heap = h0 := by rw [← hh, Bd.state]; rfl
  have N0 := Fr.nil n0
  have pre0 : ∀ tz, Steps p.tables e below (s₁.setTop (mkF m 0 #[.val (.int p1), .val (.int p2), .val (.int p3), .val (.int p4), .val (.int p5), .unset, .unset, .unset, .unset, .unset, .unset, .unset, .unset, .unset, .unset] [])) tz → Steps p.tables e below (s₁.setTop (entryFrame m #[(.int p1), (.int p2), (.int p3), (.int p4), (.int p5)] maxLocals)) tz := fun tz kz => castTop (ef_0 m p1 p2 p3 p4 p5) kz
  obtain ⟨_, _, ⟨T1, L1, k1, n1⟩, -, X1, ⟨Lc1, hQ1, l1, y1, z1⟩, st1⟩ := Jvm.LawKit.callS X0 hx (y := (⟨"com/example/steelyard/steelyard/CandidatesPositiveIndicesPinLaw", "weightOf", "(I)I"⟩ : MethodName)) hown (mvT hZ (hw _ (List.mem_of_getElem? (i := 0) rfl))) (mvT hZ (hw _ (List.mem_of_getElem? (i := 1) rfl))) (mvT hZ (hw _ (List.mem_of_getElem? (i := 2) rfl))) (mvT hZ (hw _ (List.mem_of_getElem? (i := 3) rfl))) (by decide) (backOf (W := 0) (rmW l Z a0 hw [] p2 h0 n0 Z0) hZ (hw _ (List.mem_of_getElem? (i := 3) rfl)) (hw _ (List.mem_of_getElem? (i := 2) rfl)) (by decide) (by decide)) (g := (mkF m 9 #[.val (.int p1), .val (.int p2), .val (.int p3), .val (.int p4), .val (.int p5), .val (.int (2 : Int32)), .unset, .unset, .unset, .unset, .unset, .unset, .unset, .unset, .unset] [(.int p2)])) rfl (by rw [hml]; rfl) (argsL := [(.int p2)]) (rest := []) (lenOf pd_0_0 rfl) rfl (by show 2 * 0 + _ ≤ _; exact Nat.le_of_eq rfl) (hb hby at_9) (fun _ _ => ⟨rfl, e0, (by decide : 0 + 0 ≤ _), (by decide : 0 + 0 ≤ _)⟩)
  dsimp only [Pt.U, Pt.locs, Pt.cells, Pt.slots] at X1 l1 y1 z1 st1 hQ1
  subst l1 y1 z1
  obtain ⟨rfl, N1q, eh1⟩ := hQ1
  have N1 := Fr.app N0 N1q
  obtain ⟨_, _, ⟨T2, L2, k2, n2⟩, -, X2, ⟨Lc2, hQ2, l2, y2, z2⟩, st2⟩ := Jvm.LawKit.callS X1 hx (y := (⟨"com/example/steelyard/steelyard/CandidatesPositiveIndicesPinLaw", "weightOf", "(I)I"⟩ : MethodName)) hown (mvT hZ (hw _ (List.mem_of_getElem? (i := 0) rfl))) (mvT hZ (hw _ (List.mem_of_getElem? (i := 1) rfl))) (mvT hZ (hw _ (List.mem_of_getElem? (i := 2) rfl))) (mvT hZ (hw _ (List.mem_of_getElem? (i := 3) rfl))) (by decide) (backOf (W := 0) (rmW l Z a0 hw [] p3 h0 n0 Z0) hZ (hw _ (List.mem_of_getElem? (i := 3) rfl)) (hw _ (List.mem_of_getElem? (i := 2) rfl)) (by decide) (by decide)) (g := (mkF m 15 #[.val (.int p1), .val (.int p2), .val (.int p3), .val (.int p4), .val (.int p5), .val (.int (2 : Int32)), .val (.int (own_wt p2)), .unset, .unset, .unset, .unset, .unset, .unset, .unset, .unset] [(.int p3)])) rfl (by rw [hml]; rfl) (argsL := [(.int p3)]) (rest := []) (lenOf pd_0_0 rfl) rfl (by show 2 * 0 + _ ≤ _; exact Nat.le_of_eq rfl) (hb hby at_15) (fun _ _ => ⟨rfl, eh1, (by decide : 0 + 0 ≤ _), (by decide : 0 + 0 ≤ _)⟩)
  dsimp only [Pt.U, Pt.locs, Pt.cells, Pt.slots] at X2 l2 y2 z2 st2 hQ2
  subst l2 y2 z2
  obtain ⟨rfl, N2q, eh2⟩ := hQ2
  have N2 := Fr.app N1 N2q
  obtain ⟨_, _, ⟨T3, L3, k3, n3⟩, -, X3, ⟨Lc3, hQ3, l3, y3, z3⟩, st3⟩ := Jvm.LawKit.callS X2 hx (y := (⟨"com/example/steelyard/steelyard/CandidatesPositiveIndicesPinLaw", "weightOf", "(I)I"⟩ : MethodName)) hown (mvT hZ (hw _ (List.mem_of_getElem? (i := 0) rfl))) (mvT hZ (hw _ (List.mem_of_getElem? (i := 1) rfl))) (mvT hZ (hw _ (List.mem_of_getElem? (i := 2) rfl))) (mvT hZ (hw _ (List.mem_of_getElem? (i := 3) rfl))) (by decide) (backOf (W := 0) (rmW l Z a0 hw [] p4 h0 n0 Z0) hZ (hw _ (List.mem_of_getElem? (i := 3) rfl)) (hw _ (List.mem_of_getElem? (i := 2) rfl)) (by decide) (by decide)) (g := (mkF m 21 #[.val (.int p1), .val (.int p2), .val (.int p3), .val (.int p4), .val (.int p5), .val (.int (2 : Int32)), .val (.int (own_wt p2)), .val (.int (own_wt p3)), .unset, .unset, .unset, .unset, .unset, .unset, .unset] [(.int p4)])) rfl (by rw [hml]; rfl) (argsL := [(.int p4)]) (rest := []) (lenOf pd_0_0 rfl) rfl (by show 2 * 0 + _ ≤ _; exact Nat.le_of_eq rfl) (hb hby at_21) (fun _ _ => ⟨rfl, eh2, (by decide : 0 + 0 ≤ _), (by decide : 0 + 0 ≤ _)⟩)
  dsimp only [Pt.U, Pt.locs, Pt.cells, Pt.slots] at X3 l3 y3 z3 st3 hQ3
  subst l3 y3 z3
  obtain ⟨rfl, N3q, eh3⟩ := hQ3
  have N3 := Fr.app N2 N3q
  obtain ⟨_, _, ⟨T4, L4, k4, n4⟩, -, X4, ⟨Lc4, hQ4, l4, y4, z4⟩, st4⟩ := Jvm.LawKit.callS X3 hx (y := (⟨"com/example/steelyard/steelyard/CandidatesPositiveIndicesPinLaw", "weightOf", "(I)I"⟩ : MethodName)) hown (mvT hZ (hw _ (List.mem_of_getElem? (i := 0) rfl))) (mvT hZ (hw _ (List.mem_of_getElem? (i := 1) rfl))) (mvT hZ (hw _ (List.mem_of_getElem? (i := 2) rfl))) (mvT hZ (hw _ (List.mem_of_getElem? (i := 3) rfl))) (by decide) (backOf (W := 0) (rmW l Z a0 hw [] p5 h0 n0 Z0) hZ (hw _ (List.mem_of_getElem? (i := 3) rfl)) (hw _ (List.mem_of_getElem? (i := 2) rfl)) (by decide) (by decide)) (g := (mkF m 28 #[.val (.int p1), .val (.int p2), .val (.int p3), .val (.int p4), .val (.int p5), .val (.int (2 : Int32)), .val (.int (own_wt p2)), .val (.int (own_wt p3)), .val (.int (own_wt p4)), .unset, .unset, .unset, .unset, .unset, .unset] [(.int p5)])) rfl (by rw [hml]; rfl) (argsL := [(.int p5)]) (rest := []) (lenOf pd_0_0 rfl) rfl (by show 2 * 0 + _ ≤ _; exact Nat.le_of_eq rfl) (hb hby at_28) (fun _ _ => ⟨rfl, eh3, (by decide : 0 + 0 ≤ _), (by decide : 0 + 0 ≤ _)⟩)
  dsimp only [Pt.U, Pt.locs, Pt.cells, Pt.slots] at X4 l4 y4 z4 st4 hQ4
  subst l4 y4 z4
  obtain ⟨rfl, N4q, eh4⟩ := hQ4
  have N4 := Fr.app N3 N4q
  obtain ⟨T5, h5, k5, X5, e5, E5, A5, st5⟩ := newP X4 hx hZ (hw _ (List.mem_of_getElem? (i := 4) rfl)) eh4 (g := (mkF m 72 #[.val (.int p1), .val (.int p2), .val (.int p3), .val (.int p4), .val (.int p5), .val (.int (2 : Int32)), .val (.int (own_wt p2)), .val (.int (own_wt p3)), .val (.int (own_wt p4)), .val (.int (own_wt p5)), .unset, .unset, .unset, .unset, .unset] [(.int (2 : Int32))])) rfl (hb hby at_72) rfl (by decide) (cap := 2) (by decide) (by decide) (by decide) (by decide)
  obtain ⟨b5, g5⟩ : ∃ z, z = h0.size := ⟨_, rfl⟩
  rw [← g5] at A5 st5
  have gb5 : n0 ≤ b5 := Nat.le_trans Z0 (Nat.le_of_eq g5.symm)
  have Z5 : n0 ≤ h5.size := Nat.le_trans Z0 E5.1
  have V5 : Arv Z h5 b5 k5 .int (2 : Int32) [(.int (0 : Int32)), (.int (0 : Int32))] (.int (0 : Int32)) := (Arv.new A5 (by decide)).pad (pad_rep [] (.int (0 : Int32)) 2)
  obtain ⟨cl6, Ar6, q6, S6, M6, H6, G6⟩ := id V5
  have hin7 : ¬ ((0 : Int32) < 0 ∨ cl6.slots.size ≤ ((0 : Int32)).toNatClampNeg) := inb_of S6 ⟨by decide, by decide⟩
  obtain ⟨T7, h7, X7, e7, W7, st7⟩ := stI X5 hx hZ e5 Ar6 (j := (0 : Int32)) hin7 (g := (mkF m 78 #[.val (.int p1), .val (.int p2), .val (.int p3), .val (.int p4), .val (.int p5), .val (.int (2 : Int32)), .val (.int (own_wt p2)), .val (.int (own_wt p3)), .val (.int (own_wt p4)), .val (.int (own_wt p5)), .unset, .unset, .unset, .unset, .unset] [(.int (own_wt p2)), (.int (0 : Int32)), (.ref b5), (.ref b5)])) rfl rfl (hb hby at_78)
  have V7 : Arv Z h7 b5 k5 .int (2 : Int32) [(.int (own_wt p2)), (.int (0 : Int32))] (.int (0 : Int32)) := Arv.set Ar6 q6 S6 M6 H6 G6 rfl W7 0 rfl (Nat.le_of_ble_eq_true rfl)
  have Z7 : n0 ≤ h7.size := Nat.le_trans Z5 (Keep.of_wr W7).1
  have N7 := Fr.snoc X7 N4 gb5
  obtain ⟨cl8, Ar8, q8, S8, M8, H8, G8⟩ := id V7
  have hin9 : ¬ ((1 : Int32) < 0 ∨ cl8.slots.size ≤ ((1 : Int32)).toNatClampNeg) := inb_of S8 ⟨by decide, by decide⟩
  obtain ⟨T9, h9, X9, e9, W9, st9⟩ := stI X7 hx hZ e7 Ar8 (j := (1 : Int32)) hin9 (g := (mkF m 83 #[.val (.int p1), .val (.int p2), .val (.int p3), .val (.int p4), .val (.int p5), .val (.int (2 : Int32)), .val (.int (own_wt p2)), .val (.int (own_wt p3)), .val (.int (own_wt p4)), .val (.int (own_wt p5)), .unset, .unset, .unset, .unset, .unset] [(.int (own_wt p3)), (.int (1 : Int32)), (.ref b5), (.ref b5)])) rfl rfl (hb hby at_83)
  have V9 : Arv Z h9 b5 k5 .int (2 : Int32) [(.int (own_wt p2)), (.int (own_wt p3))] (.int (0 : Int32)) := Arv.set Ar8 q8 S8 M8 H8 G8 rfl W9 1 rfl (Nat.le_of_ble_eq_true rfl)
  have Z9 : n0 ≤ h9.size := Nat.le_trans Z7 (Keep.of_wr W9).1
  have N9 := Fr.snoc X9 N7 gb5
  obtain ⟨T10, h10, k10, X10, e10, E10, A10, st10⟩ := newP X9 hx hZ (hw _ (List.mem_of_getElem? (i := 4) rfl)) e9 (g := (mkF m 144 #[.val (.int p1), .val (.int p2), .val (.int p3), .val (.int p4), .val (.int p5), .val (.int (2 : Int32)), .val (.int (own_wt p2)), .val (.int (own_wt p3)), .val (.int (own_wt p4)), .val (.int (own_wt p5)), .val (.ref b5), .unset, .unset, .unset, .unset] [(.int (4 : Int32))])) rfl (hb hby at_144) rfl (by decide) (cap := 4) (by decide) (by decide) (by decide) (by decide)
  obtain ⟨b10, g10⟩ : ∃ z, z = h9.size := ⟨_, rfl⟩
  rw [← g10] at A10 st10
  have gb10 : n0 ≤ b10 := Nat.le_trans Z9 (Nat.le_of_eq g10.symm)
  have ne_b5_b10 : b5 ≠ b10 := (Nat.ne_of_lt (Nat.lt_of_lt_of_le V9.lt (Nat.le_of_eq g10.symm)))
  have V_b5_10 := V9.ext E10
  have Z10 : n0 ≤ h10.size := Nat.le_trans Z9 E10.1
  have V10 : Arv Z h10 b10 k10 .int (4 : Int32) [(.int (0 : Int32)), (.int (0 : Int32)), (.int (0 : Int32)), (.int (0 : Int32))] (.int (0 : Int32)) := (Arv.new A10 (by decide)).pad (pad_rep [] (.int (0 : Int32)) 4)
  obtain ⟨T11, h11, L11, X11, e11, N11, Z11, K11, Vx11, st11⟩ := se0 p1 p2 p3 p4 p5 (2 : Int32) (own_wt p2) (own_wt p3) (own_wt p4) (own_wt p5) b5 b10 (0 : Int32) k10 [(.int (0 : Int32)), (.int (0 : Int32)), (.int (0 : Int32)), (.int (0 : Int32))] X10 hx hZ hw hby hml hown e10 N9 Z10 V10 gb10 (by decide) (own_f0 ).1 (own_f0 ).2
  have V_b5_11 := V_b5_10.keep K11 (ninS ne_b5_b10 nin0)
  obtain ⟨T12, h12, L12, X12, e12, N12, Z12, K12, Vx12, st12⟩ := se1 p1 p2 p3 p4 p5 (2 : Int32) (own_wt p2) (own_wt p3) (own_wt p4) (own_wt p5) b5 b10 ((0 : Int32) + own_b (decide ((0 : Int32) < (own_wt p2)))) k10 (own_set (decide ((0 : Int32) < (own_wt p2))) [(.int (0 : Int32)), (.int (0 : Int32)), (.int (0 : Int32)), (.int (0 : Int32))] (0 : Int32) (0 : Int32)) X11 hx hZ hw hby hml hown e11 N11 Z11 Vx11 gb10 (by decide) (own_f1 (decide ((0 : Int32) < (own_wt p2)))).1 (own_f1 (decide ((0 : Int32) < (own_wt p2)))).2
  have V_b5_12 := V_b5_11.keep K12 (ninS ne_b5_b10 nin0)
  obtain ⟨_, _, ⟨T13, L13, k13, n13⟩, -, X13, ⟨Lc13, hQ13, l13, y13, z13⟩, st13⟩ := Jvm.LawKit.callS X12 hx (y := (⟨"com/example/steelyard/steelyard/Candidates", "positiveIndices", "([I)[I"⟩ : MethodName)) hown (mvT hZ (hw _ (List.mem_of_getElem? (i := 5) rfl))) (mvT hZ (hw _ (List.mem_of_getElem? (i := 6) rfl))) (mvT hZ (hw _ (List.mem_of_getElem? (i := 7) rfl))) (mvT hZ (hw _ (List.mem_of_getElem? (i := 8) rfl))) (by decide) (backOf (W := 0) (rmP2 l Z a0 hw [] b5 k5 (own_wt p2) (own_wt p3) h12 n0 Z12 V_b5_12) hZ (hw _ (List.mem_of_getElem? (i := 8) rfl)) (hw _ (List.mem_of_getElem? (i := 7) rfl)) (by decide) (by decide)) (g := (mkF m 232 #[.val (.int p1), .val (.int p2), .val (.int p3), .val (.int p4), .val (.int p5), .val (.int (2 : Int32)), .val (.int (own_wt p2)), .val (.int (own_wt p3)), .val (.int (own_wt p4)), .val (.int (own_wt p5)), .val (.ref b5), .val (.ref b10), .val (.int (((0 : Int32) + own_b (decide ((0 : Int32) < (own_wt p2)))) + own_b (decide ((0 : Int32) < (own_wt p3))))), .unset, .unset] [(.ref b5)])) rfl (by rw [hml]; rfl) (argsL := [(.ref b5)]) (rest := []) (lenOf pd_0_1 rfl) rfl (by show 2 * 0 + _ ≤ _; exact Nat.le_of_eq rfl) (hb hby at_232) (fun _ _ => ⟨rfl, e12, (by decide : 2 + 1 ≤ _), (by decide : 6 + 4 ≤ _)⟩)
  dsimp only [Pt.U, Pt.locs, Pt.cells, Pt.slots] at X13 l13 y13 z13 st13 hQ13
  subst l13 y13 z13
  obtain ⟨rfl, N13q, K13, kk13, Vt13⟩ := hQ13
  have N13 := Fr.app N12 N13q
  have V_b5_13 := V_b5_12.keep K13 nin0
  have V_b10_13 := Vx12.keep K13 nin0
  have Z13 : n0 ≤ T13.heap.size := Nat.le_trans Z12 K13.1
  obtain ⟨c13, gc13⟩ : ∃ z, z = h12.size := ⟨_, rfl⟩
  rw [← gc13] at st13 Vt13
  obtain ⟨cl14, Ar14, q14, S14, M14, H14, G14⟩ := id Vt13
  obtain ⟨z15, hz15⟩ := own_u2_0 (decide ((0 : Int32) < (own_wt p2))) (decide ((0 : Int32) < (own_wt p3)))
  obtain ⟨z16, hz16⟩ := own_u2_1 (decide ((0 : Int32) < (own_wt p2))) (decide ((0 : Int32) < (own_wt p3)))
  obtain ⟨z17, hz17⟩ := own_u2_2 (decide ((0 : Int32) < (own_wt p2))) (decide ((0 : Int32) < (own_wt p3)))
  obtain ⟨z18, hz18⟩ := own_u2_3 (decide ((0 : Int32) < (own_wt p2))) (decide ((0 : Int32) < (own_wt p3)))
  obtain ⟨fs, hr, hrun, hended, hW, hsame⟩ := X13.leave (v := some (.int (1 : Int32))) (fun h => by rw [Bd.returns] at h; cases h)
  refine ⟨_, _, pre0 _ ?_, hrun, hended, _, _, rfl, ?_, ⟨_, rfl⟩, hW, hsame.mono (by decide) (by decide)⟩
  · show Steps p.tables e below (s₁.setTop (mkF m 0 #[.val (.int p1), .val (.int p2), .val (.int p3), .val (.int p4), .val (.int p5), .unset, .unset, .unset, .unset, .unset, .unset, .unset, .unset, .unset, .unset] [])) _
    refine XS.iloadN X0.here hx rfl (hb hby at_0) rfl ?_
    show Steps p.tables e below (s₁.setTop (mkF m 1 #[.val (.int p1), .val (.int p2), .val (.int p3), .val (.int p4), .val (.int p5), .unset, .unset, .unset, .unset, .unset, .unset, .unset, .unset, .unset, .unset] [(.int p1)])) _
    refine XS.bipush X0.here hx rfl (hb hby at_1) ?_
    show Steps p.tables e below (s₁.setTop (mkF m 3 #[.val (.int p1), .val (.int p2), .val (.int p3), .val (.int p4), .val (.int p5), .unset, .unset, .unset, .unset, .unset, .unset, .unset, .unset, .unset, .unset] [(.int (7 : Int32)), (.int p1)])) _
    refine XS.iand X0.here hx rfl (hb hby at_3) rfl ?_
    show Steps p.tables e below (s₁.setTop (mkF m 4 #[.val (.int p1), .val (.int p2), .val (.int p3), .val (.int p4), .val (.int p5), .unset, .unset, .unset, .unset, .unset, .unset, .unset, .unset, .unset, .unset] [(.int (p1 &&& (7 : Int32)))])) _
    refine XS.iconst X0.here hx rfl (hb hby at_4) ?_
    show Steps p.tables e below (s₁.setTop (mkF m 5 #[.val (.int p1), .val (.int p2), .val (.int p3), .val (.int p4), .val (.int p5), .unset, .unset, .unset, .unset, .unset, .unset, .unset, .unset, .unset, .unset] [(.int (5 : Int32)), (.int (p1 &&& (7 : Int32)))])) _
    refine iremM X0 hx (g := (mkF m 5 #[.val (.int p1), .val (.int p2), .val (.int p3), .val (.int p4), .val (.int p5), .unset, .unset, .unset, .unset, .unset, .unset, .unset, .unset, .unset, .unset] [(.int (5 : Int32)), (.int (p1 &&& (7 : Int32)))])) rfl (hb hby at_5) rfl (by decide) ?_
    show Steps p.tables e below (s₁.setTop (mkF m 6 #[.val (.int p1), .val (.int p2), .val (.int p3), .val (.int p4), .val (.int p5), .unset, .unset, .unset, .unset, .unset, .unset, .unset, .unset, .unset, .unset] [(.int ((p1 &&& (7 : Int32)) % (5 : Int32)))])) _
    rw [hn]
    show Steps p.tables e below (s₁.setTop (mkF m 6 #[.val (.int p1), .val (.int p2), .val (.int p3), .val (.int p4), .val (.int p5), .unset, .unset, .unset, .unset, .unset, .unset, .unset, .unset, .unset, .unset] [(.int (2 : Int32))])) _
    refine XS.istore X0.here hx rfl (hb hby at_6) rfl (l' := #[.val (.int p1), .val (.int p2), .val (.int p3), .val (.int p4), .val (.int p5), .val (.int (2 : Int32)), .unset, .unset, .unset, .unset, .unset, .unset, .unset, .unset, .unset]) rfl ?_
    show Steps p.tables e below (s₁.setTop (mkF m 8 #[.val (.int p1), .val (.int p2), .val (.int p3), .val (.int p4), .val (.int p5), .val (.int (2 : Int32)), .unset, .unset, .unset, .unset, .unset, .unset, .unset, .unset, .unset] [])) _
    refine XS.iloadN X0.here hx rfl (hb hby at_8) rfl ?_
    show Steps p.tables e below (s₁.setTop (mkF m 9 #[.val (.int p1), .val (.int p2), .val (.int p3), .val (.int p4), .val (.int p5), .val (.int (2 : Int32)), .unset, .unset, .unset, .unset, .unset, .unset, .unset, .unset, .unset] [(.int p2)])) _
    refine st1 _ ?_
    show Steps p.tables e below (T1.setTop (mkF m 12 #[.val (.int p1), .val (.int p2), .val (.int p3), .val (.int p4), .val (.int p5), .val (.int (2 : Int32)), .unset, .unset, .unset, .unset, .unset, .unset, .unset, .unset, .unset] [(.int (own_wt p2))])) _
    refine XS.istore X1.here hx rfl (hb hby at_12) rfl (l' := #[.val (.int p1), .val (.int p2), .val (.int p3), .val (.int p4), .val (.int p5), .val (.int (2 : Int32)), .val (.int (own_wt p2)), .unset, .unset, .unset, .unset, .unset, .unset, .unset, .unset]) rfl ?_
    show Steps p.tables e below (T1.setTop (mkF m 14 #[.val (.int p1), .val (.int p2), .val (.int p3), .val (.int p4), .val (.int p5), .val (.int (2 : Int32)), .val (.int (own_wt p2)), .unset, .unset, .unset, .unset, .unset, .unset, .unset, .unset] [])) _
    refine XS.iloadN X1.here hx rfl (hb hby at_14) rfl ?_
    show Steps p.tables e below (T1.setTop (mkF m 15 #[.val (.int p1), .val (.int p2), .val (.int p3), .val (.int p4), .val (.int p5), .val (.int (2 : Int32)), .val (.int (own_wt p2)), .unset, .unset, .unset, .unset, .unset, .unset, .unset, .unset] [(.int p3)])) _
    refine st2 _ ?_
    show Steps p.tables e below (T2.setTop (mkF m 18 #[.val (.int p1), .val (.int p2), .val (.int p3), .val (.int p4), .val (.int p5), .val (.int (2 : Int32)), .val (.int (own_wt p2)), .unset, .unset, .unset, .unset, .unset, .unset, .unset, .unset] [(.int (own_wt p3))])) _
    refine XS.istore X2.here hx rfl (hb hby at_18) rfl (l' := #[.val (.int p1), .val (.int p2), .val (.int p3), .val (.int p4), .val (.int p5), .val (.int (2 : Int32)), .val (.int (own_wt p2)), .val (.int (own_wt p3)), .unset, .unset, .unset, .unset, .unset, .unset, .unset]) rfl ?_
    show Steps p.tables e below (T2.setTop (mkF m 20 #[.val (.int p1), .val (.int p2), .val (.int p3), .val (.int p4), .val (.int p5), .val (.int (2 : Int32)), .val (.int (own_wt p2)), .val (.int (own_wt p3)), .unset, .unset, .unset, .unset, .unset, .unset, .unset] [])) _
    refine XS.iloadN X2.here hx rfl (hb hby at_20) rfl ?_
    show Steps p.tables e below (T2.setTop (mkF m 21 #[.val (.int p1), .val (.int p2), .val (.int p3), .val (.int p4), .val (.int p5), .val (.int (2 : Int32)), .val (.int (own_wt p2)), .val (.int (own_wt p3)), .unset, .unset, .unset, .unset, .unset, .unset, .unset] [(.int p4)])) _
    refine st3 _ ?_
    show Steps p.tables e below (T3.setTop (mkF m 24 #[.val (.int p1), .val (.int p2), .val (.int p3), .val (.int p4), .val (.int p5), .val (.int (2 : Int32)), .val (.int (own_wt p2)), .val (.int (own_wt p3)), .unset, .unset, .unset, .unset, .unset, .unset, .unset] [(.int (own_wt p4))])) _
    refine XS.istore X3.here hx rfl (hb hby at_24) rfl (l' := #[.val (.int p1), .val (.int p2), .val (.int p3), .val (.int p4), .val (.int p5), .val (.int (2 : Int32)), .val (.int (own_wt p2)), .val (.int (own_wt p3)), .val (.int (own_wt p4)), .unset, .unset, .unset, .unset, .unset, .unset]) rfl ?_
    show Steps p.tables e below (T3.setTop (mkF m 26 #[.val (.int p1), .val (.int p2), .val (.int p3), .val (.int p4), .val (.int p5), .val (.int (2 : Int32)), .val (.int (own_wt p2)), .val (.int (own_wt p3)), .val (.int (own_wt p4)), .unset, .unset, .unset, .unset, .unset, .unset] [])) _
    refine XS.iload X3.here hx rfl (hb hby at_26) rfl ?_
    show Steps p.tables e below (T3.setTop (mkF m 28 #[.val (.int p1), .val (.int p2), .val (.int p3), .val (.int p4), .val (.int p5), .val (.int (2 : Int32)), .val (.int (own_wt p2)), .val (.int (own_wt p3)), .val (.int (own_wt p4)), .unset, .unset, .unset, .unset, .unset, .unset] [(.int p5)])) _
    refine st4 _ ?_
    show Steps p.tables e below (T4.setTop (mkF m 31 #[.val (.int p1), .val (.int p2), .val (.int p3), .val (.int p4), .val (.int p5), .val (.int (2 : Int32)), .val (.int (own_wt p2)), .val (.int (own_wt p3)), .val (.int (own_wt p4)), .unset, .unset, .unset, .unset, .unset, .unset] [(.int (own_wt p5))])) _
    refine XS.istore X4.here hx rfl (hb hby at_31) rfl (l' := #[.val (.int p1), .val (.int p2), .val (.int p3), .val (.int p4), .val (.int p5), .val (.int (2 : Int32)), .val (.int (own_wt p2)), .val (.int (own_wt p3)), .val (.int (own_wt p4)), .val (.int (own_wt p5)), .unset, .unset, .unset, .unset, .unset]) rfl ?_
    show Steps p.tables e below (T4.setTop (mkF m 33 #[.val (.int p1), .val (.int p2), .val (.int p3), .val (.int p4), .val (.int p5), .val (.int (2 : Int32)), .val (.int (own_wt p2)), .val (.int (own_wt p3)), .val (.int (own_wt p4)), .val (.int (own_wt p5)), .unset, .unset, .unset, .unset, .unset] [])) _
    refine XS.iload X4.here hx rfl (hb hby at_33) rfl ?_
    show Steps p.tables e below (T4.setTop (mkF m 35 #[.val (.int p1), .val (.int p2), .val (.int p3), .val (.int p4), .val (.int p5), .val (.int (2 : Int32)), .val (.int (own_wt p2)), .val (.int (own_wt p3)), .val (.int (own_wt p4)), .val (.int (own_wt p5)), .unset, .unset, .unset, .unset, .unset] [(.int (2 : Int32))])) _
    refine XS.ifYes X4.here hx rfl (pc0 := 35) (pc' := 46) rfl (hb hby at_35) rfl ((if0 _ _).trans (feq ((by decide) : ¬ ((2 : Int32) = (0 : Int32)))).2) (by decide) (by decide) ?_
    show Steps p.tables e below (T4.setTop (mkF m 46 #[.val (.int p1), .val (.int p2), .val (.int p3), .val (.int p4), .val (.int p5), .val (.int (2 : Int32)), .val (.int (own_wt p2)), .val (.int (own_wt p3)), .val (.int (own_wt p4)), .val (.int (own_wt p5)), .unset, .unset, .unset, .unset, .unset] [])) _
    refine XS.iload X4.here hx rfl (hb hby at_46) rfl ?_
    show Steps p.tables e below (T4.setTop (mkF m 48 #[.val (.int p1), .val (.int p2), .val (.int p3), .val (.int p4), .val (.int p5), .val (.int (2 : Int32)), .val (.int (own_wt p2)), .val (.int (own_wt p3)), .val (.int (own_wt p4)), .val (.int (own_wt p5)), .unset, .unset, .unset, .unset, .unset] [(.int (2 : Int32))])) _
    refine XS.iconst X4.here hx rfl (hb hby at_48) ?_
    show Steps p.tables e below (T4.setTop (mkF m 49 #[.val (.int p1), .val (.int p2), .val (.int p3), .val (.int p4), .val (.int p5), .val (.int (2 : Int32)), .val (.int (own_wt p2)), .val (.int (own_wt p3)), .val (.int (own_wt p4)), .val (.int (own_wt p5)), .unset, .unset, .unset, .unset, .unset] [(.int (1 : Int32)), (.int (2 : Int32))])) _
    refine XS.icmpYes X4.here hx rfl (pc0 := 49) (pc' := 65) rfl (hb hby at_49) rfl (feq ((by decide) : ¬ ((2 : Int32) = (1 : Int32)))).2 (by decide) (by decide) ?_
    show Steps p.tables e below (T4.setTop (mkF m 65 #[.val (.int p1), .val (.int p2), .val (.int p3), .val (.int p4), .val (.int p5), .val (.int (2 : Int32)), .val (.int (own_wt p2)), .val (.int (own_wt p3)), .val (.int (own_wt p4)), .val (.int (own_wt p5)), .unset, .unset, .unset, .unset, .unset] [])) _
    refine XS.iload X4.here hx rfl (hb hby at_65) rfl ?_
    show Steps p.tables e below (T4.setTop (mkF m 67 #[.val (.int p1), .val (.int p2), .val (.int p3), .val (.int p4), .val (.int p5), .val (.int (2 : Int32)), .val (.int (own_wt p2)), .val (.int (own_wt p3)), .val (.int (own_wt p4)), .val (.int (own_wt p5)), .unset, .unset, .unset, .unset, .unset] [(.int (2 : Int32))])) _
    refine XS.iconst X4.here hx rfl (hb hby at_67) ?_
    show Steps p.tables e below (T4.setTop (mkF m 68 #[.val (.int p1), .val (.int p2), .val (.int p3), .val (.int p4), .val (.int p5), .val (.int (2 : Int32)), .val (.int (own_wt p2)), .val (.int (own_wt p3)), .val (.int (own_wt p4)), .val (.int (own_wt p5)), .unset, .unset, .unset, .unset, .unset] [(.int (2 : Int32)), (.int (2 : Int32))])) _
    refine XS.icmpNo X4.here hx rfl (hb hby at_68) rfl (teq ((by decide) : (2 : Int32) = (2 : Int32))).2 ?_
    show Steps p.tables e below (T4.setTop (mkF m 71 #[.val (.int p1), .val (.int p2), .val (.int p3), .val (.int p4), .val (.int p5), .val (.int (2 : Int32)), .val (.int (own_wt p2)), .val (.int (own_wt p3)), .val (.int (own_wt p4)), .val (.int (own_wt p5)), .unset, .unset, .unset, .unset, .unset] [])) _
    refine XS.iconst X4.here hx rfl (hb hby at_71) ?_
    show Steps p.tables e below (T4.setTop (mkF m 72 #[.val (.int p1), .val (.int p2), .val (.int p3), .val (.int p4), .val (.int p5), .val (.int (2 : Int32)), .val (.int (own_wt p2)), .val (.int (own_wt p3)), .val (.int (own_wt p4)), .val (.int (own_wt p5)), .unset, .unset, .unset, .unset, .unset] [(.int (2 : Int32))])) _
    refine st5 _ ?_
    show Steps p.tables e below (T5.setTop (mkF m 74 #[.val (.int p1), .val (.int p2), .val (.int p3), .val (.int p4), .val (.int p5), .val (.int (2 : Int32)), .val (.int (own_wt p2)), .val (.int (own_wt p3)), .val (.int (own_wt p4)), .val (.int (own_wt p5)), .unset, .unset, .unset, .unset, .unset] [(.ref b5)])) _
    refine XS.dup X5.here hx rfl (hb hby at_74) rfl rfl ?_
    show Steps p.tables e below (T5.setTop (mkF m 75 #[.val (.int p1), .val (.int p2), .val (.int p3), .val (.int p4), .val (.int p5), .val (.int (2 : Int32)), .val (.int (own_wt p2)), .val (.int (own_wt p3)), .val (.int (own_wt p4)), .val (.int (own_wt p5)), .unset, .unset, .unset, .unset, .unset] [(.ref b5), (.ref b5)])) _
    refine XS.iconst X5.here hx rfl (hb hby at_75) ?_
    show Steps p.tables e below (T5.setTop (mkF m 76 #[.val (.int p1), .val (.int p2), .val (.int p3), .val (.int p4), .val (.int p5), .val (.int (2 : Int32)), .val (.int (own_wt p2)), .val (.int (own_wt p3)), .val (.int (own_wt p4)), .val (.int (own_wt p5)), .unset, .unset, .unset, .unset, .unset] [(.int (0 : Int32)), (.ref b5), (.ref b5)])) _
    refine XS.iload X5.here hx rfl (hb hby at_76) rfl ?_
    show Steps p.tables e below (T5.setTop (mkF m 78 #[.val (.int p1), .val (.int p2), .val (.int p3), .val (.int p4), .val (.int p5), .val (.int (2 : Int32)), .val (.int (own_wt p2)), .val (.int (own_wt p3)), .val (.int (own_wt p4)), .val (.int (own_wt p5)), .unset, .unset, .unset, .unset, .unset] [(.int (own_wt p2)), (.int (0 : Int32)), (.ref b5), (.ref b5)])) _
    refine st7 _ ?_
    show Steps p.tables e below (T7.setTop (mkF m 79 #[.val (.int p1), .val (.int p2), .val (.int p3), .val (.int p4), .val (.int p5), .val (.int (2 : Int32)), .val (.int (own_wt p2)), .val (.int (own_wt p3)), .val (.int (own_wt p4)), .val (.int (own_wt p5)), .unset, .unset, .unset, .unset, .unset] [(.ref b5)])) _
    refine XS.dup X7.here hx rfl (hb hby at_79) rfl rfl ?_
    show Steps p.tables e below (T7.setTop (mkF m 80 #[.val (.int p1), .val (.int p2), .val (.int p3), .val (.int p4), .val (.int p5), .val (.int (2 : Int32)), .val (.int (own_wt p2)), .val (.int (own_wt p3)), .val (.int (own_wt p4)), .val (.int (own_wt p5)), .unset, .unset, .unset, .unset, .unset] [(.ref b5), (.ref b5)])) _
    refine XS.iconst X7.here hx rfl (hb hby at_80) ?_
    show Steps p.tables e below (T7.setTop (mkF m 81 #[.val (.int p1), .val (.int p2), .val (.int p3), .val (.int p4), .val (.int p5), .val (.int (2 : Int32)), .val (.int (own_wt p2)), .val (.int (own_wt p3)), .val (.int (own_wt p4)), .val (.int (own_wt p5)), .unset, .unset, .unset, .unset, .unset] [(.int (1 : Int32)), (.ref b5), (.ref b5)])) _
    refine XS.iload X7.here hx rfl (hb hby at_81) rfl ?_
    show Steps p.tables e below (T7.setTop (mkF m 83 #[.val (.int p1), .val (.int p2), .val (.int p3), .val (.int p4), .val (.int p5), .val (.int (2 : Int32)), .val (.int (own_wt p2)), .val (.int (own_wt p3)), .val (.int (own_wt p4)), .val (.int (own_wt p5)), .unset, .unset, .unset, .unset, .unset] [(.int (own_wt p3)), (.int (1 : Int32)), (.ref b5), (.ref b5)])) _
    refine st9 _ ?_
    show Steps p.tables e below (T9.setTop (mkF m 84 #[.val (.int p1), .val (.int p2), .val (.int p3), .val (.int p4), .val (.int p5), .val (.int (2 : Int32)), .val (.int (own_wt p2)), .val (.int (own_wt p3)), .val (.int (own_wt p4)), .val (.int (own_wt p5)), .unset, .unset, .unset, .unset, .unset] [(.ref b5)])) _
    refine XS.astore X9.here hx rfl (hb hby at_84) rfl rfl (l' := #[.val (.int p1), .val (.int p2), .val (.int p3), .val (.int p4), .val (.int p5), .val (.int (2 : Int32)), .val (.int (own_wt p2)), .val (.int (own_wt p3)), .val (.int (own_wt p4)), .val (.int (own_wt p5)), .val (.ref b5), .unset, .unset, .unset, .unset]) rfl ?_
    show Steps p.tables e below (T9.setTop (mkF m 86 #[.val (.int p1), .val (.int p2), .val (.int p3), .val (.int p4), .val (.int p5), .val (.int (2 : Int32)), .val (.int (own_wt p2)), .val (.int (own_wt p3)), .val (.int (own_wt p4)), .val (.int (own_wt p5)), .val (.ref b5), .unset, .unset, .unset, .unset] [])) _
    refine XS.goto X9.here hx rfl (pc0 := 86) (pc' := 143) rfl (hb hby at_86) (by decide) (by decide) ?_
    show Steps p.tables e below (T9.setTop (mkF m 143 #[.val (.int p1), .val (.int p2), .val (.int p3), .val (.int p4), .val (.int p5), .val (.int (2 : Int32)), .val (.int (own_wt p2)), .val (.int (own_wt p3)), .val (.int (own_wt p4)), .val (.int (own_wt p5)), .val (.ref b5), .unset, .unset, .unset, .unset] [])) _
    refine XS.iconst X9.here hx rfl (hb hby at_143) ?_
    show Steps p.tables e below (T9.setTop (mkF m 144 #[.val (.int p1), .val (.int p2), .val (.int p3), .val (.int p4), .val (.int p5), .val (.int (2 : Int32)), .val (.int (own_wt p2)), .val (.int (own_wt p3)), .val (.int (own_wt p4)), .val (.int (own_wt p5)), .val (.ref b5), .unset, .unset, .unset, .unset] [(.int (4 : Int32))])) _
    refine st10 _ ?_
    show Steps p.tables e below (T10.setTop (mkF m 146 #[.val (.int p1), .val (.int p2), .val (.int p3), .val (.int p4), .val (.int p5), .val (.int (2 : Int32)), .val (.int (own_wt p2)), .val (.int (own_wt p3)), .val (.int (own_wt p4)), .val (.int (own_wt p5)), .val (.ref b5), .unset, .unset, .unset, .unset] [(.ref b10)])) _
    refine XS.astore X10.here hx rfl (hb hby at_146) rfl rfl (l' := #[.val (.int p1), .val (.int p2), .val (.int p3), .val (.int p4), .val (.int p5), .val (.int (2 : Int32)), .val (.int (own_wt p2)), .val (.int (own_wt p3)), .val (.int (own_wt p4)), .val (.int (own_wt p5)), .val (.ref b5), .val (.ref b10), .unset, .unset, .unset]) rfl ?_
    show Steps p.tables e below (T10.setTop (mkF m 148 #[.val (.int p1), .val (.int p2), .val (.int p3), .val (.int p4), .val (.int p5), .val (.int (2 : Int32)), .val (.int (own_wt p2)), .val (.int (own_wt p3)), .val (.int (own_wt p4)), .val (.int (own_wt p5)), .val (.ref b5), .val (.ref b10), .unset, .unset, .unset] [])) _
    refine XS.iconst X10.here hx rfl (hb hby at_148) ?_
    show Steps p.tables e below (T10.setTop (mkF m 149 #[.val (.int p1), .val (.int p2), .val (.int p3), .val (.int p4), .val (.int p5), .val (.int (2 : Int32)), .val (.int (own_wt p2)), .val (.int (own_wt p3)), .val (.int (own_wt p4)), .val (.int (own_wt p5)), .val (.ref b5), .val (.ref b10), .unset, .unset, .unset] [(.int (0 : Int32))])) _
    refine XS.istore X10.here hx rfl (hb hby at_149) rfl (l' := #[.val (.int p1), .val (.int p2), .val (.int p3), .val (.int p4), .val (.int p5), .val (.int (2 : Int32)), .val (.int (own_wt p2)), .val (.int (own_wt p3)), .val (.int (own_wt p4)), .val (.int (own_wt p5)), .val (.ref b5), .val (.ref b10), .val (.int (0 : Int32)), .unset, .unset]) rfl ?_
    show Steps p.tables e below (T10.setTop (mkF m 151 #[.val (.int p1), .val (.int p2), .val (.int p3), .val (.int p4), .val (.int p5), .val (.int (2 : Int32)), .val (.int (own_wt p2)), .val (.int (own_wt p3)), .val (.int (own_wt p4)), .val (.int (own_wt p5)), .val (.ref b5), .val (.ref b10), .val (.int (0 : Int32)), .unset, .unset] [])) _
    refine st11 _ ?_
    show Steps p.tables e below (T11.setTop (mkF m 170 #[.val (.int p1), .val (.int p2), .val (.int p3), .val (.int p4), .val (.int p5), .val (.int (2 : Int32)), .val (.int (own_wt p2)), .val (.int (own_wt p3)), .val (.int (own_wt p4)), .val (.int (own_wt p5)), .val (.ref b5), .val (.ref b10), .val (.int ((0 : Int32) + own_b (decide ((0 : Int32) < (own_wt p2))))), .unset, .unset] [])) _
    refine st12 _ ?_
    show Steps p.tables e below (T12.setTop (mkF m 190 #[.val (.int p1), .val (.int p2), .val (.int p3), .val (.int p4), .val (.int p5), .val (.int (2 : Int32)), .val (.int (own_wt p2)), .val (.int (own_wt p3)), .val (.int (own_wt p4)), .val (.int (own_wt p5)), .val (.ref b5), .val (.ref b10), .val (.int (((0 : Int32) + own_b (decide ((0 : Int32) < (own_wt p2)))) + own_b (decide ((0 : Int32) < (own_wt p3))))), .unset, .unset] [])) _
    refine XS.iload X12.here hx rfl (hb hby at_190) rfl ?_
    show Steps p.tables e below (T12.setTop (mkF m 192 #[.val (.int p1), .val (.int p2), .val (.int p3), .val (.int p4), .val (.int p5), .val (.int (2 : Int32)), .val (.int (own_wt p2)), .val (.int (own_wt p3)), .val (.int (own_wt p4)), .val (.int (own_wt p5)), .val (.ref b5), .val (.ref b10), .val (.int (((0 : Int32) + own_b (decide ((0 : Int32) < (own_wt p2)))) + own_b (decide ((0 : Int32) < (own_wt p3))))), .unset, .unset] [(.int (2 : Int32))])) _
    refine XS.iconst X12.here hx rfl (hb hby at_192) ?_
    show Steps p.tables e below (T12.setTop (mkF m 193 #[.val (.int p1), .val (.int p2), .val (.int p3), .val (.int p4), .val (.int p5), .val (.int (2 : Int32)), .val (.int (own_wt p2)), .val (.int (own_wt p3)), .val (.int (own_wt p4)), .val (.int (own_wt p5)), .val (.ref b5), .val (.ref b10), .val (.int (((0 : Int32) + own_b (decide ((0 : Int32) < (own_wt p2)))) + own_b (decide ((0 : Int32) < (own_wt p3))))), .unset, .unset] [(.int (2 : Int32)), (.int (2 : Int32))])) _
    refine XS.icmpYes X12.here hx rfl (pc0 := 193) (pc' := 210) rfl (hb hby at_193) rfl (flt ((by decide) : ¬ ((2 : Int32) < (2 : Int32)))).2.2.2 (by decide) (by decide) ?_
    show Steps p.tables e below (T12.setTop (mkF m 210 #[.val (.int p1), .val (.int p2), .val (.int p3), .val (.int p4), .val (.int p5), .val (.int (2 : Int32)), .val (.int (own_wt p2)), .val (.int (own_wt p3)), .val (.int (own_wt p4)), .val (.int (own_wt p5)), .val (.ref b5), .val (.ref b10), .val (.int (((0 : Int32) + own_b (decide ((0 : Int32) < (own_wt p2)))) + own_b (decide ((0 : Int32) < (own_wt p3))))), .unset, .unset] [])) _
    refine XS.iload X12.here hx rfl (hb hby at_210) rfl ?_
    show Steps p.tables e below (T12.setTop (mkF m 212 #[.val (.int p1), .val (.int p2), .val (.int p3), .val (.int p4), .val (.int p5), .val (.int (2 : Int32)), .val (.int (own_wt p2)), .val (.int (own_wt p3)), .val (.int (own_wt p4)), .val (.int (own_wt p5)), .val (.ref b5), .val (.ref b10), .val (.int (((0 : Int32) + own_b (decide ((0 : Int32) < (own_wt p2)))) + own_b (decide ((0 : Int32) < (own_wt p3))))), .unset, .unset] [(.int (2 : Int32))])) _
    refine XS.iconst X12.here hx rfl (hb hby at_212) ?_
    show Steps p.tables e below (T12.setTop (mkF m 213 #[.val (.int p1), .val (.int p2), .val (.int p3), .val (.int p4), .val (.int p5), .val (.int (2 : Int32)), .val (.int (own_wt p2)), .val (.int (own_wt p3)), .val (.int (own_wt p4)), .val (.int (own_wt p5)), .val (.ref b5), .val (.ref b10), .val (.int (((0 : Int32) + own_b (decide ((0 : Int32) < (own_wt p2)))) + own_b (decide ((0 : Int32) < (own_wt p3))))), .unset, .unset] [(.int (3 : Int32)), (.int (2 : Int32))])) _
    refine XS.icmpYes X12.here hx rfl (pc0 := 213) (pc' := 230) rfl (hb hby at_213) rfl (flt ((by decide) : ¬ ((3 : Int32) < (2 : Int32)))).2.2.2 (by decide) (by decide) ?_
    show Steps p.tables e below (T12.setTop (mkF m 230 #[.val (.int p1), .val (.int p2), .val (.int p3), .val (.int p4), .val (.int p5), .val (.int (2 : Int32)), .val (.int (own_wt p2)), .val (.int (own_wt p3)), .val (.int (own_wt p4)), .val (.int (own_wt p5)), .val (.ref b5), .val (.ref b10), .val (.int (((0 : Int32) + own_b (decide ((0 : Int32) < (own_wt p2)))) + own_b (decide ((0 : Int32) < (own_wt p3))))), .unset, .unset] [])) _
    refine XS.aload X12.here hx rfl (hb hby at_230) rfl rfl ?_
    show Steps p.tables e below (T12.setTop (mkF m 232 #[.val (.int p1), .val (.int p2), .val (.int p3), .val (.int p4), .val (.int p5), .val (.int (2 : Int32)), .val (.int (own_wt p2)), .val (.int (own_wt p3)), .val (.int (own_wt p4)), .val (.int (own_wt p5)), .val (.ref b5), .val (.ref b10), .val (.int (((0 : Int32) + own_b (decide ((0 : Int32) < (own_wt p2)))) + own_b (decide ((0 : Int32) < (own_wt p3))))), .unset, .unset] [(.ref b5)])) _
    refine st13 _ ?_
    show Steps p.tables e below (T13.setTop (mkF m 235 #[.val (.int p1), .val (.int p2), .val (.int p3), .val (.int p4), .val (.int p5), .val (.int (2 : Int32)), .val (.int (own_wt p2)), .val (.int (own_wt p3)), .val (.int (own_wt p4)), .val (.int (own_wt p5)), .val (.ref b5), .val (.ref b10), .val (.int (((0 : Int32) + own_b (decide ((0 : Int32) < (own_wt p2)))) + own_b (decide ((0 : Int32) < (own_wt p3))))), .unset, .unset] [(.ref c13)])) _
    refine XS.astore X13.here hx rfl (hb hby at_235) rfl rfl (l' := #[.val (.int p1), .val (.int p2), .val (.int p3), .val (.int p4), .val (.int p5), .val (.int (2 : Int32)), .val (.int (own_wt p2)), .val (.int (own_wt p3)), .val (.int (own_wt p4)), .val (.int (own_wt p5)), .val (.ref b5), .val (.ref b10), .val (.int (((0 : Int32) + own_b (decide ((0 : Int32) < (own_wt p2)))) + own_b (decide ((0 : Int32) < (own_wt p3))))), .val (.ref c13), .unset]) rfl ?_
    show Steps p.tables e below (T13.setTop (mkF m 237 #[.val (.int p1), .val (.int p2), .val (.int p3), .val (.int p4), .val (.int p5), .val (.int (2 : Int32)), .val (.int (own_wt p2)), .val (.int (own_wt p3)), .val (.int (own_wt p4)), .val (.int (own_wt p5)), .val (.ref b5), .val (.ref b10), .val (.int (((0 : Int32) + own_b (decide ((0 : Int32) < (own_wt p2)))) + own_b (decide ((0 : Int32) < (own_wt p3))))), .val (.ref c13), .unset] [])) _
    refine XS.aload X13.here hx rfl (hb hby at_237) rfl rfl ?_
    show Steps p.tables e below (T13.setTop (mkF m 239 #[.val (.int p1), .val (.int p2), .val (.int p3), .val (.int p4), .val (.int p5), .val (.int (2 : Int32)), .val (.int (own_wt p2)), .val (.int (own_wt p3)), .val (.int (own_wt p4)), .val (.int (own_wt p5)), .val (.ref b5), .val (.ref b10), .val (.int (((0 : Int32) + own_b (decide ((0 : Int32) < (own_wt p2)))) + own_b (decide ((0 : Int32) < (own_wt p3))))), .val (.ref c13), .unset] [(.ref c13)])) _
    refine XS.ifnullNo X13.here hx rfl (hb hby at_239) rfl ?_
    show Steps p.tables e below (T13.setTop (mkF m 242 #[.val (.int p1), .val (.int p2), .val (.int p3), .val (.int p4), .val (.int p5), .val (.int (2 : Int32)), .val (.int (own_wt p2)), .val (.int (own_wt p3)), .val (.int (own_wt p4)), .val (.int (own_wt p5)), .val (.ref b5), .val (.ref b10), .val (.int (((0 : Int32) + own_b (decide ((0 : Int32) < (own_wt p2)))) + own_b (decide ((0 : Int32) < (own_wt p3))))), .val (.ref c13), .unset] [])) _
    refine XS.aload X13.here hx rfl (hb hby at_242) rfl rfl ?_
    show Steps p.tables e below (T13.setTop (mkF m 244 #[.val (.int p1), .val (.int p2), .val (.int p3), .val (.int p4), .val (.int p5), .val (.int (2 : Int32)), .val (.int (own_wt p2)), .val (.int (own_wt p3)), .val (.int (own_wt p4)), .val (.int (own_wt p5)), .val (.ref b5), .val (.ref b10), .val (.int (((0 : Int32) + own_b (decide ((0 : Int32) < (own_wt p2)))) + own_b (decide ((0 : Int32) < (own_wt p3))))), .val (.ref c13), .unset] [(.ref c13)])) _
    refine X13.arraylength hx Ar14.1 (State.isArrayOf_alike hZ.alike Ar14.2.1) (g := (mkF m 244 #[.val (.int p1), .val (.int p2), .val (.int p3), .val (.int p4), .val (.int p5), .val (.int (2 : Int32)), .val (.int (own_wt p2)), .val (.int (own_wt p3)), .val (.int (own_wt p4)), .val (.int (own_wt p5)), .val (.ref b5), .val (.ref b10), .val (.int (((0 : Int32) + own_b (decide ((0 : Int32) < (own_wt p2)))) + own_b (decide ((0 : Int32) < (own_wt p3))))), .val (.ref c13), .unset] [(.ref c13)])) rfl rfl (hb hby at_244) _ ?_
    rw [len_of S14 M14]
    show Steps p.tables e below (T13.setTop (mkF m 245 #[.val (.int p1), .val (.int p2), .val (.int p3), .val (.int p4), .val (.int p5), .val (.int (2 : Int32)), .val (.int (own_wt p2)), .val (.int (own_wt p3)), .val (.int (own_wt p4)), .val (.int (own_wt p5)), .val (.ref b5), .val (.ref b10), .val (.int (((0 : Int32) + own_b (decide ((0 : Int32) < (own_wt p2)))) + own_b (decide ((0 : Int32) < (own_wt p3))))), .val (.ref c13), .unset] [(.int (((0 : Int32) + own_b (decide ((0 : Int32) < (own_wt p2)))) + own_b (decide ((0 : Int32) < (own_wt p3)))))])) _
    refine XS.iload X13.here hx rfl (hb hby at_245) rfl ?_
    show Steps p.tables e below (T13.setTop (mkF m 247 #[.val (.int p1), .val (.int p2), .val (.int p3), .val (.int p4), .val (.int p5), .val (.int (2 : Int32)), .val (.int (own_wt p2)), .val (.int (own_wt p3)), .val (.int (own_wt p4)), .val (.int (own_wt p5)), .val (.ref b5), .val (.ref b10), .val (.int (((0 : Int32) + own_b (decide ((0 : Int32) < (own_wt p2)))) + own_b (decide ((0 : Int32) < (own_wt p3))))), .val (.ref c13), .unset] [(.int (((0 : Int32) + own_b (decide ((0 : Int32) < (own_wt p2)))) + own_b (decide ((0 : Int32) < (own_wt p3))))), (.int (((0 : Int32) + own_b (decide ((0 : Int32) < (own_wt p2)))) + own_b (decide ((0 : Int32) < (own_wt p3)))))])) _
    refine XS.icmpYes X13.here hx rfl (pc0 := 247) (pc' := 252) rfl (hb hby at_247) rfl (teq (rfl : (((0 : Int32) + own_b (decide ((0 : Int32) < (own_wt p2)))) + own_b (decide ((0 : Int32) < (own_wt p3)))) = (((0 : Int32) + own_b (decide ((0 : Int32) < (own_wt p2)))) + own_b (decide ((0 : Int32) < (own_wt p3)))))).1 (by decide) (by decide) ?_
    show Steps p.tables e below (T13.setTop (mkF m 252 #[.val (.int p1), .val (.int p2), .val (.int p3), .val (.int p4), .val (.int p5), .val (.int (2 : Int32)), .val (.int (own_wt p2)), .val (.int (own_wt p3)), .val (.int (own_wt p4)), .val (.int (own_wt p5)), .val (.ref b5), .val (.ref b10), .val (.int (((0 : Int32) + own_b (decide ((0 : Int32) < (own_wt p2)))) + own_b (decide ((0 : Int32) < (own_wt p3))))), .val (.ref c13), .unset] [])) _
    refine XS.iconst X13.here hx rfl (hb hby at_252) ?_
    show Steps p.tables e below (T13.setTop (mkF m 253 #[.val (.int p1), .val (.int p2), .val (.int p3), .val (.int p4), .val (.int p5), .val (.int (2 : Int32)), .val (.int (own_wt p2)), .val (.int (own_wt p3)), .val (.int (own_wt p4)), .val (.int (own_wt p5)), .val (.ref b5), .val (.ref b10), .val (.int (((0 : Int32) + own_b (decide ((0 : Int32) < (own_wt p2)))) + own_b (decide ((0 : Int32) < (own_wt p3))))), .val (.ref c13), .unset] [(.int (1 : Int32))])) _
    refine XS.istore X13.here hx rfl (hb hby at_253) rfl (l' := #[.val (.int p1), .val (.int p2), .val (.int p3), .val (.int p4), .val (.int p5), .val (.int (2 : Int32)), .val (.int (own_wt p2)), .val (.int (own_wt p3)), .val (.int (own_wt p4)), .val (.int (own_wt p5)), .val (.ref b5), .val (.ref b10), .val (.int (((0 : Int32) + own_b (decide ((0 : Int32) < (own_wt p2)))) + own_b (decide ((0 : Int32) < (own_wt p3))))), .val (.ref c13), .val (.int (1 : Int32))]) rfl ?_
    show Steps p.tables e below (T13.setTop (mkF m 255 #[.val (.int p1), .val (.int p2), .val (.int p3), .val (.int p4), .val (.int p5), .val (.int (2 : Int32)), .val (.int (own_wt p2)), .val (.int (own_wt p3)), .val (.int (own_wt p4)), .val (.int (own_wt p5)), .val (.ref b5), .val (.ref b10), .val (.int (((0 : Int32) + own_b (decide ((0 : Int32) < (own_wt p2)))) + own_b (decide ((0 : Int32) < (own_wt p3))))), .val (.ref c13), .val (.int (1 : Int32))] [])) _
    refine ck0 p1 p2 p3 p4 p5 (2 : Int32) (own_wt p2) (own_wt p3) (own_wt p4) (own_wt p5) b5 b10 c13 (((0 : Int32) + own_b (decide ((0 : Int32) < (own_wt p2)))) + own_b (decide ((0 : Int32) < (own_wt p3)))) k10 kk13 (own_set (decide ((0 : Int32) < (own_wt p3))) (own_set (decide ((0 : Int32) < (own_wt p2))) [(.int (0 : Int32)), (.int (0 : Int32)), (.int (0 : Int32)), (.int (0 : Int32))] (0 : Int32) (0 : Int32)) ((0 : Int32) + own_b (decide ((0 : Int32) < (own_wt p2)))) (1 : Int32)) z15 X13 hx hZ hw hby hml hown rfl N13 Z13 V_b10_13 Vt13 hz15 _ ?_
    show Steps p.tables e below (T13.setTop (mkF m 283 #[.val (.int p1), .val (.int p2), .val (.int p3), .val (.int p4), .val (.int p5), .val (.int (2 : Int32)), .val (.int (own_wt p2)), .val (.int (own_wt p3)), .val (.int (own_wt p4)), .val (.int (own_wt p5)), .val (.ref b5), .val (.ref b10), .val (.int (((0 : Int32) + own_b (decide ((0 : Int32) < (own_wt p2)))) + own_b (decide ((0 : Int32) < (own_wt p3))))), .val (.ref c13), .val (.int (1 : Int32))] [])) _
    refine ck1 p1 p2 p3 p4 p5 (2 : Int32) (own_wt p2) (own_wt p3) (own_wt p4) (own_wt p5) b5 b10 c13 (((0 : Int32) + own_b (decide ((0 : Int32) < (own_wt p2)))) + own_b (decide ((0 : Int32) < (own_wt p3)))) k10 kk13 (own_set (decide ((0 : Int32) < (own_wt p3))) (own_set (decide ((0 : Int32) < (own_wt p2))) [(.int (0 : Int32)), (.int (0 : Int32)), (.int (0 : Int32)), (.int (0 : Int32))] (0 : Int32) (0 : Int32)) ((0 : Int32) + own_b (decide ((0 : Int32) < (own_wt p2)))) (1 : Int32)) z16 X13 hx hZ hw hby hml hown rfl N13 Z13 V_b10_13 Vt13 hz16 _ ?_
    show Steps p.tables e below (T13.setTop (mkF m 312 #[.val (.int p1), .val (.int p2), .val (.int p3), .val (.int p4), .val (.int p5), .val (.int (2 : Int32)), .val (.int (own_wt p2)), .val (.int (own_wt p3)), .val (.int (own_wt p4)), .val (.int (own_wt p5)), .val (.ref b5), .val (.ref b10), .val (.int (((0 : Int32) + own_b (decide ((0 : Int32) < (own_wt p2)))) + own_b (decide ((0 : Int32) < (own_wt p3))))), .val (.ref c13), .val (.int (1 : Int32))] [])) _
    refine ck2 p1 p2 p3 p4 p5 (2 : Int32) (own_wt p2) (own_wt p3) (own_wt p4) (own_wt p5) b5 b10 c13 (((0 : Int32) + own_b (decide ((0 : Int32) < (own_wt p2)))) + own_b (decide ((0 : Int32) < (own_wt p3)))) k10 kk13 (own_set (decide ((0 : Int32) < (own_wt p3))) (own_set (decide ((0 : Int32) < (own_wt p2))) [(.int (0 : Int32)), (.int (0 : Int32)), (.int (0 : Int32)), (.int (0 : Int32))] (0 : Int32) (0 : Int32)) ((0 : Int32) + own_b (decide ((0 : Int32) < (own_wt p2)))) (1 : Int32)) z17 X13 hx hZ hw hby hml hown rfl N13 Z13 V_b10_13 Vt13 hz17 _ ?_
    show Steps p.tables e below (T13.setTop (mkF m 341 #[.val (.int p1), .val (.int p2), .val (.int p3), .val (.int p4), .val (.int p5), .val (.int (2 : Int32)), .val (.int (own_wt p2)), .val (.int (own_wt p3)), .val (.int (own_wt p4)), .val (.int (own_wt p5)), .val (.ref b5), .val (.ref b10), .val (.int (((0 : Int32) + own_b (decide ((0 : Int32) < (own_wt p2)))) + own_b (decide ((0 : Int32) < (own_wt p3))))), .val (.ref c13), .val (.int (1 : Int32))] [])) _
    refine ck3 p1 p2 p3 p4 p5 (2 : Int32) (own_wt p2) (own_wt p3) (own_wt p4) (own_wt p5) b5 b10 c13 (((0 : Int32) + own_b (decide ((0 : Int32) < (own_wt p2)))) + own_b (decide ((0 : Int32) < (own_wt p3)))) k10 kk13 (own_set (decide ((0 : Int32) < (own_wt p3))) (own_set (decide ((0 : Int32) < (own_wt p2))) [(.int (0 : Int32)), (.int (0 : Int32)), (.int (0 : Int32)), (.int (0 : Int32))] (0 : Int32) (0 : Int32)) ((0 : Int32) + own_b (decide ((0 : Int32) < (own_wt p2)))) (1 : Int32)) z18 X13 hx hZ hw hby hml hown rfl N13 Z13 V_b10_13 Vt13 hz18 _ ?_
    show Steps p.tables e below (T13.setTop (mkF m 370 #[.val (.int p1), .val (.int p2), .val (.int p3), .val (.int p4), .val (.int p5), .val (.int (2 : Int32)), .val (.int (own_wt p2)), .val (.int (own_wt p3)), .val (.int (own_wt p4)), .val (.int (own_wt p5)), .val (.ref b5), .val (.ref b10), .val (.int (((0 : Int32) + own_b (decide ((0 : Int32) < (own_wt p2)))) + own_b (decide ((0 : Int32) < (own_wt p3))))), .val (.ref c13), .val (.int (1 : Int32))] [])) _
    refine XS.iload X13.here hx rfl (hb hby at_370) rfl ?_
    show Steps p.tables e below (T13.setTop (mkF m 372 #[.val (.int p1), .val (.int p2), .val (.int p3), .val (.int p4), .val (.int p5), .val (.int (2 : Int32)), .val (.int (own_wt p2)), .val (.int (own_wt p3)), .val (.int (own_wt p4)), .val (.int (own_wt p5)), .val (.ref b5), .val (.ref b10), .val (.int (((0 : Int32) + own_b (decide ((0 : Int32) < (own_wt p2)))) + own_b (decide ((0 : Int32) < (own_wt p3))))), .val (.ref c13), .val (.int (1 : Int32))] [(.int (1 : Int32))])) _
    exact retN X13 hx (t := .boolean) Bd.returns (by simp) (hb hby at_372) hr
  · show Q0 Z p1 p2 p3 p4 p5 h0 n0 _ T13.heap _
    exact ⟨rfl, N13⟩
set_option maxRecDepth 65536 in
set_option maxHeartbeats 40000000 in
theorem rm0_3 (l : Launch) (Z : State) (a0 : Array Value) (hw : ∀ d ∈ tables_1, d.before a0 Z = true) (ws : List Jvm.Cond) (p1 p2 p3 p4 p5 : Int32) (h0 : Heap) (n0 : Nat) (Z0 : n0 ≤ h0.size) (hn : ((p1 &&& (7 : Int32)) % (5 : Int32)) = (3 : Int32)) :
    MetFree l x (head1 (Jvm.Cond.code x code maxLocals ret :: ws) room_1) (fun a U => a = #[(.int p1), (.int p2), (.int p3), (.int p4), (.int p5)] ∧ Z.Warmed39 U.vm ∧ U.heap = h0) (fun _ _ _ _ _ => True) (fun _ U o U' => ∃ v L, o = .returned v ∧ Q0 Z p1 p2 p3 p4 p5 h0 n0 v U'.heap L ∧ FrameEnd U o U' L room_1.cells room_1.slots) := by
  refine MetFree.of_bodySF (plainFor_of_name pn_0) hisR ?_
  intro p e s m args below meth c s₁ Bd hml0 hP hK
  obtain ⟨rfl, hZ, hh⟩ := hP
  have hx := Bd.exec
  have hby := Bd.bytes
  have hml : c.maxLocals = 15 := hml0
  have hown : s.vm.findClass "com/example/steelyard/steelyard/CandidatesPositiveIndicesPinLaw" = some m.cls := findClass_of_methodNamed Bd.named
  have hnm := (name_of_methodNamed Bd.named Bd.method).1
  have X0 : Stand p l e room_1 s m #[(.int p1), (.int p2), (.int p3), (.int p4), (.int p5)] below meth c s₁ [] 0 0 := Stand.of_body Bd
  have e0 : s₁.heap = h0 := by rw [← hh, Bd.state]; rfl
  have N0 := Fr.nil n0
  have pre0 : ∀ tz, Steps p.tables e below (s₁.setTop (mkF m 0 #[.val (.int p1), .val (.int p2), .val (.int p3), .val (.int p4), .val (.int p5), .unset, .unset, .unset, .unset, .unset, .unset, .unset, .unset, .unset, .unset] [])) tz → Steps p.tables e below (s₁.setTop (entryFrame m #[(.int p1), (.int p2), (.int p3), (.int p4), (.int p5)] maxLocals)) tz := fun tz kz => castTop (ef_0 m p1 p2 p3 p4 p5) kz
  obtain ⟨_, _, ⟨T1, L1, k1, n1⟩, -, X1, ⟨Lc1, hQ1, l1, y1, z1⟩, st1⟩ := Jvm.LawKit.callS X0 hx (y := (⟨"com/example/steelyard/steelyard/CandidatesPositiveIndicesPinLaw", "weightOf", "(I)I"⟩ : MethodName)) hown (mvT hZ (hw _ (List.mem_of_getElem? (i := 0) rfl))) (mvT hZ (hw _ (List.mem_of_getElem? (i := 1) rfl))) (mvT hZ (hw _ (List.mem_of_getElem? (i := 2) rfl))) (mvT hZ (hw _ (List.mem_of_getElem? (i := 3) rfl))) (by decide) (backOf (W := 0) (rmW l Z a0 hw [] p2 h0 n0 Z0) hZ (hw _ (List.mem_of_getElem? (i := 3) rfl)) (hw _ (List.mem_of_getElem? (i := 2) rfl)) (by decide) (by decide)) (g := (mkF m 9 #[.val (.int p1), .val (.int p2), .val (.int p3), .val (.int p4), .val (.int p5), .val (.int (3 : Int32)), .unset, .unset, .unset, .unset, .unset, .unset, .unset, .unset, .unset] [(.int p2)])) rfl (by rw [hml]; rfl) (argsL := [(.int p2)]) (rest := []) (lenOf pd_0_0 rfl) rfl (by show 2 * 0 + _ ≤ _; exact Nat.le_of_eq rfl) (hb hby at_9) (fun _ _ => ⟨rfl, e0, (by decide : 0 + 0 ≤ _), (by decide : 0 + 0 ≤ _)⟩)
  dsimp only [Pt.U, Pt.locs, Pt.cells, Pt.slots] at X1 l1 y1 z1 st1 hQ1
  subst l1 y1 z1
  obtain ⟨rfl, N1q, eh1⟩ := hQ1
  have N1 := Fr.app N0 N1q
  obtain ⟨_, _, ⟨T2, L2, k2, n2⟩, -, X2, ⟨Lc2, hQ2, l2, y2, z2⟩, st2⟩ := Jvm.LawKit.callS X1 hx (y := (⟨"com/example/steelyard/steelyard/CandidatesPositiveIndicesPinLaw", "weightOf", "(I)I"⟩ : MethodName)) hown (mvT hZ (hw _ (List.mem_of_getElem? (i := 0) rfl))) (mvT hZ (hw _ (List.mem_of_getElem? (i := 1) rfl))) (mvT hZ (hw _ (List.mem_of_getElem? (i := 2) rfl))) (mvT hZ (hw _ (List.mem_of_getElem? (i := 3) rfl))) (by decide) (backOf (W := 0) (rmW l Z a0 hw [] p3 h0 n0 Z0) hZ (hw _ (List.mem_of_getElem? (i := 3) rfl)) (hw _ (List.mem_of_getElem? (i := 2) rfl)) (by decide) (by decide)) (g := (mkF m 15 #[.val (.int p1), .val (.int p2), .val (.int p3), .val (.int p4), .val (.int p5), .val (.int (3 : Int32)), .val (.int (own_wt p2)), .unset, .unset, .unset, .unset, .unset, .unset, .unset, .unset] [(.int p3)])) rfl (by rw [hml]; rfl) (argsL := [(.int p3)]) (rest := []) (lenOf pd_0_0 rfl) rfl (by show 2 * 0 + _ ≤ _; exact Nat.le_of_eq rfl) (hb hby at_15) (fun _ _ => ⟨rfl, eh1, (by decide : 0 + 0 ≤ _), (by decide : 0 + 0 ≤ _)⟩)
  dsimp only [Pt.U, Pt.locs, Pt.cells, Pt.slots] at X2 l2 y2 z2 st2 hQ2
  subst l2 y2 z2
  obtain ⟨rfl, N2q, eh2⟩ := hQ2
  have N2 := Fr.app N1 N2q
  obtain ⟨_, _, ⟨T3, L3, k3, n3⟩, -, X3, ⟨Lc3, hQ3, l3, y3, z3⟩, st3⟩ := Jvm.LawKit.callS X2 hx (y := (⟨"com/example/steelyard/steelyard/CandidatesPositiveIndicesPinLaw", "weightOf", "(I)I"⟩ : MethodName)) hown (mvT hZ (hw _ (List.mem_of_getElem? (i := 0) rfl))) (mvT hZ (hw _ (List.mem_of_getElem? (i := 1) rfl))) (mvT hZ (hw _ (List.mem_of_getElem? (i := 2) rfl))) (mvT hZ (hw _ (List.mem_of_getElem? (i := 3) rfl))) (by decide) (backOf (W := 0) (rmW l Z a0 hw [] p4 h0 n0 Z0) hZ (hw _ (List.mem_of_getElem? (i := 3) rfl)) (hw _ (List.mem_of_getElem? (i := 2) rfl)) (by decide) (by decide)) (g := (mkF m 21 #[.val (.int p1), .val (.int p2), .val (.int p3), .val (.int p4), .val (.int p5), .val (.int (3 : Int32)), .val (.int (own_wt p2)), .val (.int (own_wt p3)), .unset, .unset, .unset, .unset, .unset, .unset, .unset] [(.int p4)])) rfl (by rw [hml]; rfl) (argsL := [(.int p4)]) (rest := []) (lenOf pd_0_0 rfl) rfl (by show 2 * 0 + _ ≤ _; exact Nat.le_of_eq rfl) (hb hby at_21) (fun _ _ => ⟨rfl, eh2, (by decide : 0 + 0 ≤ _), (by decide : 0 + 0 ≤ _)⟩)
  dsimp only [Pt.U, Pt.locs, Pt.cells, Pt.slots] at X3 l3 y3 z3 st3 hQ3
  subst l3 y3 z3
  obtain ⟨rfl, N3q, eh3⟩ := hQ3
  have N3 := Fr.app N2 N3q
  obtain ⟨_, _, ⟨T4, L4, k4, n4⟩, -, X4, ⟨Lc4, hQ4, l4, y4, z4⟩, st4⟩ := Jvm.LawKit.callS X3 hx (y := (⟨"com/example/steelyard/steelyard/CandidatesPositiveIndicesPinLaw", "weightOf", "(I)I"⟩ : MethodName)) hown (mvT hZ (hw _ (List.mem_of_getElem? (i := 0) rfl))) (mvT hZ (hw _ (List.mem_of_getElem? (i := 1) rfl))) (mvT hZ (hw _ (List.mem_of_getElem? (i := 2) rfl))) (mvT hZ (hw _ (List.mem_of_getElem? (i := 3) rfl))) (by decide) (backOf (W := 0) (rmW l Z a0 hw [] p5 h0 n0 Z0) hZ (hw _ (List.mem_of_getElem? (i := 3) rfl)) (hw _ (List.mem_of_getElem? (i := 2) rfl)) (by decide) (by decide)) (g := (mkF m 28 #[.val (.int p1), .val (.int p2), .val (.int p3), .val (.int p4), .val (.int p5), .val (.int (3 : Int32)), .val (.int (own_wt p2)), .val (.int (own_wt p3)), .val (.int (own_wt p4)), .unset, .unset, .unset, .unset, .unset, .unset] [(.int p5)])) rfl (by rw [hml]; rfl) (argsL := [(.int p5)]) (rest := []) (lenOf pd_0_0 rfl) rfl (by show 2 * 0 + _ ≤ _; exact Nat.le_of_eq rfl) (hb hby at_28) (fun _ _ => ⟨rfl, eh3, (by decide : 0 + 0 ≤ _), (by decide : 0 + 0 ≤ _)⟩)
  dsimp only [Pt.U, Pt.locs, Pt.cells, Pt.slots] at X4 l4 y4 z4 st4 hQ4
  subst l4 y4 z4
  obtain ⟨rfl, N4q, eh4⟩ := hQ4
  have N4 := Fr.app N3 N4q
  obtain ⟨T5, h5, k5, X5, e5, E5, A5, st5⟩ := newP X4 hx hZ (hw _ (List.mem_of_getElem? (i := 4) rfl)) eh4 (g := (mkF m 96 #[.val (.int p1), .val (.int p2), .val (.int p3), .val (.int p4), .val (.int p5), .val (.int (3 : Int32)), .val (.int (own_wt p2)), .val (.int (own_wt p3)), .val (.int (own_wt p4)), .val (.int (own_wt p5)), .unset, .unset, .unset, .unset, .unset] [(.int (3 : Int32))])) rfl (hb hby at_96) rfl (by decide) (cap := 3) (by decide) (by decide) (by decide) (by decide)
  obtain ⟨b5, g5⟩ : ∃ z, z = h0.size := ⟨_, rfl⟩
  rw [← g5] at A5 st5
  have gb5 : n0 ≤ b5 := Nat.le_trans Z0 (Nat.le_of_eq g5.symm)
  have Z5 : n0 ≤ h5.size := Nat.le_trans Z0 E5.1
  have V5 : Arv Z h5 b5 k5 .int (3 : Int32) [(.int (0 : Int32)), (.int (0 : Int32)), (.int (0 : Int32))] (.int (0 : Int32)) := (Arv.new A5 (by decide)).pad (pad_rep [] (.int (0 : Int32)) 3)
  obtain ⟨cl6, Ar6, q6, S6, M6, H6, G6⟩ := id V5
  have hin7 : ¬ ((0 : Int32) < 0 ∨ cl6.slots.size ≤ ((0 : Int32)).toNatClampNeg) := inb_of S6 ⟨by decide, by decide⟩
  obtain ⟨T7, h7, X7, e7, W7, st7⟩ := stI X5 hx hZ e5 Ar6 (j := (0 : Int32)) hin7 (g := (mkF m 102 #[.val (.int p1), .val (.int p2), .val (.int p3), .val (.int p4), .val (.int p5), .val (.int (3 : Int32)), .val (.int (own_wt p2)), .val (.int (own_wt p3)), .val (.int (own_wt p4)), .val (.int (own_wt p5)), .unset, .unset, .unset, .unset, .unset] [(.int (own_wt p2)), (.int (0 : Int32)), (.ref b5), (.ref b5)])) rfl rfl (hb hby at_102)
  have V7 : Arv Z h7 b5 k5 .int (3 : Int32) [(.int (own_wt p2)), (.int (0 : Int32)), (.int (0 : Int32))] (.int (0 : Int32)) := Arv.set Ar6 q6 S6 M6 H6 G6 rfl W7 0 rfl (Nat.le_of_ble_eq_true rfl)
  have Z7 : n0 ≤ h7.size := Nat.le_trans Z5 (Keep.of_wr W7).1
  have N7 := Fr.snoc X7 N4 gb5
  obtain ⟨cl8, Ar8, q8, S8, M8, H8, G8⟩ := id V7
  have hin9 : ¬ ((1 : Int32) < 0 ∨ cl8.slots.size ≤ ((1 : Int32)).toNatClampNeg) := inb_of S8 ⟨by decide, by decide⟩
  obtain ⟨T9, h9, X9, e9, W9, st9⟩ := stI X7 hx hZ e7 Ar8 (j := (1 : Int32)) hin9 (g := (mkF m 107 #[.val (.int p1), .val (.int p2), .val (.int p3), .val (.int p4), .val (.int p5), .val (.int (3 : Int32)), .val (.int (own_wt p2)), .val (.int (own_wt p3)), .val (.int (own_wt p4)), .val (.int (own_wt p5)), .unset, .unset, .unset, .unset, .unset] [(.int (own_wt p3)), (.int (1 : Int32)), (.ref b5), (.ref b5)])) rfl rfl (hb hby at_107)
  have V9 : Arv Z h9 b5 k5 .int (3 : Int32) [(.int (own_wt p2)), (.int (own_wt p3)), (.int (0 : Int32))] (.int (0 : Int32)) := Arv.set Ar8 q8 S8 M8 H8 G8 rfl W9 1 rfl (Nat.le_of_ble_eq_true rfl)
  have Z9 : n0 ≤ h9.size := Nat.le_trans Z7 (Keep.of_wr W9).1
  have N9 := Fr.snoc X9 N7 gb5
  obtain ⟨cl10, Ar10, q10, S10, M10, H10, G10⟩ := id V9
  have hin11 : ¬ ((2 : Int32) < 0 ∨ cl10.slots.size ≤ ((2 : Int32)).toNatClampNeg) := inb_of S10 ⟨by decide, by decide⟩
  obtain ⟨T11, h11, X11, e11, W11, st11⟩ := stI X9 hx hZ e9 Ar10 (j := (2 : Int32)) hin11 (g := (mkF m 112 #[.val (.int p1), .val (.int p2), .val (.int p3), .val (.int p4), .val (.int p5), .val (.int (3 : Int32)), .val (.int (own_wt p2)), .val (.int (own_wt p3)), .val (.int (own_wt p4)), .val (.int (own_wt p5)), .unset, .unset, .unset, .unset, .unset] [(.int (own_wt p4)), (.int (2 : Int32)), (.ref b5), (.ref b5)])) rfl rfl (hb hby at_112)
  have V11 : Arv Z h11 b5 k5 .int (3 : Int32) [(.int (own_wt p2)), (.int (own_wt p3)), (.int (own_wt p4))] (.int (0 : Int32)) := Arv.set Ar10 q10 S10 M10 H10 G10 rfl W11 2 rfl (Nat.le_of_ble_eq_true rfl)
  have Z11 : n0 ≤ h11.size := Nat.le_trans Z9 (Keep.of_wr W11).1
  have N11 := Fr.snoc X11 N9 gb5
  obtain ⟨T12, h12, k12, X12, e12, E12, A12, st12⟩ := newP X11 hx hZ (hw _ (List.mem_of_getElem? (i := 4) rfl)) e11 (g := (mkF m 144 #[.val (.int p1), .val (.int p2), .val (.int p3), .val (.int p4), .val (.int p5), .val (.int (3 : Int32)), .val (.int (own_wt p2)), .val (.int (own_wt p3)), .val (.int (own_wt p4)), .val (.int (own_wt p5)), .val (.ref b5), .unset, .unset, .unset, .unset] [(.int (4 : Int32))])) rfl (hb hby at_144) rfl (by decide) (cap := 4) (by decide) (by decide) (by decide) (by decide)
  obtain ⟨b12, g12⟩ : ∃ z, z = h11.size := ⟨_, rfl⟩
  rw [← g12] at A12 st12
  have gb12 : n0 ≤ b12 := Nat.le_trans Z11 (Nat.le_of_eq g12.symm)
  have ne_b5_b12 : b5 ≠ b12 := (Nat.ne_of_lt (Nat.lt_of_lt_of_le V11.lt (Nat.le_of_eq g12.symm)))
  have V_b5_12 := V11.ext E12
  have Z12 : n0 ≤ h12.size := Nat.le_trans Z11 E12.1
  have V12 : Arv Z h12 b12 k12 .int (4 : Int32) [(.int (0 : Int32)), (.int (0 : Int32)), (.int (0 : Int32)), (.int (0 : Int32))] (.int (0 : Int32)) := (Arv.new A12 (by decide)).pad (pad_rep [] (.int (0 : Int32)) 4)
  obtain ⟨T13, h13, L13, X13, e13, N13, Z13, K13, Vx13, st13⟩ := se0 p1 p2 p3 p4 p5 (3 : Int32) (own_wt p2) (own_wt p3) (own_wt p4) (own_wt p5) b5 b12 (0 : Int32) k12 [(.int (0 : Int32)), (.int (0 : Int32)), (.int (0 : Int32)), (.int (0 : Int32))] X12 hx hZ hw hby hml hown e12 N11 Z12 V12 gb12 (by decide) (own_f0 ).1 (own_f0 ).2
  have V_b5_13 := V_b5_12.keep K13 (ninS ne_b5_b12 nin0)
  obtain ⟨T14, h14, L14, X14, e14, N14, Z14, K14, Vx14, st14⟩ := se1 p1 p2 p3 p4 p5 (3 : Int32) (own_wt p2) (own_wt p3) (own_wt p4) (own_wt p5) b5 b12 ((0 : Int32) + own_b (decide ((0 : Int32) < (own_wt p2)))) k12 (own_set (decide ((0 : Int32) < (own_wt p2))) [(.int (0 : Int32)), (.int (0 : Int32)), (.int (0 : Int32)), (.int (0 : Int32))] (0 : Int32) (0 : Int32)) X13 hx hZ hw hby hml hown e13 N13 Z13 Vx13 gb12 (by decide) (own_f1 (decide ((0 : Int32) < (own_wt p2)))).1 (own_f1 (decide ((0 : Int32) < (own_wt p2)))).2
  have V_b5_14 := V_b5_13.keep K14 (ninS ne_b5_b12 nin0)
  obtain ⟨T15, h15, L15, X15, e15, N15, Z15, K15, Vx15, st15⟩ := se2 p1 p2 p3 p4 p5 (3 : Int32) (own_wt p2) (own_wt p3) (own_wt p4) (own_wt p5) b5 b12 (((0 : Int32) + own_b (decide ((0 : Int32) < (own_wt p2)))) + own_b (decide ((0 : Int32) < (own_wt p3)))) k12 (own_set (decide ((0 : Int32) < (own_wt p3))) (own_set (decide ((0 : Int32) < (own_wt p2))) [(.int (0 : Int32)), (.int (0 : Int32)), (.int (0 : Int32)), (.int (0 : Int32))] (0 : Int32) (0 : Int32)) ((0 : Int32) + own_b (decide ((0 : Int32) < (own_wt p2)))) (1 : Int32)) X14 hx hZ hw hby hml hown e14 N14 Z14 Vx14 gb12 (by decide) (own_f2 (decide ((0 : Int32) < (own_wt p2))) (decide ((0 : Int32) < (own_wt p3)))).1 (own_f2 (decide ((0 : Int32) < (own_wt p2))) (decide ((0 : Int32) < (own_wt p3)))).2
  have V_b5_15 := V_b5_14.keep K15 (ninS ne_b5_b12 nin0)
  obtain ⟨_, _, ⟨T16, L16, k16, n16⟩, -, X16, ⟨Lc16, hQ16, l16, y16, z16⟩, st16⟩ := Jvm.LawKit.callS X15 hx (y := (⟨"com/example/steelyard/steelyard/Candidates", "positiveIndices", "([I)[I"⟩ : MethodName)) hown (mvT hZ (hw _ (List.mem_of_getElem? (i := 5) rfl))) (mvT hZ (hw _ (List.mem_of_getElem? (i := 6) rfl))) (mvT hZ (hw _ (List.mem_of_getElem? (i := 7) rfl))) (mvT hZ (hw _ (List.mem_of_getElem? (i := 8) rfl))) (by decide) (backOf (W := 0) (rmP3 l Z a0 hw [] b5 k5 (own_wt p2) (own_wt p3) (own_wt p4) h15 n0 Z15 V_b5_15) hZ (hw _ (List.mem_of_getElem? (i := 8) rfl)) (hw _ (List.mem_of_getElem? (i := 7) rfl)) (by decide) (by decide)) (g := (mkF m 232 #[.val (.int p1), .val (.int p2), .val (.int p3), .val (.int p4), .val (.int p5), .val (.int (3 : Int32)), .val (.int (own_wt p2)), .val (.int (own_wt p3)), .val (.int (own_wt p4)), .val (.int (own_wt p5)), .val (.ref b5), .val (.ref b12), .val (.int ((((0 : Int32) + own_b (decide ((0 : Int32) < (own_wt p2)))) + own_b (decide ((0 : Int32) < (own_wt p3)))) + own_b (decide ((0 : Int32) < (own_wt p4))))), .unset, .unset] [(.ref b5)])) rfl (by rw [hml]; rfl) (argsL := [(.ref b5)]) (rest := []) (lenOf pd_0_1 rfl) rfl (by show 2 * 0 + _ ≤ _; exact Nat.le_of_eq rfl) (hb hby at_232) (fun _ _ => ⟨rfl, e15, (by decide : 2 + 1 ≤ _), (by decide : 7 + 4 ≤ _)⟩)
  dsimp only [Pt.U, Pt.locs, Pt.cells, Pt.slots] at X16 l16 y16 z16 st16 hQ16
  subst l16 y16 z16
  obtain ⟨rfl, N16q, K16, kk16, Vt16⟩ := hQ16
  have N16 := Fr.app N15 N16q
  have V_b5_16 := V_b5_15.keep K16 nin0
  have V_b12_16 := Vx15.keep K16 nin0
  have Z16 : n0 ≤ T16.heap.size := Nat.le_trans Z15 K16.1
  obtain ⟨c16, gc16⟩ : ∃ z, z = h15.size := ⟨_, rfl⟩
  rw [← gc16] at st16 Vt16
  obtain ⟨cl17, Ar17, q17, S17, M17, H17, G17⟩ := id Vt16
  obtain ⟨z18, hz18⟩ := own_u3_0 (decide ((0 : Int32) < (own_wt p2))) (decide ((0 : Int32) < (own_wt p3))) (decide ((0 : Int32) < (own_wt p4)))
  obtain ⟨z19, hz19⟩ := own_u3_1 (decide ((0 : Int32) < (own_wt p2))) (decide ((0 : Int32) < (own_wt p3))) (decide ((0 : Int32) < (own_wt p4)))
  obtain ⟨z20, hz20⟩ := own_u3_2 (decide ((0 : Int32) < (own_wt p2))) (decide ((0 : Int32) < (own_wt p3))) (decide ((0 : Int32) < (own_wt p4)))
  obtain ⟨z21, hz21⟩ := own_u3_3 (decide ((0 : Int32) < (own_wt p2))) (decide ((0 : Int32) < (own_wt p3))) (decide ((0 : Int32) < (own_wt p4)))
  obtain ⟨fs, hr, hrun, hended, hW, hsame⟩ := X16.leave (v := some (.int (1 : Int32))) (fun h => by rw [Bd.returns] at h; cases h)
  refine ⟨_, _, pre0 _ ?_, hrun, hended, _, _, rfl, ?_, ⟨_, rfl⟩, hW, hsame.mono (by decide) (by decide)⟩
  · show Steps p.tables e below (s₁.setTop (mkF m 0 #[.val (.int p1), .val (.int p2), .val (.int p3), .val (.int p4), .val (.int p5), .unset, .unset, .unset, .unset, .unset, .unset, .unset, .unset, .unset, .unset] [])) _
    refine XS.iloadN X0.here hx rfl (hb hby at_0) rfl ?_
    show Steps p.tables e below (s₁.setTop (mkF m 1 #[.val (.int p1), .val (.int p2), .val (.int p3), .val (.int p4), .val (.int p5), .unset, .unset, .unset, .unset, .unset, .unset, .unset, .unset, .unset, .unset] [(.int p1)])) _
    refine XS.bipush X0.here hx rfl (hb hby at_1) ?_
    show Steps p.tables e below (s₁.setTop (mkF m 3 #[.val (.int p1), .val (.int p2), .val (.int p3), .val (.int p4), .val (.int p5), .unset, .unset, .unset, .unset, .unset, .unset, .unset, .unset, .unset, .unset] [(.int (7 : Int32)), (.int p1)])) _
    refine XS.iand X0.here hx rfl (hb hby at_3) rfl ?_
    show Steps p.tables e below (s₁.setTop (mkF m 4 #[.val (.int p1), .val (.int p2), .val (.int p3), .val (.int p4), .val (.int p5), .unset, .unset, .unset, .unset, .unset, .unset, .unset, .unset, .unset, .unset] [(.int (p1 &&& (7 : Int32)))])) _
    refine XS.iconst X0.here hx rfl (hb hby at_4) ?_
    show Steps p.tables e below (s₁.setTop (mkF m 5 #[.val (.int p1), .val (.int p2), .val (.int p3), .val (.int p4), .val (.int p5), .unset, .unset, .unset, .unset, .unset, .unset, .unset, .unset, .unset, .unset] [(.int (5 : Int32)), (.int (p1 &&& (7 : Int32)))])) _
    refine iremM X0 hx (g := (mkF m 5 #[.val (.int p1), .val (.int p2), .val (.int p3), .val (.int p4), .val (.int p5), .unset, .unset, .unset, .unset, .unset, .unset, .unset, .unset, .unset, .unset] [(.int (5 : Int32)), (.int (p1 &&& (7 : Int32)))])) rfl (hb hby at_5) rfl (by decide) ?_
    show Steps p.tables e below (s₁.setTop (mkF m 6 #[.val (.int p1), .val (.int p2), .val (.int p3), .val (.int p4), .val (.int p5), .unset, .unset, .unset, .unset, .unset, .unset, .unset, .unset, .unset, .unset] [(.int ((p1 &&& (7 : Int32)) % (5 : Int32)))])) _
    rw [hn]
    show Steps p.tables e below (s₁.setTop (mkF m 6 #[.val (.int p1), .val (.int p2), .val (.int p3), .val (.int p4), .val (.int p5), .unset, .unset, .unset, .unset, .unset, .unset, .unset, .unset, .unset, .unset] [(.int (3 : Int32))])) _
    refine XS.istore X0.here hx rfl (hb hby at_6) rfl (l' := #[.val (.int p1), .val (.int p2), .val (.int p3), .val (.int p4), .val (.int p5), .val (.int (3 : Int32)), .unset, .unset, .unset, .unset, .unset, .unset, .unset, .unset, .unset]) rfl ?_
    show Steps p.tables e below (s₁.setTop (mkF m 8 #[.val (.int p1), .val (.int p2), .val (.int p3), .val (.int p4), .val (.int p5), .val (.int (3 : Int32)), .unset, .unset, .unset, .unset, .unset, .unset, .unset, .unset, .unset] [])) _
    refine XS.iloadN X0.here hx rfl (hb hby at_8) rfl ?_
    show Steps p.tables e below (s₁.setTop (mkF m 9 #[.val (.int p1), .val (.int p2), .val (.int p3), .val (.int p4), .val (.int p5), .val (.int (3 : Int32)), .unset, .unset, .unset, .unset, .unset, .unset, .unset, .unset, .unset] [(.int p2)])) _
    refine st1 _ ?_
    show Steps p.tables e below (T1.setTop (mkF m 12 #[.val (.int p1), .val (.int p2), .val (.int p3), .val (.int p4), .val (.int p5), .val (.int (3 : Int32)), .unset, .unset, .unset, .unset, .unset, .unset, .unset, .unset, .unset] [(.int (own_wt p2))])) _
    refine XS.istore X1.here hx rfl (hb hby at_12) rfl (l' := #[.val (.int p1), .val (.int p2), .val (.int p3), .val (.int p4), .val (.int p5), .val (.int (3 : Int32)), .val (.int (own_wt p2)), .unset, .unset, .unset, .unset, .unset, .unset, .unset, .unset]) rfl ?_
    show Steps p.tables e below (T1.setTop (mkF m 14 #[.val (.int p1), .val (.int p2), .val (.int p3), .val (.int p4), .val (.int p5), .val (.int (3 : Int32)), .val (.int (own_wt p2)), .unset, .unset, .unset, .unset, .unset, .unset, .unset, .unset] [])) _
    refine XS.iloadN X1.here hx rfl (hb hby at_14) rfl ?_
    show Steps p.tables e below (T1.setTop (mkF m 15 #[.val (.int p1), .val (.int p2), .val (.int p3), .val (.int p4), .val (.int p5), .val (.int (3 : Int32)), .val (.int (own_wt p2)), .unset, .unset, .unset, .unset, .unset, .unset, .unset, .unset] [(.int p3)])) _
    refine st2 _ ?_
    show Steps p.tables e below (T2.setTop (mkF m 18 #[.val (.int p1), .val (.int p2), .val (.int p3), .val (.int p4), .val (.int p5), .val (.int (3 : Int32)), .val (.int (own_wt p2)), .unset, .unset, .unset, .unset, .unset, .unset, .unset, .unset] [(.int (own_wt p3))])) _
    refine XS.istore X2.here hx rfl (hb hby at_18) rfl (l' := #[.val (.int p1), .val (.int p2), .val (.int p3), .val (.int p4), .val (.int p5), .val (.int (3 : Int32)), .val (.int (own_wt p2)), .val (.int (own_wt p3)), .unset, .unset, .unset, .unset, .unset, .unset, .unset]) rfl ?_
    show Steps p.tables e below (T2.setTop (mkF m 20 #[.val (.int p1), .val (.int p2), .val (.int p3), .val (.int p4), .val (.int p5), .val (.int (3 : Int32)), .val (.int (own_wt p2)), .val (.int (own_wt p3)), .unset, .unset, .unset, .unset, .unset, .unset, .unset] [])) _
    refine XS.iloadN X2.here hx rfl (hb hby at_20) rfl ?_
    show Steps p.tables e below (T2.setTop (mkF m 21 #[.val (.int p1), .val (.int p2), .val (.int p3), .val (.int p4), .val (.int p5), .val (.int (3 : Int32)), .val (.int (own_wt p2)), .val (.int (own_wt p3)), .unset, .unset, .unset, .unset, .unset, .unset, .unset] [(.int p4)])) _
    refine st3 _ ?_
    show Steps p.tables e below (T3.setTop (mkF m 24 #[.val (.int p1), .val (.int p2), .val (.int p3), .val (.int p4), .val (.int p5), .val (.int (3 : Int32)), .val (.int (own_wt p2)), .val (.int (own_wt p3)), .unset, .unset, .unset, .unset, .unset, .unset, .unset] [(.int (own_wt p4))])) _
    refine XS.istore X3.here hx rfl (hb hby at_24) rfl (l' := #[.val (.int p1), .val (.int p2), .val (.int p3), .val (.int p4), .val (.int p5), .val (.int (3 : Int32)), .val (.int (own_wt p2)), .val (.int (own_wt p3)), .val (.int (own_wt p4)), .unset, .unset, .unset, .unset, .unset, .unset]) rfl ?_
    show Steps p.tables e below (T3.setTop (mkF m 26 #[.val (.int p1), .val (.int p2), .val (.int p3), .val (.int p4), .val (.int p5), .val (.int (3 : Int32)), .val (.int (own_wt p2)), .val (.int (own_wt p3)), .val (.int (own_wt p4)), .unset, .unset, .unset, .unset, .unset, .unset] [])) _
    refine XS.iload X3.here hx rfl (hb hby at_26) rfl ?_
    show Steps p.tables e below (T3.setTop (mkF m 28 #[.val (.int p1), .val (.int p2), .val (.int p3), .val (.int p4), .val (.int p5), .val (.int (3 : Int32)), .val (.int (own_wt p2)), .val (.int (own_wt p3)), .val (.int (own_wt p4)), .unset, .unset, .unset, .unset, .unset, .unset] [(.int p5)])) _
    refine st4 _ ?_
    show Steps p.tables e below (T4.setTop (mkF m 31 #[.val (.int p1), .val (.int p2), .val (.int p3), .val (.int p4), .val (.int p5), .val (.int (3 : Int32)), .val (.int (own_wt p2)), .val (.int (own_wt p3)), .val (.int (own_wt p4)), .unset, .unset, .unset, .unset, .unset, .unset] [(.int (own_wt p5))])) _
    refine XS.istore X4.here hx rfl (hb hby at_31) rfl (l' := #[.val (.int p1), .val (.int p2), .val (.int p3), .val (.int p4), .val (.int p5), .val (.int (3 : Int32)), .val (.int (own_wt p2)), .val (.int (own_wt p3)), .val (.int (own_wt p4)), .val (.int (own_wt p5)), .unset, .unset, .unset, .unset, .unset]) rfl ?_
    show Steps p.tables e below (T4.setTop (mkF m 33 #[.val (.int p1), .val (.int p2), .val (.int p3), .val (.int p4), .val (.int p5), .val (.int (3 : Int32)), .val (.int (own_wt p2)), .val (.int (own_wt p3)), .val (.int (own_wt p4)), .val (.int (own_wt p5)), .unset, .unset, .unset, .unset, .unset] [])) _
    refine XS.iload X4.here hx rfl (hb hby at_33) rfl ?_
    show Steps p.tables e below (T4.setTop (mkF m 35 #[.val (.int p1), .val (.int p2), .val (.int p3), .val (.int p4), .val (.int p5), .val (.int (3 : Int32)), .val (.int (own_wt p2)), .val (.int (own_wt p3)), .val (.int (own_wt p4)), .val (.int (own_wt p5)), .unset, .unset, .unset, .unset, .unset] [(.int (3 : Int32))])) _
    refine XS.ifYes X4.here hx rfl (pc0 := 35) (pc' := 46) rfl (hb hby at_35) rfl ((if0 _ _).trans (feq ((by decide) : ¬ ((3 : Int32) = (0 : Int32)))).2) (by decide) (by decide) ?_
    show Steps p.tables e below (T4.setTop (mkF m 46 #[.val (.int p1), .val (.int p2), .val (.int p3), .val (.int p4), .val (.int p5), .val (.int (3 : Int32)), .val (.int (own_wt p2)), .val (.int (own_wt p3)), .val (.int (own_wt p4)), .val (.int (own_wt p5)), .unset, .unset, .unset, .unset, .unset] [])) _
    refine XS.iload X4.here hx rfl (hb hby at_46) rfl ?_
    show Steps p.tables e below (T4.setTop (mkF m 48 #[.val (.int p1), .val (.int p2), .val (.int p3), .val (.int p4), .val (.int p5), .val (.int (3 : Int32)), .val (.int (own_wt p2)), .val (.int (own_wt p3)), .val (.int (own_wt p4)), .val (.int (own_wt p5)), .unset, .unset, .unset, .unset, .unset] [(.int (3 : Int32))])) _
    refine XS.iconst X4.here hx rfl (hb hby at_48) ?_
    show Steps p.tables e below (T4.setTop (mkF m 49 #[.val (.int p1), .val (.int p2), .val (.int p3), .val (.int p4), .val (.int p5), .val (.int (3 : Int32)), .val (.int (own_wt p2)), .val (.int (own_wt p3)), .val (.int (own_wt p4)), .val (.int (own_wt p5)), .unset, .unset, .unset, .unset, .unset] [(.int (1 : Int32)), (.int (3 : Int32))])) _
    refine XS.icmpYes X4.here hx rfl (pc0 := 49) (pc' := 65) rfl (hb hby at_49) rfl (feq ((by decide) : ¬ ((3 : Int32) = (1 : Int32)))).2 (by decide) (by decide) ?_
    show Steps p.tables e below (T4.setTop (mkF m 65 #[.val (.int p1), .val (.int p2), .val (.int p3), .val (.int p4), .val (.int p5), .val (.int (3 : Int32)), .val (.int (own_wt p2)), .val (.int (own_wt p3)), .val (.int (own_wt p4)), .val (.int (own_wt p5)), .unset, .unset, .unset, .unset, .unset] [])) _
    refine XS.iload X4.here hx rfl (hb hby at_65) rfl ?_
    show Steps p.tables e below (T4.setTop (mkF m 67 #[.val (.int p1), .val (.int p2), .val (.int p3), .val (.int p4), .val (.int p5), .val (.int (3 : Int32)), .val (.int (own_wt p2)), .val (.int (own_wt p3)), .val (.int (own_wt p4)), .val (.int (own_wt p5)), .unset, .unset, .unset, .unset, .unset] [(.int (3 : Int32))])) _
    refine XS.iconst X4.here hx rfl (hb hby at_67) ?_
    show Steps p.tables e below (T4.setTop (mkF m 68 #[.val (.int p1), .val (.int p2), .val (.int p3), .val (.int p4), .val (.int p5), .val (.int (3 : Int32)), .val (.int (own_wt p2)), .val (.int (own_wt p3)), .val (.int (own_wt p4)), .val (.int (own_wt p5)), .unset, .unset, .unset, .unset, .unset] [(.int (2 : Int32)), (.int (3 : Int32))])) _
    refine XS.icmpYes X4.here hx rfl (pc0 := 68) (pc' := 89) rfl (hb hby at_68) rfl (feq ((by decide) : ¬ ((3 : Int32) = (2 : Int32)))).2 (by decide) (by decide) ?_
    show Steps p.tables e below (T4.setTop (mkF m 89 #[.val (.int p1), .val (.int p2), .val (.int p3), .val (.int p4), .val (.int p5), .val (.int (3 : Int32)), .val (.int (own_wt p2)), .val (.int (own_wt p3)), .val (.int (own_wt p4)), .val (.int (own_wt p5)), .unset, .unset, .unset, .unset, .unset] [])) _
    refine XS.iload X4.here hx rfl (hb hby at_89) rfl ?_
    show Steps p.tables e below (T4.setTop (mkF m 91 #[.val (.int p1), .val (.int p2), .val (.int p3), .val (.int p4), .val (.int p5), .val (.int (3 : Int32)), .val (.int (own_wt p2)), .val (.int (own_wt p3)), .val (.int (own_wt p4)), .val (.int (own_wt p5)), .unset, .unset, .unset, .unset, .unset] [(.int (3 : Int32))])) _
    refine XS.iconst X4.here hx rfl (hb hby at_91) ?_
    show Steps p.tables e below (T4.setTop (mkF m 92 #[.val (.int p1), .val (.int p2), .val (.int p3), .val (.int p4), .val (.int p5), .val (.int (3 : Int32)), .val (.int (own_wt p2)), .val (.int (own_wt p3)), .val (.int (own_wt p4)), .val (.int (own_wt p5)), .unset, .unset, .unset, .unset, .unset] [(.int (3 : Int32)), (.int (3 : Int32))])) _
    refine XS.icmpNo X4.here hx rfl (hb hby at_92) rfl (teq ((by decide) : (3 : Int32) = (3 : Int32))).2 ?_
    show Steps p.tables e below (T4.setTop (mkF m 95 #[.val (.int p1), .val (.int p2), .val (.int p3), .val (.int p4), .val (.int p5), .val (.int (3 : Int32)), .val (.int (own_wt p2)), .val (.int (own_wt p3)), .val (.int (own_wt p4)), .val (.int (own_wt p5)), .unset, .unset, .unset, .unset, .unset] [])) _
    refine XS.iconst X4.here hx rfl (hb hby at_95) ?_
    show Steps p.tables e below (T4.setTop (mkF m 96 #[.val (.int p1), .val (.int p2), .val (.int p3), .val (.int p4), .val (.int p5), .val (.int (3 : Int32)), .val (.int (own_wt p2)), .val (.int (own_wt p3)), .val (.int (own_wt p4)), .val (.int (own_wt p5)), .unset, .unset, .unset, .unset, .unset] [(.int (3 : Int32))])) _
    refine st5 _ ?_
    show Steps p.tables e below (T5.setTop (mkF m 98 #[.val (.int p1), .val (.int p2), .val (.int p3), .val (.int p4), .val (.int p5), .val (.int (3 : Int32)), .val (.int (own_wt p2)), .val (.int (own_wt p3)), .val (.int (own_wt p4)), .val (.int (own_wt p5)), .unset, .unset, .unset, .unset, .unset] [(.ref b5)])) _
    refine XS.dup X5.here hx rfl (hb hby at_98) rfl rfl ?_
    show Steps p.tables e below (T5.setTop (mkF m 99 #[.val (.int p1), .val (.int p2), .val (.int p3), .val (.int p4), .val (.int p5), .val (.int (3 : Int32)), .val (.int (own_wt p2)), .val (.int (own_wt p3)), .val (.int (own_wt p4)), .val (.int (own_wt p5)), .unset, .unset, .unset, .unset, .unset] [(.ref b5), (.ref b5)])) _
    refine XS.iconst X5.here hx rfl (hb hby at_99) ?_
    show Steps p.tables e below (T5.setTop (mkF m 100 #[.val (.int p1), .val (.int p2), .val (.int p3), .val (.int p4), .val (.int p5), .val (.int (3 : Int32)), .val (.int (own_wt p2)), .val (.int (own_wt p3)), .val (.int (own_wt p4)), .val (.int (own_wt p5)), .unset, .unset, .unset, .unset, .unset] [(.int (0 : Int32)), (.ref b5), (.ref b5)])) _
    refine XS.iload X5.here hx rfl (hb hby at_100) rfl ?_
    show Steps p.tables e below (T5.setTop (mkF m 102 #[.val (.int p1), .val (.int p2), .val (.int p3), .val (.int p4), .val (.int p5), .val (.int (3 : Int32)), .val (.int (own_wt p2)), .val (.int (own_wt p3)), .val (.int (own_wt p4)), .val (.int (own_wt p5)), .unset, .unset, .unset, .unset, .unset] [(.int (own_wt p2)), (.int (0 : Int32)), (.ref b5), (.ref b5)])) _
    refine st7 _ ?_
    show Steps p.tables e below (T7.setTop (mkF m 103 #[.val (.int p1), .val (.int p2), .val (.int p3), .val (.int p4), .val (.int p5), .val (.int (3 : Int32)), .val (.int (own_wt p2)), .val (.int (own_wt p3)), .val (.int (own_wt p4)), .val (.int (own_wt p5)), .unset, .unset, .unset, .unset, .unset] [(.ref b5)])) _
    refine XS.dup X7.here hx rfl (hb hby at_103) rfl rfl ?_
    show Steps p.tables e below (T7.setTop (mkF m 104 #[.val (.int p1), .val (.int p2), .val (.int p3), .val (.int p4), .val (.int p5), .val (.int (3 : Int32)), .val (.int (own_wt p2)), .val (.int (own_wt p3)), .val (.int (own_wt p4)), .val (.int (own_wt p5)), .unset, .unset, .unset, .unset, .unset] [(.ref b5), (.ref b5)])) _
    refine XS.iconst X7.here hx rfl (hb hby at_104) ?_
    show Steps p.tables e below (T7.setTop (mkF m 105 #[.val (.int p1), .val (.int p2), .val (.int p3), .val (.int p4), .val (.int p5), .val (.int (3 : Int32)), .val (.int (own_wt p2)), .val (.int (own_wt p3)), .val (.int (own_wt p4)), .val (.int (own_wt p5)), .unset, .unset, .unset, .unset, .unset] [(.int (1 : Int32)), (.ref b5), (.ref b5)])) _
    refine XS.iload X7.here hx rfl (hb hby at_105) rfl ?_
    show Steps p.tables e below (T7.setTop (mkF m 107 #[.val (.int p1), .val (.int p2), .val (.int p3), .val (.int p4), .val (.int p5), .val (.int (3 : Int32)), .val (.int (own_wt p2)), .val (.int (own_wt p3)), .val (.int (own_wt p4)), .val (.int (own_wt p5)), .unset, .unset, .unset, .unset, .unset] [(.int (own_wt p3)), (.int (1 : Int32)), (.ref b5), (.ref b5)])) _
    refine st9 _ ?_
    show Steps p.tables e below (T9.setTop (mkF m 108 #[.val (.int p1), .val (.int p2), .val (.int p3), .val (.int p4), .val (.int p5), .val (.int (3 : Int32)), .val (.int (own_wt p2)), .val (.int (own_wt p3)), .val (.int (own_wt p4)), .val (.int (own_wt p5)), .unset, .unset, .unset, .unset, .unset] [(.ref b5)])) _
    refine XS.dup X9.here hx rfl (hb hby at_108) rfl rfl ?_
    show Steps p.tables e below (T9.setTop (mkF m 109 #[.val (.int p1), .val (.int p2), .val (.int p3), .val (.int p4), .val (.int p5), .val (.int (3 : Int32)), .val (.int (own_wt p2)), .val (.int (own_wt p3)), .val (.int (own_wt p4)), .val (.int (own_wt p5)), .unset, .unset, .unset, .unset, .unset] [(.ref b5), (.ref b5)])) _
    refine XS.iconst X9.here hx rfl (hb hby at_109) ?_
    show Steps p.tables e below (T9.setTop (mkF m 110 #[.val (.int p1), .val (.int p2), .val (.int p3), .val (.int p4), .val (.int p5), .val (.int (3 : Int32)), .val (.int (own_wt p2)), .val (.int (own_wt p3)), .val (.int (own_wt p4)), .val (.int (own_wt p5)), .unset, .unset, .unset, .unset, .unset] [(.int (2 : Int32)), (.ref b5), (.ref b5)])) _
    refine XS.iload X9.here hx rfl (hb hby at_110) rfl ?_
    show Steps p.tables e below (T9.setTop (mkF m 112 #[.val (.int p1), .val (.int p2), .val (.int p3), .val (.int p4), .val (.int p5), .val (.int (3 : Int32)), .val (.int (own_wt p2)), .val (.int (own_wt p3)), .val (.int (own_wt p4)), .val (.int (own_wt p5)), .unset, .unset, .unset, .unset, .unset] [(.int (own_wt p4)), (.int (2 : Int32)), (.ref b5), (.ref b5)])) _
    refine st11 _ ?_
    show Steps p.tables e below (T11.setTop (mkF m 113 #[.val (.int p1), .val (.int p2), .val (.int p3), .val (.int p4), .val (.int p5), .val (.int (3 : Int32)), .val (.int (own_wt p2)), .val (.int (own_wt p3)), .val (.int (own_wt p4)), .val (.int (own_wt p5)), .unset, .unset, .unset, .unset, .unset] [(.ref b5)])) _
    refine XS.astore X11.here hx rfl (hb hby at_113) rfl rfl (l' := #[.val (.int p1), .val (.int p2), .val (.int p3), .val (.int p4), .val (.int p5), .val (.int (3 : Int32)), .val (.int (own_wt p2)), .val (.int (own_wt p3)), .val (.int (own_wt p4)), .val (.int (own_wt p5)), .val (.ref b5), .unset, .unset, .unset, .unset]) rfl ?_
    show Steps p.tables e below (T11.setTop (mkF m 115 #[.val (.int p1), .val (.int p2), .val (.int p3), .val (.int p4), .val (.int p5), .val (.int (3 : Int32)), .val (.int (own_wt p2)), .val (.int (own_wt p3)), .val (.int (own_wt p4)), .val (.int (own_wt p5)), .val (.ref b5), .unset, .unset, .unset, .unset] [])) _
    refine XS.goto X11.here hx rfl (pc0 := 115) (pc' := 143) rfl (hb hby at_115) (by decide) (by decide) ?_
    show Steps p.tables e below (T11.setTop (mkF m 143 #[.val (.int p1), .val (.int p2), .val (.int p3), .val (.int p4), .val (.int p5), .val (.int (3 : Int32)), .val (.int (own_wt p2)), .val (.int (own_wt p3)), .val (.int (own_wt p4)), .val (.int (own_wt p5)), .val (.ref b5), .unset, .unset, .unset, .unset] [])) _
    refine XS.iconst X11.here hx rfl (hb hby at_143) ?_
    show Steps p.tables e below (T11.setTop (mkF m 144 #[.val (.int p1), .val (.int p2), .val (.int p3), .val (.int p4), .val (.int p5), .val (.int (3 : Int32)), .val (.int (own_wt p2)), .val (.int (own_wt p3)), .val (.int (own_wt p4)), .val (.int (own_wt p5)), .val (.ref b5), .unset, .unset, .unset, .unset] [(.int (4 : Int32))])) _
    refine st12 _ ?_
    show Steps p.tables e below (T12.setTop (mkF m 146 #[.val (.int p1), .val (.int p2), .val (.int p3), .val (.int p4), .val (.int p5), .val (.int (3 : Int32)), .val (.int (own_wt p2)), .val (.int (own_wt p3)), .val (.int (own_wt p4)), .val (.int (own_wt p5)), .val (.ref b5), .unset, .unset, .unset, .unset] [(.ref b12)])) _
    refine XS.astore X12.here hx rfl (hb hby at_146) rfl rfl (l' := #[.val (.int p1), .val (.int p2), .val (.int p3), .val (.int p4), .val (.int p5), .val (.int (3 : Int32)), .val (.int (own_wt p2)), .val (.int (own_wt p3)), .val (.int (own_wt p4)), .val (.int (own_wt p5)), .val (.ref b5), .val (.ref b12), .unset, .unset, .unset]) rfl ?_
    show Steps p.tables e below (T12.setTop (mkF m 148 #[.val (.int p1), .val (.int p2), .val (.int p3), .val (.int p4), .val (.int p5), .val (.int (3 : Int32)), .val (.int (own_wt p2)), .val (.int (own_wt p3)), .val (.int (own_wt p4)), .val (.int (own_wt p5)), .val (.ref b5), .val (.ref b12), .unset, .unset, .unset] [])) _
    refine XS.iconst X12.here hx rfl (hb hby at_148) ?_
    show Steps p.tables e below (T12.setTop (mkF m 149 #[.val (.int p1), .val (.int p2), .val (.int p3), .val (.int p4), .val (.int p5), .val (.int (3 : Int32)), .val (.int (own_wt p2)), .val (.int (own_wt p3)), .val (.int (own_wt p4)), .val (.int (own_wt p5)), .val (.ref b5), .val (.ref b12), .unset, .unset, .unset] [(.int (0 : Int32))])) _
    refine XS.istore X12.here hx rfl (hb hby at_149) rfl (l' := #[.val (.int p1), .val (.int p2), .val (.int p3), .val (.int p4), .val (.int p5), .val (.int (3 : Int32)), .val (.int (own_wt p2)), .val (.int (own_wt p3)), .val (.int (own_wt p4)), .val (.int (own_wt p5)), .val (.ref b5), .val (.ref b12), .val (.int (0 : Int32)), .unset, .unset]) rfl ?_
    show Steps p.tables e below (T12.setTop (mkF m 151 #[.val (.int p1), .val (.int p2), .val (.int p3), .val (.int p4), .val (.int p5), .val (.int (3 : Int32)), .val (.int (own_wt p2)), .val (.int (own_wt p3)), .val (.int (own_wt p4)), .val (.int (own_wt p5)), .val (.ref b5), .val (.ref b12), .val (.int (0 : Int32)), .unset, .unset] [])) _
    refine st13 _ ?_
    show Steps p.tables e below (T13.setTop (mkF m 170 #[.val (.int p1), .val (.int p2), .val (.int p3), .val (.int p4), .val (.int p5), .val (.int (3 : Int32)), .val (.int (own_wt p2)), .val (.int (own_wt p3)), .val (.int (own_wt p4)), .val (.int (own_wt p5)), .val (.ref b5), .val (.ref b12), .val (.int ((0 : Int32) + own_b (decide ((0 : Int32) < (own_wt p2))))), .unset, .unset] [])) _
    refine st14 _ ?_
    show Steps p.tables e below (T14.setTop (mkF m 190 #[.val (.int p1), .val (.int p2), .val (.int p3), .val (.int p4), .val (.int p5), .val (.int (3 : Int32)), .val (.int (own_wt p2)), .val (.int (own_wt p3)), .val (.int (own_wt p4)), .val (.int (own_wt p5)), .val (.ref b5), .val (.ref b12), .val (.int (((0 : Int32) + own_b (decide ((0 : Int32) < (own_wt p2)))) + own_b (decide ((0 : Int32) < (own_wt p3))))), .unset, .unset] [])) _
    refine st15 _ ?_
    show Steps p.tables e below (T15.setTop (mkF m 210 #[.val (.int p1), .val (.int p2), .val (.int p3), .val (.int p4), .val (.int p5), .val (.int (3 : Int32)), .val (.int (own_wt p2)), .val (.int (own_wt p3)), .val (.int (own_wt p4)), .val (.int (own_wt p5)), .val (.ref b5), .val (.ref b12), .val (.int ((((0 : Int32) + own_b (decide ((0 : Int32) < (own_wt p2)))) + own_b (decide ((0 : Int32) < (own_wt p3)))) + own_b (decide ((0 : Int32) < (own_wt p4))))), .unset, .unset] [])) _
    refine XS.iload X15.here hx rfl (hb hby at_210) rfl ?_
    show Steps p.tables e below (T15.setTop (mkF m 212 #[.val (.int p1), .val (.int p2), .val (.int p3), .val (.int p4), .val (.int p5), .val (.int (3 : Int32)), .val (.int (own_wt p2)), .val (.int (own_wt p3)), .val (.int (own_wt p4)), .val (.int (own_wt p5)), .val (.ref b5), .val (.ref b12), .val (.int ((((0 : Int32) + own_b (decide ((0 : Int32) < (own_wt p2)))) + own_b (decide ((0 : Int32) < (own_wt p3)))) + own_b (decide ((0 : Int32) < (own_wt p4))))), .unset, .unset] [(.int (3 : Int32))])) _
    refine XS.iconst X15.here hx rfl (hb hby at_212) ?_
    show Steps p.tables e below (T15.setTop (mkF m 213 #[.val (.int p1), .val (.int p2), .val (.int p3), .val (.int p4), .val (.int p5), .val (.int (3 : Int32)), .val (.int (own_wt p2)), .val (.int (own_wt p3)), .val (.int (own_wt p4)), .val (.int (own_wt p5)), .val (.ref b5), .val (.ref b12), .val (.int ((((0 : Int32) + own_b (decide ((0 : Int32) < (own_wt p2)))) + own_b (decide ((0 : Int32) < (own_wt p3)))) + own_b (decide ((0 : Int32) < (own_wt p4))))), .unset, .unset] [(.int (3 : Int32)), (.int (3 : Int32))])) _
    refine XS.icmpYes X15.here hx rfl (pc0 := 213) (pc' := 230) rfl (hb hby at_213) rfl (flt ((by decide) : ¬ ((3 : Int32) < (3 : Int32)))).2.2.2 (by decide) (by decide) ?_
    show Steps p.tables e below (T15.setTop (mkF m 230 #[.val (.int p1), .val (.int p2), .val (.int p3), .val (.int p4), .val (.int p5), .val (.int (3 : Int32)), .val (.int (own_wt p2)), .val (.int (own_wt p3)), .val (.int (own_wt p4)), .val (.int (own_wt p5)), .val (.ref b5), .val (.ref b12), .val (.int ((((0 : Int32) + own_b (decide ((0 : Int32) < (own_wt p2)))) + own_b (decide ((0 : Int32) < (own_wt p3)))) + own_b (decide ((0 : Int32) < (own_wt p4))))), .unset, .unset] [])) _
    refine XS.aload X15.here hx rfl (hb hby at_230) rfl rfl ?_
    show Steps p.tables e below (T15.setTop (mkF m 232 #[.val (.int p1), .val (.int p2), .val (.int p3), .val (.int p4), .val (.int p5), .val (.int (3 : Int32)), .val (.int (own_wt p2)), .val (.int (own_wt p3)), .val (.int (own_wt p4)), .val (.int (own_wt p5)), .val (.ref b5), .val (.ref b12), .val (.int ((((0 : Int32) + own_b (decide ((0 : Int32) < (own_wt p2)))) + own_b (decide ((0 : Int32) < (own_wt p3)))) + own_b (decide ((0 : Int32) < (own_wt p4))))), .unset, .unset] [(.ref b5)])) _
    refine st16 _ ?_
    show Steps p.tables e below (T16.setTop (mkF m 235 #[.val (.int p1), .val (.int p2), .val (.int p3), .val (.int p4), .val (.int p5), .val (.int (3 : Int32)), .val (.int (own_wt p2)), .val (.int (own_wt p3)), .val (.int (own_wt p4)), .val (.int (own_wt p5)), .val (.ref b5), .val (.ref b12), .val (.int ((((0 : Int32) + own_b (decide ((0 : Int32) < (own_wt p2)))) + own_b (decide ((0 : Int32) < (own_wt p3)))) + own_b (decide ((0 : Int32) < (own_wt p4))))), .unset, .unset] [(.ref c16)])) _
    refine XS.astore X16.here hx rfl (hb hby at_235) rfl rfl (l' := #[.val (.int p1), .val (.int p2), .val (.int p3), .val (.int p4), .val (.int p5), .val (.int (3 : Int32)), .val (.int (own_wt p2)), .val (.int (own_wt p3)), .val (.int (own_wt p4)), .val (.int (own_wt p5)), .val (.ref b5), .val (.ref b12), .val (.int ((((0 : Int32) + own_b (decide ((0 : Int32) < (own_wt p2)))) + own_b (decide ((0 : Int32) < (own_wt p3)))) + own_b (decide ((0 : Int32) < (own_wt p4))))), .val (.ref c16), .unset]) rfl ?_
    show Steps p.tables e below (T16.setTop (mkF m 237 #[.val (.int p1), .val (.int p2), .val (.int p3), .val (.int p4), .val (.int p5), .val (.int (3 : Int32)), .val (.int (own_wt p2)), .val (.int (own_wt p3)), .val (.int (own_wt p4)), .val (.int (own_wt p5)), .val (.ref b5), .val (.ref b12), .val (.int ((((0 : Int32) + own_b (decide ((0 : Int32) < (own_wt p2)))) + own_b (decide ((0 : Int32) < (own_wt p3)))) + own_b (decide ((0 : Int32) < (own_wt p4))))), .val (.ref c16), .unset] [])) _
    refine XS.aload X16.here hx rfl (hb hby at_237) rfl rfl ?_
    show Steps p.tables e below (T16.setTop (mkF m 239 #[.val (.int p1), .val (.int p2), .val (.int p3), .val (.int p4), .val (.int p5), .val (.int (3 : Int32)), .val (.int (own_wt p2)), .val (.int (own_wt p3)), .val (.int (own_wt p4)), .val (.int (own_wt p5)), .val (.ref b5), .val (.ref b12), .val (.int ((((0 : Int32) + own_b (decide ((0 : Int32) < (own_wt p2)))) + own_b (decide ((0 : Int32) < (own_wt p3)))) + own_b (decide ((0 : Int32) < (own_wt p4))))), .val (.ref c16), .unset] [(.ref c16)])) _
    refine XS.ifnullNo X16.here hx rfl (hb hby at_239) rfl ?_
    show Steps p.tables e below (T16.setTop (mkF m 242 #[.val (.int p1), .val (.int p2), .val (.int p3), .val (.int p4), .val (.int p5), .val (.int (3 : Int32)), .val (.int (own_wt p2)), .val (.int (own_wt p3)), .val (.int (own_wt p4)), .val (.int (own_wt p5)), .val (.ref b5), .val (.ref b12), .val (.int ((((0 : Int32) + own_b (decide ((0 : Int32) < (own_wt p2)))) + own_b (decide ((0 : Int32) < (own_wt p3)))) + own_b (decide ((0 : Int32) < (own_wt p4))))), .val (.ref c16), .unset] [])) _
    refine XS.aload X16.here hx rfl (hb hby at_242) rfl rfl ?_
    show Steps p.tables e below (T16.setTop (mkF m 244 #[.val (.int p1), .val (.int p2), .val (.int p3), .val (.int p4), .val (.int p5), .val (.int (3 : Int32)), .val (.int (own_wt p2)), .val (.int (own_wt p3)), .val (.int (own_wt p4)), .val (.int (own_wt p5)), .val (.ref b5), .val (.ref b12), .val (.int ((((0 : Int32) + own_b (decide ((0 : Int32) < (own_wt p2)))) + own_b (decide ((0 : Int32) < (own_wt p3)))) + own_b (decide ((0 : Int32) < (own_wt p4))))), .val (.ref c16), .unset] [(.ref c16)])) _
    refine X16.arraylength hx Ar17.1 (State.isArrayOf_alike hZ.alike Ar17.2.1) (g := (mkF m 244 #[.val (.int p1), .val (.int p2), .val (.int p3), .val (.int p4), .val (.int p5), .val (.int (3 : Int32)), .val (.int (own_wt p2)), .val (.int (own_wt p3)), .val (.int (own_wt p4)), .val (.int (own_wt p5)), .val (.ref b5), .val (.ref b12), .val (.int ((((0 : Int32) + own_b (decide ((0 : Int32) < (own_wt p2)))) + own_b (decide ((0 : Int32) < (own_wt p3)))) + own_b (decide ((0 : Int32) < (own_wt p4))))), .val (.ref c16), .unset] [(.ref c16)])) rfl rfl (hb hby at_244) _ ?_
    rw [len_of S17 M17]
    show Steps p.tables e below (T16.setTop (mkF m 245 #[.val (.int p1), .val (.int p2), .val (.int p3), .val (.int p4), .val (.int p5), .val (.int (3 : Int32)), .val (.int (own_wt p2)), .val (.int (own_wt p3)), .val (.int (own_wt p4)), .val (.int (own_wt p5)), .val (.ref b5), .val (.ref b12), .val (.int ((((0 : Int32) + own_b (decide ((0 : Int32) < (own_wt p2)))) + own_b (decide ((0 : Int32) < (own_wt p3)))) + own_b (decide ((0 : Int32) < (own_wt p4))))), .val (.ref c16), .unset] [(.int ((((0 : Int32) + own_b (decide ((0 : Int32) < (own_wt p2)))) + own_b (decide ((0 : Int32) < (own_wt p3)))) + own_b (decide ((0 : Int32) < (own_wt p4)))))])) _
    refine XS.iload X16.here hx rfl (hb hby at_245) rfl ?_
    show Steps p.tables e below (T16.setTop (mkF m 247 #[.val (.int p1), .val (.int p2), .val (.int p3), .val (.int p4), .val (.int p5), .val (.int (3 : Int32)), .val (.int (own_wt p2)), .val (.int (own_wt p3)), .val (.int (own_wt p4)), .val (.int (own_wt p5)), .val (.ref b5), .val (.ref b12), .val (.int ((((0 : Int32) + own_b (decide ((0 : Int32) < (own_wt p2)))) + own_b (decide ((0 : Int32) < (own_wt p3)))) + own_b (decide ((0 : Int32) < (own_wt p4))))), .val (.ref c16), .unset] [(.int ((((0 : Int32) + own_b (decide ((0 : Int32) < (own_wt p2)))) + own_b (decide ((0 : Int32) < (own_wt p3)))) + own_b (decide ((0 : Int32) < (own_wt p4))))), (.int ((((0 : Int32) + own_b (decide ((0 : Int32) < (own_wt p2)))) + own_b (decide ((0 : Int32) < (own_wt p3)))) + own_b (decide ((0 : Int32) < (own_wt p4)))))])) _
    refine XS.icmpYes X16.here hx rfl (pc0 := 247) (pc' := 252) rfl (hb hby at_247) rfl (teq (rfl : ((((0 : Int32) + own_b (decide ((0 : Int32) < (own_wt p2)))) + own_b (decide ((0 : Int32) < (own_wt p3)))) + own_b (decide ((0 : Int32) < (own_wt p4)))) = ((((0 : Int32) + own_b (decide ((0 : Int32) < (own_wt p2)))) + own_b (decide ((0 : Int32) < (own_wt p3)))) + own_b (decide ((0 : Int32) < (own_wt p4)))))).1 (by decide) (by decide) ?_
    show Steps p.tables e below (T16.setTop (mkF m 252 #[.val (.int p1), .val (.int p2), .val (.int p3), .val (.int p4), .val (.int p5), .val (.int (3 : Int32)), .val (.int (own_wt p2)), .val (.int (own_wt p3)), .val (.int (own_wt p4)), .val (.int (own_wt p5)), .val (.ref b5), .val (.ref b12), .val (.int ((((0 : Int32) + own_b (decide ((0 : Int32) < (own_wt p2)))) + own_b (decide ((0 : Int32) < (own_wt p3)))) + own_b (decide ((0 : Int32) < (own_wt p4))))), .val (.ref c16), .unset] [])) _
    refine XS.iconst X16.here hx rfl (hb hby at_252) ?_
    show Steps p.tables e below (T16.setTop (mkF m 253 #[.val (.int p1), .val (.int p2), .val (.int p3), .val (.int p4), .val (.int p5), .val (.int (3 : Int32)), .val (.int (own_wt p2)), .val (.int (own_wt p3)), .val (.int (own_wt p4)), .val (.int (own_wt p5)), .val (.ref b5), .val (.ref b12), .val (.int ((((0 : Int32) + own_b (decide ((0 : Int32) < (own_wt p2)))) + own_b (decide ((0 : Int32) < (own_wt p3)))) + own_b (decide ((0 : Int32) < (own_wt p4))))), .val (.ref c16), .unset] [(.int (1 : Int32))])) _
    refine XS.istore X16.here hx rfl (hb hby at_253) rfl (l' := #[.val (.int p1), .val (.int p2), .val (.int p3), .val (.int p4), .val (.int p5), .val (.int (3 : Int32)), .val (.int (own_wt p2)), .val (.int (own_wt p3)), .val (.int (own_wt p4)), .val (.int (own_wt p5)), .val (.ref b5), .val (.ref b12), .val (.int ((((0 : Int32) + own_b (decide ((0 : Int32) < (own_wt p2)))) + own_b (decide ((0 : Int32) < (own_wt p3)))) + own_b (decide ((0 : Int32) < (own_wt p4))))), .val (.ref c16), .val (.int (1 : Int32))]) rfl ?_
    show Steps p.tables e below (T16.setTop (mkF m 255 #[.val (.int p1), .val (.int p2), .val (.int p3), .val (.int p4), .val (.int p5), .val (.int (3 : Int32)), .val (.int (own_wt p2)), .val (.int (own_wt p3)), .val (.int (own_wt p4)), .val (.int (own_wt p5)), .val (.ref b5), .val (.ref b12), .val (.int ((((0 : Int32) + own_b (decide ((0 : Int32) < (own_wt p2)))) + own_b (decide ((0 : Int32) < (own_wt p3)))) + own_b (decide ((0 : Int32) < (own_wt p4))))), .val (.ref c16), .val (.int (1 : Int32))] [])) _
    refine ck0 p1 p2 p3 p4 p5 (3 : Int32) (own_wt p2) (own_wt p3) (own_wt p4) (own_wt p5) b5 b12 c16 ((((0 : Int32) + own_b (decide ((0 : Int32) < (own_wt p2)))) + own_b (decide ((0 : Int32) < (own_wt p3)))) + own_b (decide ((0 : Int32) < (own_wt p4)))) k12 kk16 (own_set (decide ((0 : Int32) < (own_wt p4))) (own_set (decide ((0 : Int32) < (own_wt p3))) (own_set (decide ((0 : Int32) < (own_wt p2))) [(.int (0 : Int32)), (.int (0 : Int32)), (.int (0 : Int32)), (.int (0 : Int32))] (0 : Int32) (0 : Int32)) ((0 : Int32) + own_b (decide ((0 : Int32) < (own_wt p2)))) (1 : Int32)) (((0 : Int32) + own_b (decide ((0 : Int32) < (own_wt p2)))) + own_b (decide ((0 : Int32) < (own_wt p3)))) (2 : Int32)) z18 X16 hx hZ hw hby hml hown rfl N16 Z16 V_b12_16 Vt16 hz18 _ ?_
    show Steps p.tables e below (T16.setTop (mkF m 283 #[.val (.int p1), .val (.int p2), .val (.int p3), .val (.int p4), .val (.int p5), .val (.int (3 : Int32)), .val (.int (own_wt p2)), .val (.int (own_wt p3)), .val (.int (own_wt p4)), .val (.int (own_wt p5)), .val (.ref b5), .val (.ref b12), .val (.int ((((0 : Int32) + own_b (decide ((0 : Int32) < (own_wt p2)))) + own_b (decide ((0 : Int32) < (own_wt p3)))) + own_b (decide ((0 : Int32) < (own_wt p4))))), .val (.ref c16), .val (.int (1 : Int32))] [])) _
    refine ck1 p1 p2 p3 p4 p5 (3 : Int32) (own_wt p2) (own_wt p3) (own_wt p4) (own_wt p5) b5 b12 c16 ((((0 : Int32) + own_b (decide ((0 : Int32) < (own_wt p2)))) + own_b (decide ((0 : Int32) < (own_wt p3)))) + own_b (decide ((0 : Int32) < (own_wt p4)))) k12 kk16 (own_set (decide ((0 : Int32) < (own_wt p4))) (own_set (decide ((0 : Int32) < (own_wt p3))) (own_set (decide ((0 : Int32) < (own_wt p2))) [(.int (0 : Int32)), (.int (0 : Int32)), (.int (0 : Int32)), (.int (0 : Int32))] (0 : Int32) (0 : Int32)) ((0 : Int32) + own_b (decide ((0 : Int32) < (own_wt p2)))) (1 : Int32)) (((0 : Int32) + own_b (decide ((0 : Int32) < (own_wt p2)))) + own_b (decide ((0 : Int32) < (own_wt p3)))) (2 : Int32)) z19 X16 hx hZ hw hby hml hown rfl N16 Z16 V_b12_16 Vt16 hz19 _ ?_
    show Steps p.tables e below (T16.setTop (mkF m 312 #[.val (.int p1), .val (.int p2), .val (.int p3), .val (.int p4), .val (.int p5), .val (.int (3 : Int32)), .val (.int (own_wt p2)), .val (.int (own_wt p3)), .val (.int (own_wt p4)), .val (.int (own_wt p5)), .val (.ref b5), .val (.ref b12), .val (.int ((((0 : Int32) + own_b (decide ((0 : Int32) < (own_wt p2)))) + own_b (decide ((0 : Int32) < (own_wt p3)))) + own_b (decide ((0 : Int32) < (own_wt p4))))), .val (.ref c16), .val (.int (1 : Int32))] [])) _
    refine ck2 p1 p2 p3 p4 p5 (3 : Int32) (own_wt p2) (own_wt p3) (own_wt p4) (own_wt p5) b5 b12 c16 ((((0 : Int32) + own_b (decide ((0 : Int32) < (own_wt p2)))) + own_b (decide ((0 : Int32) < (own_wt p3)))) + own_b (decide ((0 : Int32) < (own_wt p4)))) k12 kk16 (own_set (decide ((0 : Int32) < (own_wt p4))) (own_set (decide ((0 : Int32) < (own_wt p3))) (own_set (decide ((0 : Int32) < (own_wt p2))) [(.int (0 : Int32)), (.int (0 : Int32)), (.int (0 : Int32)), (.int (0 : Int32))] (0 : Int32) (0 : Int32)) ((0 : Int32) + own_b (decide ((0 : Int32) < (own_wt p2)))) (1 : Int32)) (((0 : Int32) + own_b (decide ((0 : Int32) < (own_wt p2)))) + own_b (decide ((0 : Int32) < (own_wt p3)))) (2 : Int32)) z20 X16 hx hZ hw hby hml hown rfl N16 Z16 V_b12_16 Vt16 hz20 _ ?_
    show Steps p.tables e below (T16.setTop (mkF m 341 #[.val (.int p1), .val (.int p2), .val (.int p3), .val (.int p4), .val (.int p5), .val (.int (3 : Int32)), .val (.int (own_wt p2)), .val (.int (own_wt p3)), .val (.int (own_wt p4)), .val (.int (own_wt p5)), .val (.ref b5), .val (.ref b12), .val (.int ((((0 : Int32) + own_b (decide ((0 : Int32) < (own_wt p2)))) + own_b (decide ((0 : Int32) < (own_wt p3)))) + own_b (decide ((0 : Int32) < (own_wt p4))))), .val (.ref c16), .val (.int (1 : Int32))] [])) _
    refine ck3 p1 p2 p3 p4 p5 (3 : Int32) (own_wt p2) (own_wt p3) (own_wt p4) (own_wt p5) b5 b12 c16 ((((0 : Int32) + own_b (decide ((0 : Int32) < (own_wt p2)))) + own_b (decide ((0 : Int32) < (own_wt p3)))) + own_b (decide ((0 : Int32) < (own_wt p4)))) k12 kk16 (own_set (decide ((0 : Int32) < (own_wt p4))) (own_set (decide ((0 : Int32) < (own_wt p3))) (own_set (decide ((0 : Int32) < (own_wt p2))) [(.int (0 : Int32)), (.int (0 : Int32)), (.int (0 : Int32)), (.int (0 : Int32))] (0 : Int32) (0 : Int32)) ((0 : Int32) + own_b (decide ((0 : Int32) < (own_wt p2)))) (1 : Int32)) (((0 : Int32) + own_b (decide ((0 : Int32) < (own_wt p2)))) + own_b (decide ((0 : Int32) < (own_wt p3)))) (2 : Int32)) z21 X16 hx hZ hw hby hml hown rfl N16 Z16 V_b12_16 Vt16 hz21 _ ?_
    show Steps p.tables e below (T16.setTop (mkF m 370 #[.val (.int p1), .val (.int p2), .val (.int p3), .val (.int p4), .val (.int p5), .val (.int (3 : Int32)), .val (.int (own_wt p2)), .val (.int (own_wt p3)), .val (.int (own_wt p4)), .val (.int (own_wt p5)), .val (.ref b5), .val (.ref b12), .val (.int ((((0 : Int32) + own_b (decide ((0 : Int32) < (own_wt p2)))) + own_b (decide ((0 : Int32) < (own_wt p3)))) + own_b (decide ((0 : Int32) < (own_wt p4))))), .val (.ref c16), .val (.int (1 : Int32))] [])) _
    refine XS.iload X16.here hx rfl (hb hby at_370) rfl ?_
    show Steps p.tables e below (T16.setTop (mkF m 372 #[.val (.int p1), .val (.int p2), .val (.int p3), .val (.int p4), .val (.int p5), .val (.int (3 : Int32)), .val (.int (own_wt p2)), .val (.int (own_wt p3)), .val (.int (own_wt p4)), .val (.int (own_wt p5)), .val (.ref b5), .val (.ref b12), .val (.int ((((0 : Int32) + own_b (decide ((0 : Int32) < (own_wt p2)))) + own_b (decide ((0 : Int32) < (own_wt p3)))) + own_b (decide ((0 : Int32) < (own_wt p4))))), .val (.ref c16), .val (.int (1 : Int32))] [(.int (1 : Int32))])) _
    exact retN X16 hx (t := .boolean) Bd.returns (by simp) (hb hby at_372) hr
  · show Q0 Z p1 p2 p3 p4 p5 h0 n0 _ T16.heap _
    exact ⟨rfl, N16⟩
set_option maxRecDepth 65536 in
set_option maxHeartbeats 40000000 in
theorem rm0_4 (l : Launch) (Z : State) (a0 : Array Value) (hw : ∀ d ∈ tables_1, d.before a0 Z = true) (ws : List Jvm.Cond) (p1 p2 p3 p4 p5 : Int32) (h0 : Heap) (n0 : Nat) (Z0 : n0 ≤ h0.size) (hn : ((p1 &&& (7 : Int32)) % (5 : Int32)) = (4 : Int32)) :
    MetFree l x (head1 (Jvm.Cond.code x code maxLocals ret :: ws) room_1) (fun a U => a = #[(.int p1), (.int p2), (.int p3), (.int p4), (.int p5)] ∧ Z.Warmed39 U.vm ∧ U.heap = h0) (fun _ _ _ _ _ => True) (fun _ U o U' => ∃ v L, o = .returned v ∧ Q0 Z p1 p2 p3 p4 p5 h0 n0 v U'.heap L ∧ FrameEnd U o U' L room_1.cells room_1.slots) := by
  refine MetFree.of_bodySF (plainFor_of_name pn_0) hisR ?_
  intro p e s m args below meth c s₁ Bd hml0 hP hK
  obtain ⟨rfl, hZ, hh⟩ := hP
  have hx := Bd.exec
  have hby := Bd.bytes
  have hml : c.maxLocals = 15 := hml0
  have hown : s.vm.findClass "com/example/steelyard/steelyard/CandidatesPositiveIndicesPinLaw" = some m.cls := findClass_of_methodNamed Bd.named
  have hnm := (name_of_methodNamed Bd.named Bd.method).1
  have X0 : Stand p l e room_1 s m #[(.int p1), (.int p2), (.int p3), (.int p4), (.int p5)] below meth c s₁ [] 0 0 := Stand.of_body Bd
  have e0 : s₁.heap = h0 := by rw [← hh, Bd.state]; rfl
  have N0 := Fr.nil n0
  have pre0 : ∀ tz, Steps p.tables e below (s₁.setTop (mkF m 0 #[.val (.int p1), .val (.int p2), .val (.int p3), .val (.int p4), .val (.int p5), .unset, .unset, .unset, .unset, .unset, .unset, .unset, .unset, .unset, .unset] [])) tz → Steps p.tables e below (s₁.setTop (entryFrame m #[(.int p1), (.int p2), (.int p3), (.int p4), (.int p5)] maxLocals)) tz := fun tz kz => castTop (ef_0 m p1 p2 p3 p4 p5) kz
  obtain ⟨_, _, ⟨T1, L1, k1, n1⟩, -, X1, ⟨Lc1, hQ1, l1, y1, z1⟩, st1⟩ := Jvm.LawKit.callS X0 hx (y := (⟨"com/example/steelyard/steelyard/CandidatesPositiveIndicesPinLaw", "weightOf", "(I)I"⟩ : MethodName)) hown (mvT hZ (hw _ (List.mem_of_getElem? (i := 0) rfl))) (mvT hZ (hw _ (List.mem_of_getElem? (i := 1) rfl))) (mvT hZ (hw _ (List.mem_of_getElem? (i := 2) rfl))) (mvT hZ (hw _ (List.mem_of_getElem? (i := 3) rfl))) (by decide) (backOf (W := 0) (rmW l Z a0 hw [] p2 h0 n0 Z0) hZ (hw _ (List.mem_of_getElem? (i := 3) rfl)) (hw _ (List.mem_of_getElem? (i := 2) rfl)) (by decide) (by decide)) (g := (mkF m 9 #[.val (.int p1), .val (.int p2), .val (.int p3), .val (.int p4), .val (.int p5), .val (.int (4 : Int32)), .unset, .unset, .unset, .unset, .unset, .unset, .unset, .unset, .unset] [(.int p2)])) rfl (by rw [hml]; rfl) (argsL := [(.int p2)]) (rest := []) (lenOf pd_0_0 rfl) rfl (by show 2 * 0 + _ ≤ _; exact Nat.le_of_eq rfl) (hb hby at_9) (fun _ _ => ⟨rfl, e0, (by decide : 0 + 0 ≤ _), (by decide : 0 + 0 ≤ _)⟩)
  dsimp only [Pt.U, Pt.locs, Pt.cells, Pt.slots] at X1 l1 y1 z1 st1 hQ1
  subst l1 y1 z1
  obtain ⟨rfl, N1q, eh1⟩ := hQ1
  have N1 := Fr.app N0 N1q
  obtain ⟨_, _, ⟨T2, L2, k2, n2⟩, -, X2, ⟨Lc2, hQ2, l2, y2, z2⟩, st2⟩ := Jvm.LawKit.callS X1 hx (y := (⟨"com/example/steelyard/steelyard/CandidatesPositiveIndicesPinLaw", "weightOf", "(I)I"⟩ : MethodName)) hown (mvT hZ (hw _ (List.mem_of_getElem? (i := 0) rfl))) (mvT hZ (hw _ (List.mem_of_getElem? (i := 1) rfl))) (mvT hZ (hw _ (List.mem_of_getElem? (i := 2) rfl))) (mvT hZ (hw _ (List.mem_of_getElem? (i := 3) rfl))) (by decide) (backOf (W := 0) (rmW l Z a0 hw [] p3 h0 n0 Z0) hZ (hw _ (List.mem_of_getElem? (i := 3) rfl)) (hw _ (List.mem_of_getElem? (i := 2) rfl)) (by decide) (by decide)) (g := (mkF m 15 #[.val (.int p1), .val (.int p2), .val (.int p3), .val (.int p4), .val (.int p5), .val (.int (4 : Int32)), .val (.int (own_wt p2)), .unset, .unset, .unset, .unset, .unset, .unset, .unset, .unset] [(.int p3)])) rfl (by rw [hml]; rfl) (argsL := [(.int p3)]) (rest := []) (lenOf pd_0_0 rfl) rfl (by show 2 * 0 + _ ≤ _; exact Nat.le_of_eq rfl) (hb hby at_15) (fun _ _ => ⟨rfl, eh1, (by decide : 0 + 0 ≤ _), (by decide : 0 + 0 ≤ _)⟩)
  dsimp only [Pt.U, Pt.locs, Pt.cells, Pt.slots] at X2 l2 y2 z2 st2 hQ2
  subst l2 y2 z2
  obtain ⟨rfl, N2q, eh2⟩ := hQ2
  have N2 := Fr.app N1 N2q
  obtain ⟨_, _, ⟨T3, L3, k3, n3⟩, -, X3, ⟨Lc3, hQ3, l3, y3, z3⟩, st3⟩ := Jvm.LawKit.callS X2 hx (y := (⟨"com/example/steelyard/steelyard/CandidatesPositiveIndicesPinLaw", "weightOf", "(I)I"⟩ : MethodName)) hown (mvT hZ (hw _ (List.mem_of_getElem? (i := 0) rfl))) (mvT hZ (hw _ (List.mem_of_getElem? (i := 1) rfl))) (mvT hZ (hw _ (List.mem_of_getElem? (i := 2) rfl))) (mvT hZ (hw _ (List.mem_of_getElem? (i := 3) rfl))) (by decide) (backOf (W := 0) (rmW l Z a0 hw [] p4 h0 n0 Z0) hZ (hw _ (List.mem_of_getElem? (i := 3) rfl)) (hw _ (List.mem_of_getElem? (i := 2) rfl)) (by decide) (by decide)) (g := (mkF m 21 #[.val (.int p1), .val (.int p2), .val (.int p3), .val (.int p4), .val (.int p5), .val (.int (4 : Int32)), .val (.int (own_wt p2)), .val (.int (own_wt p3)), .unset, .unset, .unset, .unset, .unset, .unset, .unset] [(.int p4)])) rfl (by rw [hml]; rfl) (argsL := [(.int p4)]) (rest := []) (lenOf pd_0_0 rfl) rfl (by show 2 * 0 + _ ≤ _; exact Nat.le_of_eq rfl) (hb hby at_21) (fun _ _ => ⟨rfl, eh2, (by decide : 0 + 0 ≤ _), (by decide : 0 + 0 ≤ _)⟩)
  dsimp only [Pt.U, Pt.locs, Pt.cells, Pt.slots] at X3 l3 y3 z3 st3 hQ3
  subst l3 y3 z3
  obtain ⟨rfl, N3q, eh3⟩ := hQ3
  have N3 := Fr.app N2 N3q
  obtain ⟨_, _, ⟨T4, L4, k4, n4⟩, -, X4, ⟨Lc4, hQ4, l4, y4, z4⟩, st4⟩ := Jvm.LawKit.callS X3 hx (y := (⟨"com/example/steelyard/steelyard/CandidatesPositiveIndicesPinLaw", "weightOf", "(I)I"⟩ : MethodName)) hown (mvT hZ (hw _ (List.mem_of_getElem? (i := 0) rfl))) (mvT hZ (hw _ (List.mem_of_getElem? (i := 1) rfl))) (mvT hZ (hw _ (List.mem_of_getElem? (i := 2) rfl))) (mvT hZ (hw _ (List.mem_of_getElem? (i := 3) rfl))) (by decide) (backOf (W := 0) (rmW l Z a0 hw [] p5 h0 n0 Z0) hZ (hw _ (List.mem_of_getElem? (i := 3) rfl)) (hw _ (List.mem_of_getElem? (i := 2) rfl)) (by decide) (by decide)) (g := (mkF m 28 #[.val (.int p1), .val (.int p2), .val (.int p3), .val (.int p4), .val (.int p5), .val (.int (4 : Int32)), .val (.int (own_wt p2)), .val (.int (own_wt p3)), .val (.int (own_wt p4)), .unset, .unset, .unset, .unset, .unset, .unset] [(.int p5)])) rfl (by rw [hml]; rfl) (argsL := [(.int p5)]) (rest := []) (lenOf pd_0_0 rfl) rfl (by show 2 * 0 + _ ≤ _; exact Nat.le_of_eq rfl) (hb hby at_28) (fun _ _ => ⟨rfl, eh3, (by decide : 0 + 0 ≤ _), (by decide : 0 + 0 ≤ _)⟩)
  dsimp only [Pt.U, Pt.locs, Pt.cells, Pt.slots] at X4 l4 y4 z4 st4 hQ4
  subst l4 y4 z4
  obtain ⟨rfl, N4q, eh4⟩ := hQ4
  have N4 := Fr.app N3 N4q
  obtain ⟨T5, h5, k5, X5, e5, E5, A5, st5⟩ := newP X4 hx hZ (hw _ (List.mem_of_getElem? (i := 4) rfl)) eh4 (g := (mkF m 119 #[.val (.int p1), .val (.int p2), .val (.int p3), .val (.int p4), .val (.int p5), .val (.int (4 : Int32)), .val (.int (own_wt p2)), .val (.int (own_wt p3)), .val (.int (own_wt p4)), .val (.int (own_wt p5)), .unset, .unset, .unset, .unset, .unset] [(.int (4 : Int32))])) rfl (hb hby at_119) rfl (by decide) (cap := 4) (by decide) (by decide) (by decide) (by decide)
  obtain ⟨b5, g5⟩ : ∃ z, z = h0.size := ⟨_, rfl⟩
  rw [← g5] at A5 st5
  have gb5 : n0 ≤ b5 := Nat.le_trans Z0 (Nat.le_of_eq g5.symm)
  have Z5 : n0 ≤ h5.size := Nat.le_trans Z0 E5.1
  have V5 : Arv Z h5 b5 k5 .int (4 : Int32) [(.int (0 : Int32)), (.int (0 : Int32)), (.int (0 : Int32)), (.int (0 : Int32))] (.int (0 : Int32)) := (Arv.new A5 (by decide)).pad (pad_rep [] (.int (0 : Int32)) 4)
  obtain ⟨cl6, Ar6, q6, S6, M6, H6, G6⟩ := id V5
  have hin7 : ¬ ((0 : Int32) < 0 ∨ cl6.slots.size ≤ ((0 : Int32)).toNatClampNeg) := inb_of S6 ⟨by decide, by decide⟩
  obtain ⟨T7, h7, X7, e7, W7, st7⟩ := stI X5 hx hZ e5 Ar6 (j := (0 : Int32)) hin7 (g := (mkF m 125 #[.val (.int p1), .val (.int p2), .val (.int p3), .val (.int p4), .val (.int p5), .val (.int (4 : Int32)), .val (.int (own_wt p2)), .val (.int (own_wt p3)), .val (.int (own_wt p4)), .val (.int (own_wt p5)), .unset, .unset, .unset, .unset, .unset] [(.int (own_wt p2)), (.int (0 : Int32)), (.ref b5), (.ref b5)])) rfl rfl (hb hby at_125)
  have V7 : Arv Z h7 b5 k5 .int (4 : Int32) [(.int (own_wt p2)), (.int (0 : Int32)), (.int (0 : Int32)), (.int (0 : Int32))] (.int (0 : Int32)) := Arv.set Ar6 q6 S6 M6 H6 G6 rfl W7 0 rfl (Nat.le_of_ble_eq_true rfl)
  have Z7 : n0 ≤ h7.size := Nat.le_trans Z5 (Keep.of_wr W7).1
  have N7 := Fr.snoc X7 N4 gb5
  obtain ⟨cl8, Ar8, q8, S8, M8, H8, G8⟩ := id V7
  have hin9 : ¬ ((1 : Int32) < 0 ∨ cl8.slots.size ≤ ((1 : Int32)).toNatClampNeg) := inb_of S8 ⟨by decide, by decide⟩
  obtain ⟨T9, h9, X9, e9, W9, st9⟩ := stI X7 hx hZ e7 Ar8 (j := (1 : Int32)) hin9 (g := (mkF m 130 #[.val (.int p1), .val (.int p2), .val (.int p3), .val (.int p4), .val (.int p5), .val (.int (4 : Int32)), .val (.int (own_wt p2)), .val (.int (own_wt p3)), .val (.int (own_wt p4)), .val (.int (own_wt p5)), .unset, .unset, .unset, .unset, .unset] [(.int (own_wt p3)), (.int (1 : Int32)), (.ref b5), (.ref b5)])) rfl rfl (hb hby at_130)
  have V9 : Arv Z h9 b5 k5 .int (4 : Int32) [(.int (own_wt p2)), (.int (own_wt p3)), (.int (0 : Int32)), (.int (0 : Int32))] (.int (0 : Int32)) := Arv.set Ar8 q8 S8 M8 H8 G8 rfl W9 1 rfl (Nat.le_of_ble_eq_true rfl)
  have Z9 : n0 ≤ h9.size := Nat.le_trans Z7 (Keep.of_wr W9).1
  have N9 := Fr.snoc X9 N7 gb5
  obtain ⟨cl10, Ar10, q10, S10, M10, H10, G10⟩ := id V9
  have hin11 : ¬ ((2 : Int32) < 0 ∨ cl10.slots.size ≤ ((2 : Int32)).toNatClampNeg) := inb_of S10 ⟨by decide, by decide⟩
  obtain ⟨T11, h11, X11, e11, W11, st11⟩ := stI X9 hx hZ e9 Ar10 (j := (2 : Int32)) hin11 (g := (mkF m 135 #[.val (.int p1), .val (.int p2), .val (.int p3), .val (.int p4), .val (.int p5), .val (.int (4 : Int32)), .val (.int (own_wt p2)), .val (.int (own_wt p3)), .val (.int (own_wt p4)), .val (.int (own_wt p5)), .unset, .unset, .unset, .unset, .unset] [(.int (own_wt p4)), (.int (2 : Int32)), (.ref b5), (.ref b5)])) rfl rfl (hb hby at_135)
  have V11 : Arv Z h11 b5 k5 .int (4 : Int32) [(.int (own_wt p2)), (.int (own_wt p3)), (.int (own_wt p4)), (.int (0 : Int32))] (.int (0 : Int32)) := Arv.set Ar10 q10 S10 M10 H10 G10 rfl W11 2 rfl (Nat.le_of_ble_eq_true rfl)
  have Z11 : n0 ≤ h11.size := Nat.le_trans Z9 (Keep.of_wr W11).1
  have N11 := Fr.snoc X11 N9 gb5
  obtain ⟨cl12, Ar12, q12, S12, M12, H12, G12⟩ := id V11
  have hin13 : ¬ ((3 : Int32) < 0 ∨ cl12.slots.size ≤ ((3 : Int32)).toNatClampNeg) := inb_of S12 ⟨by decide, by decide⟩
  obtain ⟨T13, h13, X13, e13, W13, st13⟩ := stI X11 hx hZ e11 Ar12 (j := (3 : Int32)) hin13 (g := (mkF m 140 #[.val (.int p1), .val (.int p2), .val (.int p3), .val (.int p4), .val (.int p5), .val (.int (4 : Int32)), .val (.int (own_wt p2)), .val (.int (own_wt p3)), .val (.int (own_wt p4)), .val (.int (own_wt p5)), .unset, .unset, .unset, .unset, .unset] [(.int (own_wt p5)), (.int (3 : Int32)), (.ref b5), (.ref b5)])) rfl rfl (hb hby at_140)
  have V13 : Arv Z h13 b5 k5 .int (4 : Int32) [(.int (own_wt p2)), (.int (own_wt p3)), (.int (own_wt p4)), (.int (own_wt p5))] (.int (0 : Int32)) := Arv.set Ar12 q12 S12 M12 H12 G12 rfl W13 3 rfl (Nat.le_of_ble_eq_true rfl)
  have Z13 : n0 ≤ h13.size := Nat.le_trans Z11 (Keep.of_wr W13).1
  have N13 := Fr.snoc X13 N11 gb5
  obtain ⟨T14, h14, k14, X14, e14, E14, A14, st14⟩ := newP X13 hx hZ (hw _ (List.mem_of_getElem? (i := 4) rfl)) e13 (g := (mkF m 144 #[.val (.int p1), .val (.int p2), .val (.int p3), .val (.int p4), .val (.int p5), .val (.int (4 : Int32)), .val (.int (own_wt p2)), .val (.int (own_wt p3)), .val (.int (own_wt p4)), .val (.int (own_wt p5)), .val (.ref b5), .unset, .unset, .unset, .unset] [(.int (4 : Int32))])) rfl (hb hby at_144) rfl (by decide) (cap := 4) (by decide) (by decide) (by decide) (by decide)
  obtain ⟨b14, g14⟩ : ∃ z, z = h13.size := ⟨_, rfl⟩
  rw [← g14] at A14 st14
  have gb14 : n0 ≤ b14 := Nat.le_trans Z13 (Nat.le_of_eq g14.symm)
  have ne_b5_b14 : b5 ≠ b14 := (Nat.ne_of_lt (Nat.lt_of_lt_of_le V13.lt (Nat.le_of_eq g14.symm)))
  have V_b5_14 := V13.ext E14
  have Z14 : n0 ≤ h14.size := Nat.le_trans Z13 E14.1
  have V14 : Arv Z h14 b14 k14 .int (4 : Int32) [(.int (0 : Int32)), (.int (0 : Int32)), (.int (0 : Int32)), (.int (0 : Int32))] (.int (0 : Int32)) := (Arv.new A14 (by decide)).pad (pad_rep [] (.int (0 : Int32)) 4)
  obtain ⟨T15, h15, L15, X15, e15, N15, Z15, K15, Vx15, st15⟩ := se0 p1 p2 p3 p4 p5 (4 : Int32) (own_wt p2) (own_wt p3) (own_wt p4) (own_wt p5) b5 b14 (0 : Int32) k14 [(.int (0 : Int32)), (.int (0 : Int32)), (.int (0 : Int32)), (.int (0 : Int32))] X14 hx hZ hw hby hml hown e14 N13 Z14 V14 gb14 (by decide) (own_f0 ).1 (own_f0 ).2
  have V_b5_15 := V_b5_14.keep K15 (ninS ne_b5_b14 nin0)
  obtain ⟨T16, h16, L16, X16, e16, N16, Z16, K16, Vx16, st16⟩ := se1 p1 p2 p3 p4 p5 (4 : Int32) (own_wt p2) (own_wt p3) (own_wt p4) (own_wt p5) b5 b14 ((0 : Int32) + own_b (decide ((0 : Int32) < (own_wt p2)))) k14 (own_set (decide ((0 : Int32) < (own_wt p2))) [(.int (0 : Int32)), (.int (0 : Int32)), (.int (0 : Int32)), (.int (0 : Int32))] (0 : Int32) (0 : Int32)) X15 hx hZ hw hby hml hown e15 N15 Z15 Vx15 gb14 (by decide) (own_f1 (decide ((0 : Int32) < (own_wt p2)))).1 (own_f1 (decide ((0 : Int32) < (own_wt p2)))).2
  have V_b5_16 := V_b5_15.keep K16 (ninS ne_b5_b14 nin0)
  obtain ⟨T17, h17, L17, X17, e17, N17, Z17, K17, Vx17, st17⟩ := se2 p1 p2 p3 p4 p5 (4 : Int32) (own_wt p2) (own_wt p3) (own_wt p4) (own_wt p5) b5 b14 (((0 : Int32) + own_b (decide ((0 : Int32) < (own_wt p2)))) + own_b (decide ((0 : Int32) < (own_wt p3)))) k14 (own_set (decide ((0 : Int32) < (own_wt p3))) (own_set (decide ((0 : Int32) < (own_wt p2))) [(.int (0 : Int32)), (.int (0 : Int32)), (.int (0 : Int32)), (.int (0 : Int32))] (0 : Int32) (0 : Int32)) ((0 : Int32) + own_b (decide ((0 : Int32) < (own_wt p2)))) (1 : Int32)) X16 hx hZ hw hby hml hown e16 N16 Z16 Vx16 gb14 (by decide) (own_f2 (decide ((0 : Int32) < (own_wt p2))) (decide ((0 : Int32) < (own_wt p3)))).1 (own_f2 (decide ((0 : Int32) < (own_wt p2))) (decide ((0 : Int32) < (own_wt p3)))).2
  have V_b5_17 := V_b5_16.keep K17 (ninS ne_b5_b14 nin0)
  obtain ⟨T18, h18, L18, X18, e18, N18, Z18, K18, Vx18, st18⟩ := se3 p1 p2 p3 p4 p5 (4 : Int32) (own_wt p2) (own_wt p3) (own_wt p4) (own_wt p5) b5 b14 ((((0 : Int32) + own_b (decide ((0 : Int32) < (own_wt p2)))) + own_b (decide ((0 : Int32) < (own_wt p3)))) + own_b (decide ((0 : Int32) < (own_wt p4)))) k14 (own_set (decide ((0 : Int32) < (own_wt p4))) (own_set (decide ((0 : Int32) < (own_wt p3))) (own_set (decide ((0 : Int32) < (own_wt p2))) [(.int (0 : Int32)), (.int (0 : Int32)), (.int (0 : Int32)), (.int (0 : Int32))] (0 : Int32) (0 : Int32)) ((0 : Int32) + own_b (decide ((0 : Int32) < (own_wt p2)))) (1 : Int32)) (((0 : Int32) + own_b (decide ((0 : Int32) < (own_wt p2)))) + own_b (decide ((0 : Int32) < (own_wt p3)))) (2 : Int32)) X17 hx hZ hw hby hml hown e17 N17 Z17 Vx17 gb14 (by decide) (own_f3 (decide ((0 : Int32) < (own_wt p2))) (decide ((0 : Int32) < (own_wt p3))) (decide ((0 : Int32) < (own_wt p4)))).1 (own_f3 (decide ((0 : Int32) < (own_wt p2))) (decide ((0 : Int32) < (own_wt p3))) (decide ((0 : Int32) < (own_wt p4)))).2
  have V_b5_18 := V_b5_17.keep K18 (ninS ne_b5_b14 nin0)
  obtain ⟨_, _, ⟨T19, L19, k19, n19⟩, -, X19, ⟨Lc19, hQ19, l19, y19, z19⟩, st19⟩ := Jvm.LawKit.callS X18 hx (y := (⟨"com/example/steelyard/steelyard/Candidates", "positiveIndices", "([I)[I"⟩ : MethodName)) hown (mvT hZ (hw _ (List.mem_of_getElem? (i := 5) rfl))) (mvT hZ (hw _ (List.mem_of_getElem? (i := 6) rfl))) (mvT hZ (hw _ (List.mem_of_getElem? (i := 7) rfl))) (mvT hZ (hw _ (List.mem_of_getElem? (i := 8) rfl))) (by decide) (backOf (W := 0) (rmP4 l Z a0 hw [] b5 k5 (own_wt p2) (own_wt p3) (own_wt p4) (own_wt p5) h18 n0 Z18 V_b5_18) hZ (hw _ (List.mem_of_getElem? (i := 8) rfl)) (hw _ (List.mem_of_getElem? (i := 7) rfl)) (by decide) (by decide)) (g := (mkF m 232 #[.val (.int p1), .val (.int p2), .val (.int p3), .val (.int p4), .val (.int p5), .val (.int (4 : Int32)), .val (.int (own_wt p2)), .val (.int (own_wt p3)), .val (.int (own_wt p4)), .val (.int (own_wt p5)), .val (.ref b5), .val (.ref b14), .val (.int (((((0 : Int32) + own_b (decide ((0 : Int32) < (own_wt p2)))) + own_b (decide ((0 : Int32) < (own_wt p3)))) + own_b (decide ((0 : Int32) < (own_wt p4)))) + own_b (decide ((0 : Int32) < (own_wt p5))))), .unset, .unset] [(.ref b5)])) rfl (by rw [hml]; rfl) (argsL := [(.ref b5)]) (rest := []) (lenOf pd_0_1 rfl) rfl (by show 2 * 0 + _ ≤ _; exact Nat.le_of_eq rfl) (hb hby at_232) (fun _ _ => ⟨rfl, e18, (by decide : 2 + 1 ≤ _), (by decide : 8 + 4 ≤ _)⟩)
  dsimp only [Pt.U, Pt.locs, Pt.cells, Pt.slots] at X19 l19 y19 z19 st19 hQ19
  subst l19 y19 z19
  obtain ⟨rfl, N19q, K19, kk19, Vt19⟩ := hQ19
  have N19 := Fr.app N18 N19q
  have V_b5_19 := V_b5_18.keep K19 nin0
  have V_b14_19 := Vx18.keep K19 nin0
  have Z19 : n0 ≤ T19.heap.size := Nat.le_trans Z18 K19.1
  obtain ⟨c19, gc19⟩ : ∃ z, z = h18.size := ⟨_, rfl⟩
  rw [← gc19] at st19 Vt19
  obtain ⟨cl20, Ar20, q20, S20, M20, H20, G20⟩ := id Vt19
  obtain ⟨z21, hz21⟩ := own_u4_0 (decide ((0 : Int32) < (own_wt p2))) (decide ((0 : Int32) < (own_wt p3))) (decide ((0 : Int32) < (own_wt p4))) (decide ((0 : Int32) < (own_wt p5)))
  obtain ⟨z22, hz22⟩ := own_u4_1 (decide ((0 : Int32) < (own_wt p2))) (decide ((0 : Int32) < (own_wt p3))) (decide ((0 : Int32) < (own_wt p4))) (decide ((0 : Int32) < (own_wt p5)))
  obtain ⟨z23, hz23⟩ := own_u4_2 (decide ((0 : Int32) < (own_wt p2))) (decide ((0 : Int32) < (own_wt p3))) (decide ((0 : Int32) < (own_wt p4))) (decide ((0 : Int32) < (own_wt p5)))
  obtain ⟨z24, hz24⟩ := own_u4_3 (decide ((0 : Int32) < (own_wt p2))) (decide ((0 : Int32) < (own_wt p3))) (decide ((0 : Int32) < (own_wt p4))) (decide ((0 : Int32) < (own_wt p5)))
  obtain ⟨fs, hr, hrun, hended, hW, hsame⟩ := X19.leave (v := some (.int (1 : Int32))) (fun h => by rw [Bd.returns] at h; cases h)
  refine ⟨_, _, pre0 _ ?_, hrun, hended, _, _, rfl, ?_, ⟨_, rfl⟩, hW, hsame.mono (by decide) (by decide)⟩
  · show Steps p.tables e below (s₁.setTop (mkF m 0 #[.val (.int p1), .val (.int p2), .val (.int p3), .val (.int p4), .val (.int p5), .unset, .unset, .unset, .unset, .unset, .unset, .unset, .unset, .unset, .unset] [])) _
    refine XS.iloadN X0.here hx rfl (hb hby at_0) rfl ?_
    show Steps p.tables e below (s₁.setTop (mkF m 1 #[.val (.int p1), .val (.int p2), .val (.int p3), .val (.int p4), .val (.int p5), .unset, .unset, .unset, .unset, .unset, .unset, .unset, .unset, .unset, .unset] [(.int p1)])) _
    refine XS.bipush X0.here hx rfl (hb hby at_1) ?_
    show Steps p.tables e below (s₁.setTop (mkF m 3 #[.val (.int p1), .val (.int p2), .val (.int p3), .val (.int p4), .val (.int p5), .unset, .unset, .unset, .unset, .unset, .unset, .unset, .unset, .unset, .unset] [(.int (7 : Int32)), (.int p1)])) _
    refine XS.iand X0.here hx rfl (hb hby at_3) rfl ?_
    show Steps p.tables e below (s₁.setTop (mkF m 4 #[.val (.int p1), .val (.int p2), .val (.int p3), .val (.int p4), .val (.int p5), .unset, .unset, .unset, .unset, .unset, .unset, .unset, .unset, .unset, .unset] [(.int (p1 &&& (7 : Int32)))])) _
    refine XS.iconst X0.here hx rfl (hb hby at_4) ?_
    show Steps p.tables e below (s₁.setTop (mkF m 5 #[.val (.int p1), .val (.int p2), .val (.int p3), .val (.int p4), .val (.int p5), .unset, .unset, .unset, .unset, .unset, .unset, .unset, .unset, .unset, .unset] [(.int (5 : Int32)), (.int (p1 &&& (7 : Int32)))])) _
    refine iremM X0 hx (g := (mkF m 5 #[.val (.int p1), .val (.int p2), .val (.int p3), .val (.int p4), .val (.int p5), .unset, .unset, .unset, .unset, .unset, .unset, .unset, .unset, .unset, .unset] [(.int (5 : Int32)), (.int (p1 &&& (7 : Int32)))])) rfl (hb hby at_5) rfl (by decide) ?_
    show Steps p.tables e below (s₁.setTop (mkF m 6 #[.val (.int p1), .val (.int p2), .val (.int p3), .val (.int p4), .val (.int p5), .unset, .unset, .unset, .unset, .unset, .unset, .unset, .unset, .unset, .unset] [(.int ((p1 &&& (7 : Int32)) % (5 : Int32)))])) _
    rw [hn]
    show Steps p.tables e below (s₁.setTop (mkF m 6 #[.val (.int p1), .val (.int p2), .val (.int p3), .val (.int p4), .val (.int p5), .unset, .unset, .unset, .unset, .unset, .unset, .unset, .unset, .unset, .unset] [(.int (4 : Int32))])) _
    refine XS.istore X0.here hx rfl (hb hby at_6) rfl (l' := #[.val (.int p1), .val (.int p2), .val (.int p3), .val (.int p4), .val (.int p5), .val (.int (4 : Int32)), .unset, .unset, .unset, .unset, .unset, .unset, .unset, .unset, .unset]) rfl ?_
    show Steps p.tables e below (s₁.setTop (mkF m 8 #[.val (.int p1), .val (.int p2), .val (.int p3), .val (.int p4), .val (.int p5), .val (.int (4 : Int32)), .unset, .unset, .unset, .unset, .unset, .unset, .unset, .unset, .unset] [])) _
    refine XS.iloadN X0.here hx rfl (hb hby at_8) rfl ?_
    show Steps p.tables e below (s₁.setTop (mkF m 9 #[.val (.int p1), .val (.int p2), .val (.int p3), .val (.int p4), .val (.int p5), .val (.int (4 : Int32)), .unset, .unset, .unset, .unset, .unset, .unset, .unset, .unset, .unset] [(.int p2)])) _
    refine st1 _ ?_
    show Steps p.tables e below (T1.setTop (mkF m 12 #[.val (.int p1), .val (.int p2), .val (.int p3), .val (.int p4), .val (.int p5), .val (.int (4 : Int32)), .unset, .unset, .unset, .unset, .unset, .unset, .unset, .unset, .unset] [(.int (own_wt p2))])) _
    refine XS.istore X1.here hx rfl (hb hby at_12) rfl (l' := #[.val (.int p1), .val (.int p2), .val (.int p3), .val (.int p4), .val (.int p5), .val (.int (4 : Int32)), .val (.int (own_wt p2)), .unset, .unset, .unset, .unset, .unset, .unset, .unset, .unset]) rfl ?_
    show Steps p.tables e below (T1.setTop (mkF m 14 #[.val (.int p1), .val (.int p2), .val (.int p3), .val (.int p4), .val (.int p5), .val (.int (4 : Int32)), .val (.int (own_wt p2)), .unset, .unset, .unset, .unset, .unset, .unset, .unset, .unset] [])) _
    refine XS.iloadN X1.here hx rfl (hb hby at_14) rfl ?_
    show Steps p.tables e below (T1.setTop (mkF m 15 #[.val (.int p1), .val (.int p2), .val (.int p3), .val (.int p4), .val (.int p5), .val (.int (4 : Int32)), .val (.int (own_wt p2)), .unset, .unset, .unset, .unset, .unset, .unset, .unset, .unset] [(.int p3)])) _
    refine st2 _ ?_
    show Steps p.tables e below (T2.setTop (mkF m 18 #[.val (.int p1), .val (.int p2), .val (.int p3), .val (.int p4), .val (.int p5), .val (.int (4 : Int32)), .val (.int (own_wt p2)), .unset, .unset, .unset, .unset, .unset, .unset, .unset, .unset] [(.int (own_wt p3))])) _
    refine XS.istore X2.here hx rfl (hb hby at_18) rfl (l' := #[.val (.int p1), .val (.int p2), .val (.int p3), .val (.int p4), .val (.int p5), .val (.int (4 : Int32)), .val (.int (own_wt p2)), .val (.int (own_wt p3)), .unset, .unset, .unset, .unset, .unset, .unset, .unset]) rfl ?_
    show Steps p.tables e below (T2.setTop (mkF m 20 #[.val (.int p1), .val (.int p2), .val (.int p3), .val (.int p4), .val (.int p5), .val (.int (4 : Int32)), .val (.int (own_wt p2)), .val (.int (own_wt p3)), .unset, .unset, .unset, .unset, .unset, .unset, .unset] [])) _
    refine XS.iloadN X2.here hx rfl (hb hby at_20) rfl ?_
    show Steps p.tables e below (T2.setTop (mkF m 21 #[.val (.int p1), .val (.int p2), .val (.int p3), .val (.int p4), .val (.int p5), .val (.int (4 : Int32)), .val (.int (own_wt p2)), .val (.int (own_wt p3)), .unset, .unset, .unset, .unset, .unset, .unset, .unset] [(.int p4)])) _
    refine st3 _ ?_
    show Steps p.tables e below (T3.setTop (mkF m 24 #[.val (.int p1), .val (.int p2), .val (.int p3), .val (.int p4), .val (.int p5), .val (.int (4 : Int32)), .val (.int (own_wt p2)), .val (.int (own_wt p3)), .unset, .unset, .unset, .unset, .unset, .unset, .unset] [(.int (own_wt p4))])) _
    refine XS.istore X3.here hx rfl (hb hby at_24) rfl (l' := #[.val (.int p1), .val (.int p2), .val (.int p3), .val (.int p4), .val (.int p5), .val (.int (4 : Int32)), .val (.int (own_wt p2)), .val (.int (own_wt p3)), .val (.int (own_wt p4)), .unset, .unset, .unset, .unset, .unset, .unset]) rfl ?_
    show Steps p.tables e below (T3.setTop (mkF m 26 #[.val (.int p1), .val (.int p2), .val (.int p3), .val (.int p4), .val (.int p5), .val (.int (4 : Int32)), .val (.int (own_wt p2)), .val (.int (own_wt p3)), .val (.int (own_wt p4)), .unset, .unset, .unset, .unset, .unset, .unset] [])) _
    refine XS.iload X3.here hx rfl (hb hby at_26) rfl ?_
    show Steps p.tables e below (T3.setTop (mkF m 28 #[.val (.int p1), .val (.int p2), .val (.int p3), .val (.int p4), .val (.int p5), .val (.int (4 : Int32)), .val (.int (own_wt p2)), .val (.int (own_wt p3)), .val (.int (own_wt p4)), .unset, .unset, .unset, .unset, .unset, .unset] [(.int p5)])) _
    refine st4 _ ?_
    show Steps p.tables e below (T4.setTop (mkF m 31 #[.val (.int p1), .val (.int p2), .val (.int p3), .val (.int p4), .val (.int p5), .val (.int (4 : Int32)), .val (.int (own_wt p2)), .val (.int (own_wt p3)), .val (.int (own_wt p4)), .unset, .unset, .unset, .unset, .unset, .unset] [(.int (own_wt p5))])) _
    refine XS.istore X4.here hx rfl (hb hby at_31) rfl (l' := #[.val (.int p1), .val (.int p2), .val (.int p3), .val (.int p4), .val (.int p5), .val (.int (4 : Int32)), .val (.int (own_wt p2)), .val (.int (own_wt p3)), .val (.int (own_wt p4)), .val (.int (own_wt p5)), .unset, .unset, .unset, .unset, .unset]) rfl ?_
    show Steps p.tables e below (T4.setTop (mkF m 33 #[.val (.int p1), .val (.int p2), .val (.int p3), .val (.int p4), .val (.int p5), .val (.int (4 : Int32)), .val (.int (own_wt p2)), .val (.int (own_wt p3)), .val (.int (own_wt p4)), .val (.int (own_wt p5)), .unset, .unset, .unset, .unset, .unset] [])) _
    refine XS.iload X4.here hx rfl (hb hby at_33) rfl ?_
    show Steps p.tables e below (T4.setTop (mkF m 35 #[.val (.int p1), .val (.int p2), .val (.int p3), .val (.int p4), .val (.int p5), .val (.int (4 : Int32)), .val (.int (own_wt p2)), .val (.int (own_wt p3)), .val (.int (own_wt p4)), .val (.int (own_wt p5)), .unset, .unset, .unset, .unset, .unset] [(.int (4 : Int32))])) _
    refine XS.ifYes X4.here hx rfl (pc0 := 35) (pc' := 46) rfl (hb hby at_35) rfl ((if0 _ _).trans (feq ((by decide) : ¬ ((4 : Int32) = (0 : Int32)))).2) (by decide) (by decide) ?_
    show Steps p.tables e below (T4.setTop (mkF m 46 #[.val (.int p1), .val (.int p2), .val (.int p3), .val (.int p4), .val (.int p5), .val (.int (4 : Int32)), .val (.int (own_wt p2)), .val (.int (own_wt p3)), .val (.int (own_wt p4)), .val (.int (own_wt p5)), .unset, .unset, .unset, .unset, .unset] [])) _
    refine XS.iload X4.here hx rfl (hb hby at_46) rfl ?_
    show Steps p.tables e below (T4.setTop (mkF m 48 #[.val (.int p1), .val (.int p2), .val (.int p3), .val (.int p4), .val (.int p5), .val (.int (4 : Int32)), .val (.int (own_wt p2)), .val (.int (own_wt p3)), .val (.int (own_wt p4)), .val (.int (own_wt p5)), .unset, .unset, .unset, .unset, .unset] [(.int (4 : Int32))])) _
    refine XS.iconst X4.here hx rfl (hb hby at_48) ?_
    show Steps p.tables e below (T4.setTop (mkF m 49 #[.val (.int p1), .val (.int p2), .val (.int p3), .val (.int p4), .val (.int p5), .val (.int (4 : Int32)), .val (.int (own_wt p2)), .val (.int (own_wt p3)), .val (.int (own_wt p4)), .val (.int (own_wt p5)), .unset, .unset, .unset, .unset, .unset] [(.int (1 : Int32)), (.int (4 : Int32))])) _
    refine XS.icmpYes X4.here hx rfl (pc0 := 49) (pc' := 65) rfl (hb hby at_49) rfl (feq ((by decide) : ¬ ((4 : Int32) = (1 : Int32)))).2 (by decide) (by decide) ?_
    show Steps p.tables e below (T4.setTop (mkF m 65 #[.val (.int p1), .val (.int p2), .val (.int p3), .val (.int p4), .val (.int p5), .val (.int (4 : Int32)), .val (.int (own_wt p2)), .val (.int (own_wt p3)), .val (.int (own_wt p4)), .val (.int (own_wt p5)), .unset, .unset, .unset, .unset, .unset] [])) _
    refine XS.iload X4.here hx rfl (hb hby at_65) rfl ?_
    show Steps p.tables e below (T4.setTop (mkF m 67 #[.val (.int p1), .val (.int p2), .val (.int p3), .val (.int p4), .val (.int p5), .val (.int (4 : Int32)), .val (.int (own_wt p2)), .val (.int (own_wt p3)), .val (.int (own_wt p4)), .val (.int (own_wt p5)), .unset, .unset, .unset, .unset, .unset] [(.int (4 : Int32))])) _
    refine XS.iconst X4.here hx rfl (hb hby at_67) ?_
    show Steps p.tables e below (T4.setTop (mkF m 68 #[.val (.int p1), .val (.int p2), .val (.int p3), .val (.int p4), .val (.int p5), .val (.int (4 : Int32)), .val (.int (own_wt p2)), .val (.int (own_wt p3)), .val (.int (own_wt p4)), .val (.int (own_wt p5)), .unset, .unset, .unset, .unset, .unset] [(.int (2 : Int32)), (.int (4 : Int32))])) _
    refine XS.icmpYes X4.here hx rfl (pc0 := 68) (pc' := 89) rfl (hb hby at_68) rfl (feq ((by decide) : ¬ ((4 : Int32) = (2 : Int32)))).2 (by decide) (by decide) ?_
    show Steps p.tables e below (T4.setTop (mkF m 89 #[.val (.int p1), .val (.int p2), .val (.int p3), .val (.int p4), .val (.int p5), .val (.int (4 : Int32)), .val (.int (own_wt p2)), .val (.int (own_wt p3)), .val (.int (own_wt p4)), .val (.int (own_wt p5)), .unset, .unset, .unset, .unset, .unset] [])) _
    refine XS.iload X4.here hx rfl (hb hby at_89) rfl ?_
    show Steps p.tables e below (T4.setTop (mkF m 91 #[.val (.int p1), .val (.int p2), .val (.int p3), .val (.int p4), .val (.int p5), .val (.int (4 : Int32)), .val (.int (own_wt p2)), .val (.int (own_wt p3)), .val (.int (own_wt p4)), .val (.int (own_wt p5)), .unset, .unset, .unset, .unset, .unset] [(.int (4 : Int32))])) _
    refine XS.iconst X4.here hx rfl (hb hby at_91) ?_
    show Steps p.tables e below (T4.setTop (mkF m 92 #[.val (.int p1), .val (.int p2), .val (.int p3), .val (.int p4), .val (.int p5), .val (.int (4 : Int32)), .val (.int (own_wt p2)), .val (.int (own_wt p3)), .val (.int (own_wt p4)), .val (.int (own_wt p5)), .unset, .unset, .unset, .unset, .unset] [(.int (3 : Int32)), (.int (4 : Int32))])) _
    refine XS.icmpYes X4.here hx rfl (pc0 := 92) (pc' := 118) rfl (hb hby at_92) rfl (feq ((by decide) : ¬ ((4 : Int32) = (3 : Int32)))).2 (by decide) (by decide) ?_
    show Steps p.tables e below (T4.setTop (mkF m 118 #[.val (.int p1), .val (.int p2), .val (.int p3), .val (.int p4), .val (.int p5), .val (.int (4 : Int32)), .val (.int (own_wt p2)), .val (.int (own_wt p3)), .val (.int (own_wt p4)), .val (.int (own_wt p5)), .unset, .unset, .unset, .unset, .unset] [])) _
    refine XS.iconst X4.here hx rfl (hb hby at_118) ?_
    show Steps p.tables e below (T4.setTop (mkF m 119 #[.val (.int p1), .val (.int p2), .val (.int p3), .val (.int p4), .val (.int p5), .val (.int (4 : Int32)), .val (.int (own_wt p2)), .val (.int (own_wt p3)), .val (.int (own_wt p4)), .val (.int (own_wt p5)), .unset, .unset, .unset, .unset, .unset] [(.int (4 : Int32))])) _
    refine st5 _ ?_
    show Steps p.tables e below (T5.setTop (mkF m 121 #[.val (.int p1), .val (.int p2), .val (.int p3), .val (.int p4), .val (.int p5), .val (.int (4 : Int32)), .val (.int (own_wt p2)), .val (.int (own_wt p3)), .val (.int (own_wt p4)), .val (.int (own_wt p5)), .unset, .unset, .unset, .unset, .unset] [(.ref b5)])) _
    refine XS.dup X5.here hx rfl (hb hby at_121) rfl rfl ?_
    show Steps p.tables e below (T5.setTop (mkF m 122 #[.val (.int p1), .val (.int p2), .val (.int p3), .val (.int p4), .val (.int p5), .val (.int (4 : Int32)), .val (.int (own_wt p2)), .val (.int (own_wt p3)), .val (.int (own_wt p4)), .val (.int (own_wt p5)), .unset, .unset, .unset, .unset, .unset] [(.ref b5), (.ref b5)])) _
    refine XS.iconst X5.here hx rfl (hb hby at_122) ?_
    show Steps p.tables e below (T5.setTop (mkF m 123 #[.val (.int p1), .val (.int p2), .val (.int p3), .val (.int p4), .val (.int p5), .val (.int (4 : Int32)), .val (.int (own_wt p2)), .val (.int (own_wt p3)), .val (.int (own_wt p4)), .val (.int (own_wt p5)), .unset, .unset, .unset, .unset, .unset] [(.int (0 : Int32)), (.ref b5), (.ref b5)])) _
    refine XS.iload X5.here hx rfl (hb hby at_123) rfl ?_
    show Steps p.tables e below (T5.setTop (mkF m 125 #[.val (.int p1), .val (.int p2), .val (.int p3), .val (.int p4), .val (.int p5), .val (.int (4 : Int32)), .val (.int (own_wt p2)), .val (.int (own_wt p3)), .val (.int (own_wt p4)), .val (.int (own_wt p5)), .unset, .unset, .unset, .unset, .unset] [(.int (own_wt p2)), (.int (0 : Int32)), (.ref b5), (.ref b5)])) _
    refine st7 _ ?_
    show Steps p.tables e below (T7.setTop (mkF m 126 #[.val (.int p1), .val (.int p2), .val (.int p3), .val (.int p4), .val (.int p5), .val (.int (4 : Int32)), .val (.int (own_wt p2)), .val (.int (own_wt p3)), .val (.int (own_wt p4)), .val (.int (own_wt p5)), .unset, .unset, .unset, .unset, .unset] [(.ref b5)])) _
    refine XS.dup X7.here hx rfl (hb hby at_126) rfl rfl ?_
    show Steps p.tables e below (T7.setTop (mkF m 127 #[.val (.int p1), .val (.int p2), .val (.int p3), .val (.int p4), .val (.int p5), .val (.int (4 : Int32)), .val (.int (own_wt p2)), .val (.int (own_wt p3)), .val (.int (own_wt p4)), .val (.int (own_wt p5)), .unset, .unset, .unset, .unset, .unset] [(.ref b5), (.ref b5)])) _
    refine XS.iconst X7.here hx rfl (hb hby at_127) ?_
    show Steps p.tables e below (T7.setTop (mkF m 128 #[.val (.int p1), .val (.int p2), .val (.int p3), .val (.int p4), .val (.int p5), .val (.int (4 : Int32)), .val (.int (own_wt p2)), .val (.int (own_wt p3)), .val (.int (own_wt p4)), .val (.int (own_wt p5)), .unset, .unset, .unset, .unset, .unset] [(.int (1 : Int32)), (.ref b5), (.ref b5)])) _
    refine XS.iload X7.here hx rfl (hb hby at_128) rfl ?_
    show Steps p.tables e below (T7.setTop (mkF m 130 #[.val (.int p1), .val (.int p2), .val (.int p3), .val (.int p4), .val (.int p5), .val (.int (4 : Int32)), .val (.int (own_wt p2)), .val (.int (own_wt p3)), .val (.int (own_wt p4)), .val (.int (own_wt p5)), .unset, .unset, .unset, .unset, .unset] [(.int (own_wt p3)), (.int (1 : Int32)), (.ref b5), (.ref b5)])) _
    refine st9 _ ?_
    show Steps p.tables e below (T9.setTop (mkF m 131 #[.val (.int p1), .val (.int p2), .val (.int p3), .val (.int p4), .val (.int p5), .val (.int (4 : Int32)), .val (.int (own_wt p2)), .val (.int (own_wt p3)), .val (.int (own_wt p4)), .val (.int (own_wt p5)), .unset, .unset, .unset, .unset, .unset] [(.ref b5)])) _
    refine XS.dup X9.here hx rfl (hb hby at_131) rfl rfl ?_
    show Steps p.tables e below (T9.setTop (mkF m 132 #[.val (.int p1), .val (.int p2), .val (.int p3), .val (.int p4), .val (.int p5), .val (.int (4 : Int32)), .val (.int (own_wt p2)), .val (.int (own_wt p3)), .val (.int (own_wt p4)), .val (.int (own_wt p5)), .unset, .unset, .unset, .unset, .unset] [(.ref b5), (.ref b5)])) _
    refine XS.iconst X9.here hx rfl (hb hby at_132) ?_
    show Steps p.tables e below (T9.setTop (mkF m 133 #[.val (.int p1), .val (.int p2), .val (.int p3), .val (.int p4), .val (.int p5), .val (.int (4 : Int32)), .val (.int (own_wt p2)), .val (.int (own_wt p3)), .val (.int (own_wt p4)), .val (.int (own_wt p5)), .unset, .unset, .unset, .unset, .unset] [(.int (2 : Int32)), (.ref b5), (.ref b5)])) _
    refine XS.iload X9.here hx rfl (hb hby at_133) rfl ?_
    show Steps p.tables e below (T9.setTop (mkF m 135 #[.val (.int p1), .val (.int p2), .val (.int p3), .val (.int p4), .val (.int p5), .val (.int (4 : Int32)), .val (.int (own_wt p2)), .val (.int (own_wt p3)), .val (.int (own_wt p4)), .val (.int (own_wt p5)), .unset, .unset, .unset, .unset, .unset] [(.int (own_wt p4)), (.int (2 : Int32)), (.ref b5), (.ref b5)])) _
    refine st11 _ ?_
    show Steps p.tables e below (T11.setTop (mkF m 136 #[.val (.int p1), .val (.int p2), .val (.int p3), .val (.int p4), .val (.int p5), .val (.int (4 : Int32)), .val (.int (own_wt p2)), .val (.int (own_wt p3)), .val (.int (own_wt p4)), .val (.int (own_wt p5)), .unset, .unset, .unset, .unset, .unset] [(.ref b5)])) _
    refine XS.dup X11.here hx rfl (hb hby at_136) rfl rfl ?_
    show Steps p.tables e below (T11.setTop (mkF m 137 #[.val (.int p1), .val (.int p2), .val (.int p3), .val (.int p4), .val (.int p5), .val (.int (4 : Int32)), .val (.int (own_wt p2)), .val (.int (own_wt p3)), .val (.int (own_wt p4)), .val (.int (own_wt p5)), .unset, .unset, .unset, .unset, .unset] [(.ref b5), (.ref b5)])) _
    refine XS.iconst X11.here hx rfl (hb hby at_137) ?_
    show Steps p.tables e below (T11.setTop (mkF m 138 #[.val (.int p1), .val (.int p2), .val (.int p3), .val (.int p4), .val (.int p5), .val (.int (4 : Int32)), .val (.int (own_wt p2)), .val (.int (own_wt p3)), .val (.int (own_wt p4)), .val (.int (own_wt p5)), .unset, .unset, .unset, .unset, .unset] [(.int (3 : Int32)), (.ref b5), (.ref b5)])) _
    refine XS.iload X11.here hx rfl (hb hby at_138) rfl ?_
    show Steps p.tables e below (T11.setTop (mkF m 140 #[.val (.int p1), .val (.int p2), .val (.int p3), .val (.int p4), .val (.int p5), .val (.int (4 : Int32)), .val (.int (own_wt p2)), .val (.int (own_wt p3)), .val (.int (own_wt p4)), .val (.int (own_wt p5)), .unset, .unset, .unset, .unset, .unset] [(.int (own_wt p5)), (.int (3 : Int32)), (.ref b5), (.ref b5)])) _
    refine st13 _ ?_
    show Steps p.tables e below (T13.setTop (mkF m 141 #[.val (.int p1), .val (.int p2), .val (.int p3), .val (.int p4), .val (.int p5), .val (.int (4 : Int32)), .val (.int (own_wt p2)), .val (.int (own_wt p3)), .val (.int (own_wt p4)), .val (.int (own_wt p5)), .unset, .unset, .unset, .unset, .unset] [(.ref b5)])) _
    refine XS.astore X13.here hx rfl (hb hby at_141) rfl rfl (l' := #[.val (.int p1), .val (.int p2), .val (.int p3), .val (.int p4), .val (.int p5), .val (.int (4 : Int32)), .val (.int (own_wt p2)), .val (.int (own_wt p3)), .val (.int (own_wt p4)), .val (.int (own_wt p5)), .val (.ref b5), .unset, .unset, .unset, .unset]) rfl ?_
    show Steps p.tables e below (T13.setTop (mkF m 143 #[.val (.int p1), .val (.int p2), .val (.int p3), .val (.int p4), .val (.int p5), .val (.int (4 : Int32)), .val (.int (own_wt p2)), .val (.int (own_wt p3)), .val (.int (own_wt p4)), .val (.int (own_wt p5)), .val (.ref b5), .unset, .unset, .unset, .unset] [])) _
    refine XS.iconst X13.here hx rfl (hb hby at_143) ?_
    show Steps p.tables e below (T13.setTop (mkF m 144 #[.val (.int p1), .val (.int p2), .val (.int p3), .val (.int p4), .val (.int p5), .val (.int (4 : Int32)), .val (.int (own_wt p2)), .val (.int (own_wt p3)), .val (.int (own_wt p4)), .val (.int (own_wt p5)), .val (.ref b5), .unset, .unset, .unset, .unset] [(.int (4 : Int32))])) _
    refine st14 _ ?_
    show Steps p.tables e below (T14.setTop (mkF m 146 #[.val (.int p1), .val (.int p2), .val (.int p3), .val (.int p4), .val (.int p5), .val (.int (4 : Int32)), .val (.int (own_wt p2)), .val (.int (own_wt p3)), .val (.int (own_wt p4)), .val (.int (own_wt p5)), .val (.ref b5), .unset, .unset, .unset, .unset] [(.ref b14)])) _
    refine XS.astore X14.here hx rfl (hb hby at_146) rfl rfl (l' := #[.val (.int p1), .val (.int p2), .val (.int p3), .val (.int p4), .val (.int p5), .val (.int (4 : Int32)), .val (.int (own_wt p2)), .val (.int (own_wt p3)), .val (.int (own_wt p4)), .val (.int (own_wt p5)), .val (.ref b5), .val (.ref b14), .unset, .unset, .unset]) rfl ?_
    show Steps p.tables e below (T14.setTop (mkF m 148 #[.val (.int p1), .val (.int p2), .val (.int p3), .val (.int p4), .val (.int p5), .val (.int (4 : Int32)), .val (.int (own_wt p2)), .val (.int (own_wt p3)), .val (.int (own_wt p4)), .val (.int (own_wt p5)), .val (.ref b5), .val (.ref b14), .unset, .unset, .unset] [])) _
    refine XS.iconst X14.here hx rfl (hb hby at_148) ?_
    show Steps p.tables e below (T14.setTop (mkF m 149 #[.val (.int p1), .val (.int p2), .val (.int p3), .val (.int p4), .val (.int p5), .val (.int (4 : Int32)), .val (.int (own_wt p2)), .val (.int (own_wt p3)), .val (.int (own_wt p4)), .val (.int (own_wt p5)), .val (.ref b5), .val (.ref b14), .unset, .unset, .unset] [(.int (0 : Int32))])) _
    refine XS.istore X14.here hx rfl (hb hby at_149) rfl (l' := #[.val (.int p1), .val (.int p2), .val (.int p3), .val (.int p4), .val (.int p5), .val (.int (4 : Int32)), .val (.int (own_wt p2)), .val (.int (own_wt p3)), .val (.int (own_wt p4)), .val (.int (own_wt p5)), .val (.ref b5), .val (.ref b14), .val (.int (0 : Int32)), .unset, .unset]) rfl ?_
    show Steps p.tables e below (T14.setTop (mkF m 151 #[.val (.int p1), .val (.int p2), .val (.int p3), .val (.int p4), .val (.int p5), .val (.int (4 : Int32)), .val (.int (own_wt p2)), .val (.int (own_wt p3)), .val (.int (own_wt p4)), .val (.int (own_wt p5)), .val (.ref b5), .val (.ref b14), .val (.int (0 : Int32)), .unset, .unset] [])) _
    refine st15 _ ?_
    show Steps p.tables e below (T15.setTop (mkF m 170 #[.val (.int p1), .val (.int p2), .val (.int p3), .val (.int p4), .val (.int p5), .val (.int (4 : Int32)), .val (.int (own_wt p2)), .val (.int (own_wt p3)), .val (.int (own_wt p4)), .val (.int (own_wt p5)), .val (.ref b5), .val (.ref b14), .val (.int ((0 : Int32) + own_b (decide ((0 : Int32) < (own_wt p2))))), .unset, .unset] [])) _
    refine st16 _ ?_
    show Steps p.tables e below (T16.setTop (mkF m 190 #[.val (.int p1), .val (.int p2), .val (.int p3), .val (.int p4), .val (.int p5), .val (.int (4 : Int32)), .val (.int (own_wt p2)), .val (.int (own_wt p3)), .val (.int (own_wt p4)), .val (.int (own_wt p5)), .val (.ref b5), .val (.ref b14), .val (.int (((0 : Int32) + own_b (decide ((0 : Int32) < (own_wt p2)))) + own_b (decide ((0 : Int32) < (own_wt p3))))), .unset, .unset] [])) _
    refine st17 _ ?_
    show Steps p.tables e below (T17.setTop (mkF m 210 #[.val (.int p1), .val (.int p2), .val (.int p3), .val (.int p4), .val (.int p5), .val (.int (4 : Int32)), .val (.int (own_wt p2)), .val (.int (own_wt p3)), .val (.int (own_wt p4)), .val (.int (own_wt p5)), .val (.ref b5), .val (.ref b14), .val (.int ((((0 : Int32) + own_b (decide ((0 : Int32) < (own_wt p2)))) + own_b (decide ((0 : Int32) < (own_wt p3)))) + own_b (decide ((0 : Int32) < (own_wt p4))))), .unset, .unset] [])) _
    refine st18 _ ?_
    show Steps p.tables e below (T18.setTop (mkF m 230 #[.val (.int p1), .val (.int p2), .val (.int p3), .val (.int p4), .val (.int p5), .val (.int (4 : Int32)), .val (.int (own_wt p2)), .val (.int (own_wt p3)), .val (.int (own_wt p4)), .val (.int (own_wt p5)), .val (.ref b5), .val (.ref b14), .val (.int (((((0 : Int32) + own_b (decide ((0 : Int32) < (own_wt p2)))) + own_b (decide ((0 : Int32) < (own_wt p3)))) + own_b (decide ((0 : Int32) < (own_wt p4)))) + own_b (decide ((0 : Int32) < (own_wt p5))))), .unset, .unset] [])) _
    refine XS.aload X18.here hx rfl (hb hby at_230) rfl rfl ?_
    show Steps p.tables e below (T18.setTop (mkF m 232 #[.val (.int p1), .val (.int p2), .val (.int p3), .val (.int p4), .val (.int p5), .val (.int (4 : Int32)), .val (.int (own_wt p2)), .val (.int (own_wt p3)), .val (.int (own_wt p4)), .val (.int (own_wt p5)), .val (.ref b5), .val (.ref b14), .val (.int (((((0 : Int32) + own_b (decide ((0 : Int32) < (own_wt p2)))) + own_b (decide ((0 : Int32) < (own_wt p3)))) + own_b (decide ((0 : Int32) < (own_wt p4)))) + own_b (decide ((0 : Int32) < (own_wt p5))))), .unset, .unset] [(.ref b5)])) _
    refine st19 _ ?_
    show Steps p.tables e below (T19.setTop (mkF m 235 #[.val (.int p1), .val (.int p2), .val (.int p3), .val (.int p4), .val (.int p5), .val (.int (4 : Int32)), .val (.int (own_wt p2)), .val (.int (own_wt p3)), .val (.int (own_wt p4)), .val (.int (own_wt p5)), .val (.ref b5), .val (.ref b14), .val (.int (((((0 : Int32) + own_b (decide ((0 : Int32) < (own_wt p2)))) + own_b (decide ((0 : Int32) < (own_wt p3)))) + own_b (decide ((0 : Int32) < (own_wt p4)))) + own_b (decide ((0 : Int32) < (own_wt p5))))), .unset, .unset] [(.ref c19)])) _
    refine XS.astore X19.here hx rfl (hb hby at_235) rfl rfl (l' := #[.val (.int p1), .val (.int p2), .val (.int p3), .val (.int p4), .val (.int p5), .val (.int (4 : Int32)), .val (.int (own_wt p2)), .val (.int (own_wt p3)), .val (.int (own_wt p4)), .val (.int (own_wt p5)), .val (.ref b5), .val (.ref b14), .val (.int (((((0 : Int32) + own_b (decide ((0 : Int32) < (own_wt p2)))) + own_b (decide ((0 : Int32) < (own_wt p3)))) + own_b (decide ((0 : Int32) < (own_wt p4)))) + own_b (decide ((0 : Int32) < (own_wt p5))))), .val (.ref c19), .unset]) rfl ?_
    show Steps p.tables e below (T19.setTop (mkF m 237 #[.val (.int p1), .val (.int p2), .val (.int p3), .val (.int p4), .val (.int p5), .val (.int (4 : Int32)), .val (.int (own_wt p2)), .val (.int (own_wt p3)), .val (.int (own_wt p4)), .val (.int (own_wt p5)), .val (.ref b5), .val (.ref b14), .val (.int (((((0 : Int32) + own_b (decide ((0 : Int32) < (own_wt p2)))) + own_b (decide ((0 : Int32) < (own_wt p3)))) + own_b (decide ((0 : Int32) < (own_wt p4)))) + own_b (decide ((0 : Int32) < (own_wt p5))))), .val (.ref c19), .unset] [])) _
    refine XS.aload X19.here hx rfl (hb hby at_237) rfl rfl ?_
    show Steps p.tables e below (T19.setTop (mkF m 239 #[.val (.int p1), .val (.int p2), .val (.int p3), .val (.int p4), .val (.int p5), .val (.int (4 : Int32)), .val (.int (own_wt p2)), .val (.int (own_wt p3)), .val (.int (own_wt p4)), .val (.int (own_wt p5)), .val (.ref b5), .val (.ref b14), .val (.int (((((0 : Int32) + own_b (decide ((0 : Int32) < (own_wt p2)))) + own_b (decide ((0 : Int32) < (own_wt p3)))) + own_b (decide ((0 : Int32) < (own_wt p4)))) + own_b (decide ((0 : Int32) < (own_wt p5))))), .val (.ref c19), .unset] [(.ref c19)])) _
    refine XS.ifnullNo X19.here hx rfl (hb hby at_239) rfl ?_
    show Steps p.tables e below (T19.setTop (mkF m 242 #[.val (.int p1), .val (.int p2), .val (.int p3), .val (.int p4), .val (.int p5), .val (.int (4 : Int32)), .val (.int (own_wt p2)), .val (.int (own_wt p3)), .val (.int (own_wt p4)), .val (.int (own_wt p5)), .val (.ref b5), .val (.ref b14), .val (.int (((((0 : Int32) + own_b (decide ((0 : Int32) < (own_wt p2)))) + own_b (decide ((0 : Int32) < (own_wt p3)))) + own_b (decide ((0 : Int32) < (own_wt p4)))) + own_b (decide ((0 : Int32) < (own_wt p5))))), .val (.ref c19), .unset] [])) _
    refine XS.aload X19.here hx rfl (hb hby at_242) rfl rfl ?_
    show Steps p.tables e below (T19.setTop (mkF m 244 #[.val (.int p1), .val (.int p2), .val (.int p3), .val (.int p4), .val (.int p5), .val (.int (4 : Int32)), .val (.int (own_wt p2)), .val (.int (own_wt p3)), .val (.int (own_wt p4)), .val (.int (own_wt p5)), .val (.ref b5), .val (.ref b14), .val (.int (((((0 : Int32) + own_b (decide ((0 : Int32) < (own_wt p2)))) + own_b (decide ((0 : Int32) < (own_wt p3)))) + own_b (decide ((0 : Int32) < (own_wt p4)))) + own_b (decide ((0 : Int32) < (own_wt p5))))), .val (.ref c19), .unset] [(.ref c19)])) _
    refine X19.arraylength hx Ar20.1 (State.isArrayOf_alike hZ.alike Ar20.2.1) (g := (mkF m 244 #[.val (.int p1), .val (.int p2), .val (.int p3), .val (.int p4), .val (.int p5), .val (.int (4 : Int32)), .val (.int (own_wt p2)), .val (.int (own_wt p3)), .val (.int (own_wt p4)), .val (.int (own_wt p5)), .val (.ref b5), .val (.ref b14), .val (.int (((((0 : Int32) + own_b (decide ((0 : Int32) < (own_wt p2)))) + own_b (decide ((0 : Int32) < (own_wt p3)))) + own_b (decide ((0 : Int32) < (own_wt p4)))) + own_b (decide ((0 : Int32) < (own_wt p5))))), .val (.ref c19), .unset] [(.ref c19)])) rfl rfl (hb hby at_244) _ ?_
    rw [len_of S20 M20]
    show Steps p.tables e below (T19.setTop (mkF m 245 #[.val (.int p1), .val (.int p2), .val (.int p3), .val (.int p4), .val (.int p5), .val (.int (4 : Int32)), .val (.int (own_wt p2)), .val (.int (own_wt p3)), .val (.int (own_wt p4)), .val (.int (own_wt p5)), .val (.ref b5), .val (.ref b14), .val (.int (((((0 : Int32) + own_b (decide ((0 : Int32) < (own_wt p2)))) + own_b (decide ((0 : Int32) < (own_wt p3)))) + own_b (decide ((0 : Int32) < (own_wt p4)))) + own_b (decide ((0 : Int32) < (own_wt p5))))), .val (.ref c19), .unset] [(.int (((((0 : Int32) + own_b (decide ((0 : Int32) < (own_wt p2)))) + own_b (decide ((0 : Int32) < (own_wt p3)))) + own_b (decide ((0 : Int32) < (own_wt p4)))) + own_b (decide ((0 : Int32) < (own_wt p5)))))])) _
    refine XS.iload X19.here hx rfl (hb hby at_245) rfl ?_
    show Steps p.tables e below (T19.setTop (mkF m 247 #[.val (.int p1), .val (.int p2), .val (.int p3), .val (.int p4), .val (.int p5), .val (.int (4 : Int32)), .val (.int (own_wt p2)), .val (.int (own_wt p3)), .val (.int (own_wt p4)), .val (.int (own_wt p5)), .val (.ref b5), .val (.ref b14), .val (.int (((((0 : Int32) + own_b (decide ((0 : Int32) < (own_wt p2)))) + own_b (decide ((0 : Int32) < (own_wt p3)))) + own_b (decide ((0 : Int32) < (own_wt p4)))) + own_b (decide ((0 : Int32) < (own_wt p5))))), .val (.ref c19), .unset] [(.int (((((0 : Int32) + own_b (decide ((0 : Int32) < (own_wt p2)))) + own_b (decide ((0 : Int32) < (own_wt p3)))) + own_b (decide ((0 : Int32) < (own_wt p4)))) + own_b (decide ((0 : Int32) < (own_wt p5))))), (.int (((((0 : Int32) + own_b (decide ((0 : Int32) < (own_wt p2)))) + own_b (decide ((0 : Int32) < (own_wt p3)))) + own_b (decide ((0 : Int32) < (own_wt p4)))) + own_b (decide ((0 : Int32) < (own_wt p5)))))])) _
    refine XS.icmpYes X19.here hx rfl (pc0 := 247) (pc' := 252) rfl (hb hby at_247) rfl (teq (rfl : (((((0 : Int32) + own_b (decide ((0 : Int32) < (own_wt p2)))) + own_b (decide ((0 : Int32) < (own_wt p3)))) + own_b (decide ((0 : Int32) < (own_wt p4)))) + own_b (decide ((0 : Int32) < (own_wt p5)))) = (((((0 : Int32) + own_b (decide ((0 : Int32) < (own_wt p2)))) + own_b (decide ((0 : Int32) < (own_wt p3)))) + own_b (decide ((0 : Int32) < (own_wt p4)))) + own_b (decide ((0 : Int32) < (own_wt p5)))))).1 (by decide) (by decide) ?_
    show Steps p.tables e below (T19.setTop (mkF m 252 #[.val (.int p1), .val (.int p2), .val (.int p3), .val (.int p4), .val (.int p5), .val (.int (4 : Int32)), .val (.int (own_wt p2)), .val (.int (own_wt p3)), .val (.int (own_wt p4)), .val (.int (own_wt p5)), .val (.ref b5), .val (.ref b14), .val (.int (((((0 : Int32) + own_b (decide ((0 : Int32) < (own_wt p2)))) + own_b (decide ((0 : Int32) < (own_wt p3)))) + own_b (decide ((0 : Int32) < (own_wt p4)))) + own_b (decide ((0 : Int32) < (own_wt p5))))), .val (.ref c19), .unset] [])) _
    refine XS.iconst X19.here hx rfl (hb hby at_252) ?_
    show Steps p.tables e below (T19.setTop (mkF m 253 #[.val (.int p1), .val (.int p2), .val (.int p3), .val (.int p4), .val (.int p5), .val (.int (4 : Int32)), .val (.int (own_wt p2)), .val (.int (own_wt p3)), .val (.int (own_wt p4)), .val (.int (own_wt p5)), .val (.ref b5), .val (.ref b14), .val (.int (((((0 : Int32) + own_b (decide ((0 : Int32) < (own_wt p2)))) + own_b (decide ((0 : Int32) < (own_wt p3)))) + own_b (decide ((0 : Int32) < (own_wt p4)))) + own_b (decide ((0 : Int32) < (own_wt p5))))), .val (.ref c19), .unset] [(.int (1 : Int32))])) _
    refine XS.istore X19.here hx rfl (hb hby at_253) rfl (l' := #[.val (.int p1), .val (.int p2), .val (.int p3), .val (.int p4), .val (.int p5), .val (.int (4 : Int32)), .val (.int (own_wt p2)), .val (.int (own_wt p3)), .val (.int (own_wt p4)), .val (.int (own_wt p5)), .val (.ref b5), .val (.ref b14), .val (.int (((((0 : Int32) + own_b (decide ((0 : Int32) < (own_wt p2)))) + own_b (decide ((0 : Int32) < (own_wt p3)))) + own_b (decide ((0 : Int32) < (own_wt p4)))) + own_b (decide ((0 : Int32) < (own_wt p5))))), .val (.ref c19), .val (.int (1 : Int32))]) rfl ?_
    show Steps p.tables e below (T19.setTop (mkF m 255 #[.val (.int p1), .val (.int p2), .val (.int p3), .val (.int p4), .val (.int p5), .val (.int (4 : Int32)), .val (.int (own_wt p2)), .val (.int (own_wt p3)), .val (.int (own_wt p4)), .val (.int (own_wt p5)), .val (.ref b5), .val (.ref b14), .val (.int (((((0 : Int32) + own_b (decide ((0 : Int32) < (own_wt p2)))) + own_b (decide ((0 : Int32) < (own_wt p3)))) + own_b (decide ((0 : Int32) < (own_wt p4)))) + own_b (decide ((0 : Int32) < (own_wt p5))))), .val (.ref c19), .val (.int (1 : Int32))] [])) _
    refine ck0 p1 p2 p3 p4 p5 (4 : Int32) (own_wt p2) (own_wt p3) (own_wt p4) (own_wt p5) b5 b14 c19 (((((0 : Int32) + own_b (decide ((0 : Int32) < (own_wt p2)))) + own_b (decide ((0 : Int32) < (own_wt p3)))) + own_b (decide ((0 : Int32) < (own_wt p4)))) + own_b (decide ((0 : Int32) < (own_wt p5)))) k14 kk19 (own_set (decide ((0 : Int32) < (own_wt p5))) (own_set (decide ((0 : Int32) < (own_wt p4))) (own_set (decide ((0 : Int32) < (own_wt p3))) (own_set (decide ((0 : Int32) < (own_wt p2))) [(.int (0 : Int32)), (.int (0 : Int32)), (.int (0 : Int32)), (.int (0 : Int32))] (0 : Int32) (0 : Int32)) ((0 : Int32) + own_b (decide ((0 : Int32) < (own_wt p2)))) (1 : Int32)) (((0 : Int32) + own_b (decide ((0 : Int32) < (own_wt p2)))) + own_b (decide ((0 : Int32) < (own_wt p3)))) (2 : Int32)) ((((0 : Int32) + own_b (decide ((0 : Int32) < (own_wt p2)))) + own_b (decide ((0 : Int32) < (own_wt p3)))) + own_b (decide ((0 : Int32) < (own_wt p4)))) (3 : Int32)) z21 X19 hx hZ hw hby hml hown rfl N19 Z19 V_b14_19 Vt19 hz21 _ ?_
    show Steps p.tables e below (T19.setTop (mkF m 283 #[.val (.int p1), .val (.int p2), .val (.int p3), .val (.int p4), .val (.int p5), .val (.int (4 : Int32)), .val (.int (own_wt p2)), .val (.int (own_wt p3)), .val (.int (own_wt p4)), .val (.int (own_wt p5)), .val (.ref b5), .val (.ref b14), .val (.int (((((0 : Int32) + own_b (decide ((0 : Int32) < (own_wt p2)))) + own_b (decide ((0 : Int32) < (own_wt p3)))) + own_b (decide ((0 : Int32) < (own_wt p4)))) + own_b (decide ((0 : Int32) < (own_wt p5))))), .val (.ref c19), .val (.int (1 : Int32))] [])) _
    refine ck1 p1 p2 p3 p4 p5 (4 : Int32) (own_wt p2) (own_wt p3) (own_wt p4) (own_wt p5) b5 b14 c19 (((((0 : Int32) + own_b (decide ((0 : Int32) < (own_wt p2)))) + own_b (decide ((0 : Int32) < (own_wt p3)))) + own_b (decide ((0 : Int32) < (own_wt p4)))) + own_b (decide ((0 : Int32) < (own_wt p5)))) k14 kk19 (own_set (decide ((0 : Int32) < (own_wt p5))) (own_set (decide ((0 : Int32) < (own_wt p4))) (own_set (decide ((0 : Int32) < (own_wt p3))) (own_set (decide ((0 : Int32) < (own_wt p2))) [(.int (0 : Int32)), (.int (0 : Int32)), (.int (0 : Int32)), (.int (0 : Int32))] (0 : Int32) (0 : Int32)) ((0 : Int32) + own_b (decide ((0 : Int32) < (own_wt p2)))) (1 : Int32)) (((0 : Int32) + own_b (decide ((0 : Int32) < (own_wt p2)))) + own_b (decide ((0 : Int32) < (own_wt p3)))) (2 : Int32)) ((((0 : Int32) + own_b (decide ((0 : Int32) < (own_wt p2)))) + own_b (decide ((0 : Int32) < (own_wt p3)))) + own_b (decide ((0 : Int32) < (own_wt p4)))) (3 : Int32)) z22 X19 hx hZ hw hby hml hown rfl N19 Z19 V_b14_19 Vt19 hz22 _ ?_
    show Steps p.tables e below (T19.setTop (mkF m 312 #[.val (.int p1), .val (.int p2), .val (.int p3), .val (.int p4), .val (.int p5), .val (.int (4 : Int32)), .val (.int (own_wt p2)), .val (.int (own_wt p3)), .val (.int (own_wt p4)), .val (.int (own_wt p5)), .val (.ref b5), .val (.ref b14), .val (.int (((((0 : Int32) + own_b (decide ((0 : Int32) < (own_wt p2)))) + own_b (decide ((0 : Int32) < (own_wt p3)))) + own_b (decide ((0 : Int32) < (own_wt p4)))) + own_b (decide ((0 : Int32) < (own_wt p5))))), .val (.ref c19), .val (.int (1 : Int32))] [])) _
    refine ck2 p1 p2 p3 p4 p5 (4 : Int32) (own_wt p2) (own_wt p3) (own_wt p4) (own_wt p5) b5 b14 c19 (((((0 : Int32) + own_b (decide ((0 : Int32) < (own_wt p2)))) + own_b (decide ((0 : Int32) < (own_wt p3)))) + own_b (decide ((0 : Int32) < (own_wt p4)))) + own_b (decide ((0 : Int32) < (own_wt p5)))) k14 kk19 (own_set (decide ((0 : Int32) < (own_wt p5))) (own_set (decide ((0 : Int32) < (own_wt p4))) (own_set (decide ((0 : Int32) < (own_wt p3))) (own_set (decide ((0 : Int32) < (own_wt p2))) [(.int (0 : Int32)), (.int (0 : Int32)), (.int (0 : Int32)), (.int (0 : Int32))] (0 : Int32) (0 : Int32)) ((0 : Int32) + own_b (decide ((0 : Int32) < (own_wt p2)))) (1 : Int32)) (((0 : Int32) + own_b (decide ((0 : Int32) < (own_wt p2)))) + own_b (decide ((0 : Int32) < (own_wt p3)))) (2 : Int32)) ((((0 : Int32) + own_b (decide ((0 : Int32) < (own_wt p2)))) + own_b (decide ((0 : Int32) < (own_wt p3)))) + own_b (decide ((0 : Int32) < (own_wt p4)))) (3 : Int32)) z23 X19 hx hZ hw hby hml hown rfl N19 Z19 V_b14_19 Vt19 hz23 _ ?_
    show Steps p.tables e below (T19.setTop (mkF m 341 #[.val (.int p1), .val (.int p2), .val (.int p3), .val (.int p4), .val (.int p5), .val (.int (4 : Int32)), .val (.int (own_wt p2)), .val (.int (own_wt p3)), .val (.int (own_wt p4)), .val (.int (own_wt p5)), .val (.ref b5), .val (.ref b14), .val (.int (((((0 : Int32) + own_b (decide ((0 : Int32) < (own_wt p2)))) + own_b (decide ((0 : Int32) < (own_wt p3)))) + own_b (decide ((0 : Int32) < (own_wt p4)))) + own_b (decide ((0 : Int32) < (own_wt p5))))), .val (.ref c19), .val (.int (1 : Int32))] [])) _
    refine ck3 p1 p2 p3 p4 p5 (4 : Int32) (own_wt p2) (own_wt p3) (own_wt p4) (own_wt p5) b5 b14 c19 (((((0 : Int32) + own_b (decide ((0 : Int32) < (own_wt p2)))) + own_b (decide ((0 : Int32) < (own_wt p3)))) + own_b (decide ((0 : Int32) < (own_wt p4)))) + own_b (decide ((0 : Int32) < (own_wt p5)))) k14 kk19 (own_set (decide ((0 : Int32) < (own_wt p5))) (own_set (decide ((0 : Int32) < (own_wt p4))) (own_set (decide ((0 : Int32) < (own_wt p3))) (own_set (decide ((0 : Int32) < (own_wt p2))) [(.int (0 : Int32)), (.int (0 : Int32)), (.int (0 : Int32)), (.int (0 : Int32))] (0 : Int32) (0 : Int32)) ((0 : Int32) + own_b (decide ((0 : Int32) < (own_wt p2)))) (1 : Int32)) (((0 : Int32) + own_b (decide ((0 : Int32) < (own_wt p2)))) + own_b (decide ((0 : Int32) < (own_wt p3)))) (2 : Int32)) ((((0 : Int32) + own_b (decide ((0 : Int32) < (own_wt p2)))) + own_b (decide ((0 : Int32) < (own_wt p3)))) + own_b (decide ((0 : Int32) < (own_wt p4)))) (3 : Int32)) z24 X19 hx hZ hw hby hml hown rfl N19 Z19 V_b14_19 Vt19 hz24 _ ?_
    show Steps p.tables e below (T19.setTop (mkF m 370 #[.val (.int p1), .val (.int p2), .val (.int p3), .val (.int p4), .val (.int p5), .val (.int (4 : Int32)), .val (.int (own_wt p2)), .val (.int (own_wt p3)), .val (.int (own_wt p4)), .val (.int (own_wt p5)), .val (.ref b5), .val (.ref b14), .val (.int (((((0 : Int32) + own_b (decide ((0 : Int32) < (own_wt p2)))) + own_b (decide ((0 : Int32) < (own_wt p3)))) + own_b (decide ((0 : Int32) < (own_wt p4)))) + own_b (decide ((0 : Int32) < (own_wt p5))))), .val (.ref c19), .val (.int (1 : Int32))] [])) _
    refine XS.iload X19.here hx rfl (hb hby at_370) rfl ?_
    show Steps p.tables e below (T19.setTop (mkF m 372 #[.val (.int p1), .val (.int p2), .val (.int p3), .val (.int p4), .val (.int p5), .val (.int (4 : Int32)), .val (.int (own_wt p2)), .val (.int (own_wt p3)), .val (.int (own_wt p4)), .val (.int (own_wt p5)), .val (.ref b5), .val (.ref b14), .val (.int (((((0 : Int32) + own_b (decide ((0 : Int32) < (own_wt p2)))) + own_b (decide ((0 : Int32) < (own_wt p3)))) + own_b (decide ((0 : Int32) < (own_wt p4)))) + own_b (decide ((0 : Int32) < (own_wt p5))))), .val (.ref c19), .val (.int (1 : Int32))] [(.int (1 : Int32))])) _
    exact retN X19 hx (t := .boolean) Bd.returns (by simp) (hb hby at_372) hr
  · show Q0 Z p1 p2 p3 p4 p5 h0 n0 _ T19.heap _
    exact ⟨rfl, N19⟩
theorem own_five (p1 : Int32) : ((p1 &&& (7 : Int32)) % (5 : Int32)) = (0 : Int32) ∨ ((p1 &&& (7 : Int32)) % (5 : Int32)) = (1 : Int32) ∨ ((p1 &&& (7 : Int32)) % (5 : Int32)) = (2 : Int32) ∨ ((p1 &&& (7 : Int32)) % (5 : Int32)) = (3 : Int32) ∨ ((p1 &&& (7 : Int32)) % (5 : Int32)) = (4 : Int32) := by
  have h0 : (p1 &&& (7 : Int32)).toInt = p1.toInt % 8 := Jvm.Kit.i32_mask p1 7 (k := 3) (by decide) (by decide)
  generalize (p1 &&& (7 : Int32)) = y at h0 ⊢
  have h1 : (y % (5 : Int32)).toInt = y.toInt % 5 := Jvm.Kit.i32_rem_nonneg (by omega)
  have h2 : (y % (5 : Int32)).toInt = 0 ∨ (y % (5 : Int32)).toInt = 1 ∨ (y % (5 : Int32)).toInt = 2 ∨ (y % (5 : Int32)).toInt = 3 ∨ (y % (5 : Int32)).toInt = 4 := by omega
  rcases h2 with h | h | h | h | h
  · exact Or.inl (Int32.toInt_inj.mp h)
  · exact Or.inr (Or.inl (Int32.toInt_inj.mp h))
  · exact Or.inr (Or.inr (Or.inl (Int32.toInt_inj.mp h)))
  · exact Or.inr (Or.inr (Or.inr (Or.inl (Int32.toInt_inj.mp h))))
  · exact Or.inr (Or.inr (Or.inr (Or.inr (Int32.toInt_inj.mp h))))
theorem rm0 (l : Launch) (Z : State) (a0 : Array Value) (hw : ∀ d ∈ tables_1, d.before a0 Z = true) (ws : List Jvm.Cond) (p1 p2 p3 p4 p5 : Int32) (h0 : Heap) (n0 : Nat) (Z0 : n0 ≤ h0.size) : MetFree l x (head1 (Jvm.Cond.code x code maxLocals ret :: ws) room_1) (fun a U => a = #[(.int p1), (.int p2), (.int p3), (.int p4), (.int p5)] ∧ Z.Warmed39 U.vm ∧ U.heap = h0) (fun _ _ _ _ _ => True) (fun _ U o U' => ∃ v L, o = .returned v ∧ Q0 Z p1 p2 p3 p4 p5 h0 n0 v U'.heap L ∧ FrameEnd U o U' L room_1.cells room_1.slots) := by
  rcases own_five p1 with h | h | h | h | h
  · exact rm0_0 l Z a0 hw ws p1 p2 p3 p4 p5 h0 n0 Z0 h
  · exact rm0_1 l Z a0 hw ws p1 p2 p3 p4 p5 h0 n0 Z0 h
  · exact rm0_2 l Z a0 hw ws p1 p2 p3 p4 p5 h0 n0 Z0 h
  · exact rm0_3 l Z a0 hw ws p1 p2 p3 p4 p5 h0 n0 Z0 h
  · exact rm0_4 l Z a0 hw ws p1 p2 p3 p4 p5 h0 n0 Z0 h
set_option maxRecDepth 65536 in
set_option maxHeartbeats 40000000 in
theorem comes_1 {Post : Tables → Env → Array Value → State → Outcome → State → Prop} (hpost : ∀ tb e args s v u, (limb_1_1.after args s (.returned v) u = true ∧ limb_1_2.after args s (.returned v) u = true ∧ True) → FrameEnd s (.returned v) u (Jvm.fieldLocs frame_1_writes args s ++ Jvm.arrayLocs frame_1_arrays args s ++ Jvm.staticLocs frame_1_statics s) 16 128 → Post tb e args s (.returned v) u) :
    ArmFor flags0 classFile x code maxLocals ret World_1 tables_1 room_1 Calls_1 rest_1 Pre_1 Post := by
  intro l hfl _ _ p e ha hc hk s m args below hf hA hF happ hP
  obtain ⟨hcalls, hrest, hpre⟩ := hP
  obtain ⟨-, -, -, hnamed, -, -, -, hat⟩ := (Spec.applies_iff hf).mp happ
  obtain ⟨hg, hn⟩ := and_e (Cond.before_iff.mp (show (Jvm.Cond.and given_1 narrow_1).before args s = true from hpre))
  obtain ⟨u0, r0⟩ := and_e hg
  obtain ⟨u1, r1⟩ := and_e r0
  obtain ⟨u2, r2⟩ := and_e r1
  obtain ⟨u3, r3⟩ := and_e r2
  obtain ⟨u4, r4⟩ := and_e r3
  obtain ⟨w0, w1, w2, w3, w4, rfl⟩ : ∃ w0 w1 w2 w3 w4 : Value, args = #[w0, w1, w2, w3, w4] := by
    have hs : args.size = 5 := by simpa [Cond.value, given_1] using u0
    obtain ⟨L⟩ := args
    match L, hs with
    | [w0, w1, w2, w3, w4], _ => exact ⟨w0, w1, w2, w3, w4, rfl⟩
  have hw := fun d (hd : d ∈ tables_1) => atoms_spec (ws := Jvm.Cond.code x code maxLocals ret :: tables_1) hat d (List.mem_cons_of_mem _ hd)
  obtain ⟨i0, ei0⟩ := is_v u1
  obtain rfl : w0 = (.int i0) := Option.some.inj ei0
  obtain ⟨i1, ei1⟩ := is_v u2
  obtain rfl : w1 = (.int i1) := Option.some.inj ei1
  obtain ⟨i2, ei2⟩ := is_v u3
  obtain rfl : w2 = (.int i2) := Option.some.inj ei2
  obtain ⟨i3, ei3⟩ := is_v u4
  obtain rfl : w3 = (.int i3) := Option.some.inj ei3
  obtain ⟨i4, ei4⟩ := is_v r4
  obtain rfl : w4 = (.int i4) := Option.some.inj ei4
  obtain ⟨n, o, h1, h2, h3, _, L, rfl, ⟨rfl, N⟩, hq⟩ := rm0 l s _ hw tables_1 i0 i1 i2 i3 i4 s.heap s.heap.size (Nat.le_refl _) p e ha hc hk s m _ below hf ((Spec.applies_iff_loose hf).mp happ).1 ⟨rfl, State.Warmed39.refl s, rfl⟩ trivial
  refine ⟨n, _, h1, h2, h3, hpost _ _ _ _ _ _ ⟨Cond.after_iff.mpr rfl, Cond.after_iff.mpr (eq_i res_at (Term.int_eval (1)) rfl), trivial⟩ ⟨hq.1, hq.2.1, (hq.2.2.sift fun y hy => Or.inr (N y hy)).mono (by decide) (by decide)⟩⟩
theorem main_1_1 : Claimed_1_1 := comes_1 fun _ _ _ _ _ _ h hF => ⟨h.1, hF⟩
theorem main_1_2 : Claimed_1_2 := comes_1 fun _ _ _ _ _ _ h hF => ⟨h.2.1, hF⟩
end Jvm.Pilot.@@N@@
namespace Jvm.Pilot.@@N@@
open Jvm Jvm.ClassFile Sem Op Lib Jvm.Free Jvm.Stand Jvm.Pilot.@@N@@.Jvm.D
/-! MADE BY PROGRAM (witnessworld.py) out of the Statement's table words and the real class files: 9 classes; the members and pool entries that the words name. The judged class is class 1, her method 1. -/
namespace start1
open Jvm.ClassFile
def u (s : String) : CpInfo := .utf8 (stringToUtf16 s)
/-- a pool by its gaps: so many unusable entries, then the entry; so many at the end -/
def gap : Nat → List CpInfo → List CpInfo
  | 0, r => r
  | n + 1, r => .unusable :: gap n r
def poolList (es : List (Nat × CpInfo)) (last : Nat) : List CpInfo := es.foldr (fun e r => gap e.1 (e.2 :: r)) (gap last [])
def pool (es : List (Nat × CpInfo)) (last : Nat) : Array CpInfo := ⟨poolList es last⟩
def fileOf (pool : Array CpInfo) (this : Nat) (attrs : Array Attribute := #[]) (ms : Array MethodInfo := #[]) (fl : Nat := 33) (sup : Nat := 0) (ifs : Array Nat := #[]) (fds : Array FieldInfo := #[]) : ClassFile where
  minorVersion := 0
  majorVersion := 65
  constantPool := pool
  accessFlags := fl
  thisClass := this
  superClass := sup
  interfaces := ifs
  fields := fds
  methods := ms
  attributes := attrs
def plain (name : String) (sup : Option ClassId) : Class where
  name := name
  kind := .ordinary
  loader := none
  accessFlags := 33
  super := sup
  interfaces := #[]
  cf := none
  fields := #[]
  methods := #[]
  instanceTypes := #[]
  staticTypes := #[]
  resolved := #[]
  callSites := []
  init := .initialized
  statics := none
  mirror := none

def pool0 : Array CpInfo := pool [(5, u "<init>"), (0, u "()V"), (1, .class_ 10), (1, u "java/lang/Object")] 113

def k0m0 : Method := { name := "<init>", desc := "()V", sig := { parameters := [], returnType := none }, accessFlags := 1, code := none }
/-- java/lang/Object -/
def k0 : Class := { plain "java/lang/Object" none with
  accessFlags := 33
  interfaces := #[]
  cf := some (fileOf pool0 8 #[] #[{ accessFlags := 1, nameIndex := 5, descriptorIndex := 6, attributes := #[] }] 33 0 #[] #[])
  fields := #[]
  methods := #[k0m0]
  instanceTypes := #[]
  staticTypes := #[]
  resolved := Array.replicate 124 none
  statics := none }

def pool1 : Array CpInfo := pool [(2, .class_ 4), (1, u "java/lang/Object"), (0, u "<init>"), (0, u "()V"), (0, .methodref 8 9), (0, .class_ 10), (0, .nameAndType 11 12), (0, u "com/example/steelyard/steelyard/CandidatesPositiveIndicesPinLaw"), (0, u "weightOf"), (0, u "(I)I"), (0, .methodref 14 15), (0, .class_ 16), (0, .nameAndType 17 18), (0, u "com/example/steelyard/steelyard/Candidates"), (0, u "positiveIndices"), (0, u "([I)[I"), (2, u "law"), (0, u "(IIIII)Z")] 5

def k1m0 : Method := { name := "<init>", desc := "()V", sig := { parameters := [], returnType := none }, accessFlags := 1, code := none }
def k1c1 : Code := { maxStack := 4, maxLocals := 15, code := code, exceptionTable := #[], attributes := #[] }
def k1m1 : Method := { name := "law", desc := "(IIIII)Z", sig := { parameters := [.int, .int, .int, .int, .int], returnType := some .boolean }, accessFlags := 9, code := some k1c1 }
def k1c2 : Code := { maxStack := 2, maxLocals := 1, code := method_3_code, exceptionTable := #[], attributes := #[] }
def k1m2 : Method := { name := "weightOf", desc := "(I)I", sig := { parameters := [.int], returnType := some .int }, accessFlags := 10, code := some k1c2 }
/-- com/example/steelyard/steelyard/CandidatesPositiveIndicesPinLaw -/
def k1 : Class := { plain "com/example/steelyard/steelyard/CandidatesPositiveIndicesPinLaw" (some 0) with
  accessFlags := 49
  interfaces := #[]
  cf := some (fileOf pool1 8 #[] #[{ accessFlags := 1, nameIndex := 5, descriptorIndex := 6, attributes := #[] }, { accessFlags := 9, nameIndex := 21, descriptorIndex := 22, attributes := #[] }, { accessFlags := 10, nameIndex := 11, descriptorIndex := 12, attributes := #[] }] 49 2 #[] #[])
  fields := #[]
  methods := #[k1m0, k1m1, k1m2]
  instanceTypes := #[]
  staticTypes := #[]
  resolved := Array.replicate 28 none
  statics := none }

def pool2 : Array CpInfo := pool [(2, .class_ 4), (1, u "java/lang/Object"), (3, .class_ 10), (1, u "com/example/steelyard/steelyard/Candidates"), (0, u "providers"), (0, u "Ljava/util/List;"), (2, u "weights"), (0, u "[I"), (2, u "loads"), (0, u "[Lcom/example/steelyard/steelyard/Load;"), (19, u "positiveIndices"), (0, u "([I)[I")] 4

def k2c0 : Code := { maxStack := 3, maxLocals := 6, code := prog_8_method_7_code, exceptionTable := #[], attributes := #[] }
def k2m0 : Method := { name := "positiveIndices", desc := "([I)[I", sig := { parameters := [(.array .int)], returnType := some (.array .int) }, accessFlags := 8, code := some k2c0 }
/-- com/example/steelyard/steelyard/Candidates -/
def k2 : Class := { plain "com/example/steelyard/steelyard/Candidates" (some 0) with
  accessFlags := 49
  interfaces := #[]
  cf := some (fileOf pool2 8 #[] #[{ accessFlags := 8, nameIndex := 40, descriptorIndex := 41, attributes := #[] }] 49 2 #[] #[{ accessFlags := 18, nameIndex := 11, descriptorIndex := 12, attributes := #[] }, { accessFlags := 18, nameIndex := 15, descriptorIndex := 16, attributes := #[] }, { accessFlags := 18, nameIndex := 19, descriptorIndex := 20, attributes := #[] }])
  fields := #[{ name := "providers", type := (.object "java/util/List"), accessFlags := 18, slot := 0, constantValue := 0 }, { name := "weights", type := (.array .int), accessFlags := 18, slot := 1, constantValue := 0 }, { name := "loads", type := (.array (.object "com/example/steelyard/steelyard/Load")), accessFlags := 18, slot := 2, constantValue := 0 }]
  methods := #[k2m0]
  instanceTypes := #[(.object "java/util/List"), (.array .int), (.array (.object "com/example/steelyard/steelyard/Load"))]
  staticTypes := #[]
  resolved := Array.replicate 46 none
  statics := none }

def pool3 : Array CpInfo := pool [(1, u "java/lang/Cloneable"), (0, .class_ 1), (0, u "java/lang/Object"), (0, .class_ 3)] 3

/-- java/lang/Cloneable -/
def k3 : Class := { plain "java/lang/Cloneable" (some 0) with
  accessFlags := 1537
  interfaces := #[]
  cf := some (fileOf pool3 2 #[] #[] 1537 4 #[] #[])
  fields := #[]
  methods := #[]
  instanceTypes := #[]
  staticTypes := #[]
  resolved := Array.replicate 8 none
  statics := none }

def pool4 : Array CpInfo := pool [(1, u "java/io/Serializable"), (0, .class_ 1), (0, u "java/lang/Object"), (0, .class_ 3)] 3

/-- java/io/Serializable -/
def k4 : Class := { plain "java/io/Serializable" (some 0) with
  accessFlags := 1537
  interfaces := #[]
  cf := some (fileOf pool4 2 #[] #[] 1537 4 #[] #[])
  fields := #[]
  methods := #[]
  instanceTypes := #[]
  staticTypes := #[]
  resolved := Array.replicate 8 none
  statics := none }

/-- the primitive byte -/
def k5 : Class := { plain "byte" none with kind := .primitive 'B', accessFlags := 0x411 }
/-- [B -/
def k6 : Class := { plain "[B" (some 0) with kind := .array 5 .byte, interfaces := #[3, 4], accessFlags := 1041 }

/-- the primitive int -/
def k7 : Class := { plain "int" none with kind := .primitive 'I', accessFlags := 0x411 }
/-- [I -/
def k8 : Class := { plain "[I" (some 0) with kind := .array 7 .int, interfaces := #[3, 4], accessFlags := 1041 }

def heap : Heap := #[]
def classes : Array Class := #[k0, k1, k2, k3, k4, k5, k6, k7, k8]
def interned : List (Array UInt16 × Addr) := []
def slotsUsed : Nat := 0
def theMethod : MethodId := ⟨1, 1⟩
def args0 : Array Value := #[.int 1, .int 5, .int 7, .int 7, .int 7]
def aboutOver (below : List Frame) : State where
  vm := { classes := classes, interned := interned.toArray }
  heap := heap
  slotsUsed := slotsUsed
  threads := #[{ frames := .invoking theMethod args0 :: below }]
def below0 : List Frame := [.native { method := ⟨0, 0⟩, args := #[] }]
def about1 : State := aboutOver below0
def p0 : Program := .bare "" "" ""
def e0 : Env := launch0.env 0 0 0
theorem w_frames : about1.frames = Frame.invoking theMethod args0 :: below0 := rfl
set_option maxRecDepth 65536 in
theorem w_args : argsFit about1.vm theMethod args0 = true := by decide +kernel
set_option maxRecDepth 65536 in
theorem w_heap : heapFits about1 = true := by decide +kernel
set_option maxRecDepth 65536 in
theorem w_runnable : about1.curStatus? = some .runnable := by decide +kernel
set_option maxRecDepth 65536 in
theorem w_alone : about1.alone = true := by decide +kernel
set_option maxRecDepth 65536 in
theorem w_named : about1.methodNamed? x = some theMethod := by decide +kernel
set_option maxRecDepth 65536 in
theorem w_hears : about1.hears theMethod below0 = true := by decide +kernel
set_option maxRecDepth 65536 in
theorem w_ripe : about1.ripe theMethod args0 below0 = true := by decide +kernel
theorem w_running : about1.status = .running := rfl
set_option maxRecDepth 65536 in
theorem w_room : about1.hasRoom e0.platform room_1 = true :=
  launch0.hasRoom_least _ room_1 (by decide +kernel) (by decide +kernel) (by decide +kernel) (by decide +kernel) (by decide +kernel) (by decide +kernel)
theorem allAtoms_all (ts : List Jvm.Cond) (a : Array Jvm.Value) (st : Jvm.State) : (allAtoms ts).before a st = ts.all (fun c => c.before a st) := by
  induction ts with
  | nil => rfl
  | cons c t ih =>
    show (Jvm.Cond.and c (allAtoms t)).before a st = _
    rw [Jvm.Cond.before_and, ih, List.all_cons]
def words1 : List Jvm.Cond := Jvm.Cond.code x code maxLocals ret :: tables_1
/-- a 'code' word, met by the world's own term for the bytes: nothing is compared byte by byte -/
theorem code_word {y : MethodName} {bytes : ByteArray} {mx : Nat} {rt : Option FieldType} {a : Array Value} {s : State} {m : MethodId} {meth : Method} {c : Code} (h1 : s.methodNamed? y = some m) (h2 : s.vm.method? m = some meth) (h3 : meth.code = some c) (h4 : c.code = bytes)
    (h5 : (c.maxLocals == mx && c.exceptionTable.isEmpty && decide (c.maxStack ≤ mostOperands) && decide (meth.sig.returnType = rt) && !meth.locks && decide (parseMethodDescriptor y.desc = some meth.sig)) = true) : (Jvm.Cond.code y bytes mx rt).before a s = true := by
  simp only [Bool.and_eq_true, beq_iff_eq, Bool.not_eq_true', decide_eq_true_eq] at h5
  obtain ⟨⟨⟨⟨⟨g1, g2⟩, g3⟩, g4⟩, g5⟩, g6⟩ := h5
  simp [Cond.before, Cond.holds, Cond.value, h1, h2, h3, h4, g1, g2, g3, g4, g5, g6]
def isCode : Jvm.Cond → Bool
  | .code _ _ _ _ => true
  | _ => false
theorem all_split {L : List Jvm.Cond} {P : Jvm.Cond → Bool} (h1 : L.all (fun c => isCode c || P c) = true) (h2 : ∀ c ∈ L.filter isCode, P c = true) : L.all P = true := by
  refine List.all_eq_true.mpr fun c hc => ?_
  have h := List.all_eq_true.mp h1 c hc
  rcases Bool.eq_false_or_eq_true (isCode c) with hi | hi
  · exact h2 c (List.mem_filter.mpr ⟨hc, hi⟩)
  · simpa [hi] using h
set_option maxRecDepth 65536 in
theorem w_c0 : (Jvm.Cond.code x code maxLocals ret).before args0 about1 = true := code_word (m := ⟨1, 1⟩) (meth := k1m1) (c := k1c1) (by decide +kernel) rfl rfl rfl (by decide +kernel)
set_option maxRecDepth 65536 in
theorem w_c1 : (Jvm.Cond.code ({ cls := "com/example/steelyard/steelyard/CandidatesPositiveIndicesPinLaw", name := "weightOf", desc := "(I)I" } : Jvm.MethodName) method_3_code (1 : Nat) (Option.some Jvm.ClassFile.FieldType.int)).before args0 about1 = true := code_word (m := ⟨1, 2⟩) (meth := k1m2) (c := k1c2) (by decide +kernel) rfl rfl rfl (by decide +kernel)
set_option maxRecDepth 65536 in
theorem w_c2 : (Jvm.Cond.code ({ cls := "com/example/steelyard/steelyard/Candidates", name := "positiveIndices", desc := "([I)[I" } : Jvm.MethodName) prog_8_method_7_code (6 : Nat) (Option.some (Jvm.ClassFile.FieldType.array Jvm.ClassFile.FieldType.int))).before args0 about1 = true := code_word (m := ⟨2, 0⟩) (meth := k2m0) (c := k2c0) (by decide +kernel) rfl rfl rfl (by decide +kernel)
def codes1 : List Jvm.Cond := [Jvm.Cond.code x code maxLocals ret, Jvm.Cond.code ({ cls := "com/example/steelyard/steelyard/CandidatesPositiveIndicesPinLaw", name := "weightOf", desc := "(I)I" } : Jvm.MethodName) method_3_code (1 : Nat) (Option.some Jvm.ClassFile.FieldType.int), Jvm.Cond.code ({ cls := "com/example/steelyard/steelyard/Candidates", name := "positiveIndices", desc := "([I)[I" } : Jvm.MethodName) prog_8_method_7_code (6 : Nat) (Option.some (Jvm.ClassFile.FieldType.array Jvm.ClassFile.FieldType.int))]
set_option maxRecDepth 65536 in
theorem codes_eq : words1.filter isCode = codes1 := rfl
theorem w_codes : ∀ c ∈ words1.filter isCode, c.before args0 about1 = true := by
  rw [codes_eq]
  intro c hc
  simp only [codes1, List.mem_cons, List.not_mem_nil, or_false] at hc
  rcases hc with rfl | rfl | rfl
  · exact w_c0
  · exact w_c1
  · exact w_c2
set_option maxRecDepth 65536 in
theorem w_t1 : words1.all (fun c => isCode c || c.before args0 about1) = true := by decide +kernel
theorem w_tables : (allAtoms (Jvm.Cond.code x code maxLocals ret :: tables_1)).before args0 about1 = true := by
  rw [allAtoms_all]
  show words1.all (fun c => c.before args0 about1) = true
  refine all_split ?_ w_codes
  rw [w_t1]
set_option maxRecDepth 65536 in
theorem w_case : (Jvm.Cond.and given_1 narrow_1).before args0 about1 = true := by decide +kernel
theorem w_applies : (headSpec (Jvm.Cond.code x code maxLocals ret :: tables_1) room_1).applies x e0.platform about1 = true :=
  (Spec.applies_iff w_frames).mpr ⟨w_running, w_runnable, w_alone, w_named, w_hears, w_ripe, w_room, w_tables⟩
theorem atStart : AtStart classFile x code maxLocals ret World_1 tables_1 room_1 Calls_1 rest_1 Pre_1 launch0 p0 e0 about1 theMethod args0 below0 :=
  ⟨lists_1, trivial, launch0.admits_env _ _ _, launch0.least_env, fairChoices_fair.cas, fairChoices_fair.clock, w_frames, w_args, w_heap, w_applies, trivial, trivial, w_case⟩
end start1
theorem witness_1 : WitnessClaimed_1 := ⟨start1.p0, start1.e0, start1.about1, start1.theMethod, start1.args0, start1.below0, start1.atStart⟩
end Jvm.Pilot.@@N@@
