import JvmDerived
import JvmDerived.Pilot.@@N@@Statement
import JvmDerived.Pilot.@@N@@Code
set_option linter.unusedVariables false
set_option linter.unusedSimpArgs false
@@BLOCK:NumsL.lean.txt@@
namespace Jvm.RoadKit
open Sem ClassFile Op Lib Jvm.Stand Jvm.Free Jvm.LawKit
section New
variable {p : Program} {l : Launch} {e : Env} {R : Room} {s : State} {m : MethodId} {args : Array Value} {below : List Frame} {meth : Method} {c : Code} {T : State} {locs : List Loc} {cells slots : Nat}
theorem retI (X : Stand p l e R s m args below meth c T locs cells slots) (hx : p.tables.exec = Jvm.exec) {pc : Nat} {Ls : Array Slot} {z : Int32} {rest : List Value} (hret : meth.sig.returnType = some .int) (hd : decode c.code pc = .ok (.ireturn, 1)) {fs : List Frame}
    (hl : ∀ (f : JFrame) (acts : List Action), f.method = m → f.locked = none → f.entered = [] → (doReturn e (T.setTop f) acts (some (.int z))).1 = T.setFrames fs) : Steps p.tables e below (T.setTop (mkF m pc Ls (.int z :: rest))) (T.setFrames fs) := by
  have hm' : T.vm.method? m = some meth := X.method'
  have hn : narrow .int (.int z) = .int z := rfl
  show Steps p.tables e below (T.setTop { method := m, pc := pc, locals := Ls, stack := _ :: rest, locked := none }) _
  jvm_step X.here [X.here.top, hx, hd, hm', hret, hn]
  first | (intro acts; rw [hl _ acts rfl rfl rfl]) | rw [hl _ _ rfl rfl rfl]
  exact Steps.refl _
end New
end Jvm.RoadKit
namespace Jvm.Pilot.@@N@@
open Jvm Jvm.ClassFile Sem Op Lib Jvm.Free Jvm.Stand Jvm.LawKit Jvm.RoadKit Bundle Jvm.Pilot.@@N@@.Jvm.D
def QAm (Z : State) (a1 : Addr) (h0 : Heap) (n0 : Nat) (v : Option Value) (h : Heap) (L : List Loc) : Prop := v = none ∧ Fr n0 L ∧ h = h0
theorem d4_0 : decode jdk_71_method_1_code 0 = .ok (.aload_n 0, 1) := by decide +kernel
theorem d4_1 : decode jdk_71_method_1_code 1 = .ok (.invokespecial 1, 3) := by decide +kernel
theorem d4_4 : decode jdk_71_method_1_code 4 = .ok (.return_, 1) := by decide +kernel
theorem pn_4 : plainName "java/util/AbstractMap" = true := by first | (simp [plainName, overriddenIn]; done) | decide +kernel
theorem ef_4 (m : MethodId) (x0 : Addr) : entryFrame m #[(.ref x0)] 1 = mkF m 0 #[.val (.ref x0)] [] := by first | (simp [entryFrame, mkF, argsToLocals, Value.category]; done) | rfl
set_option maxRecDepth 65536 in
set_option maxHeartbeats 40000000 in
theorem rmAm (l : Launch) (Z : State) (a0 : Array Value) (hw : ∀ d ∈ tables_1, d.before a0 Z = true) (ws : List Jvm.Cond) (a1 : Addr) (h0 : Heap) (n0 : Nat) (Z0 : n0 ≤ h0.size) :
    MetFree l (⟨"java/util/AbstractMap", "<init>", "()V"⟩ : MethodName) (head1 (Jvm.Cond.code (⟨"java/util/AbstractMap", "<init>", "()V"⟩ : MethodName) jdk_71_method_1_code 1 none :: ws) ({ frames := 1, cells := 0, slots := 0, locals := 12 } : Room)) (fun a U => a = #[(.ref a1)] ∧ Z.Warmed39 U.vm ∧ U.heap = h0) (fun _ _ _ _ _ => True) (fun _ U o U' => ∃ v L, o = .returned v ∧ QAm Z a1 h0 n0 v U'.heap L ∧ FrameEnd U o U' L ({ frames := 1, cells := 0, slots := 0, locals := 12 } : Room).cells ({ frames := 1, cells := 0, slots := 0, locals := 12 } : Room).slots) := by
  refine MetFree.of_bodySF (plainFor_of_name pn_4) hisR ?_
  intro p e s m args below meth c s₁ Bd hml0 hP hK
  obtain ⟨rfl, hZ, hh⟩ := hP
  have hx := Bd.exec
  have hby := Bd.bytes
  have hml : c.maxLocals = 1 := hml0
  have hown : s.vm.findClass "java/util/AbstractMap" = some m.cls := findClass_of_methodNamed Bd.named
  have hnm := (name_of_methodNamed Bd.named Bd.method).1
  have X0 : Stand p l e ({ frames := 1, cells := 0, slots := 0, locals := 12 } : Room) s m #[(.ref a1)] below meth c s₁ [] 0 0 := Stand.of_body Bd
  have e0 : s₁.heap = h0 := by rw [← hh, Bd.state]; rfl
  have N0 := Fr.nil n0
  have pre0 : ∀ t, Steps p.tables e below (s₁.setTop (mkF m 0 #[.val (.ref a1)] [])) t → Steps p.tables e below (s₁.setTop (entryFrame m #[(.ref a1)] 1)) t := fun t k => castTop (ef_4 m a1) k
  obtain ⟨T1, X1, e1, st1⟩ := initO X0 hx hZ hown (hw _ (List.mem_of_getElem? (i := 21) rfl)) (hw _ (List.mem_of_getElem? (i := 7) rfl)) (hw _ (List.mem_of_getElem? (i := 8) rfl)) e0 (g := (mkF m 1 #[.val (.ref a1)] [(.ref a1)])) rfl (by rw [hml]; rfl) rfl (hb hby d4_1) (by decide) (W := 0) (by show 2 * 0 + _ ≤ _; exact Nat.le_of_eq rfl) (by decide)
  obtain ⟨fs, hr, hrun, hended, hW, hsame⟩ := X1.leave (v := none) (fun _ => rfl)
  refine ⟨_, _, pre0 _ ?_, hrun, hended, _, _, rfl, ?_, ⟨_, rfl⟩, hW, hsame.mono (by decide) (by decide)⟩
  · show Steps p.tables e below (s₁.setTop (mkF m 0 #[.val (.ref a1)] [])) _
    refine XS.aloadN X0.here hx rfl (hb hby d4_0) rfl rfl ?_
    show Steps p.tables e below (s₁.setTop (mkF m 1 #[.val (.ref a1)] [(.ref a1)])) _
    refine st1 _ ?_
    show Steps p.tables e below (T1.setTop (mkF m 4 #[.val (.ref a1)] [])) _
    exact X1.returnOut hx Bd.returns (hb hby d4_4) hr
  · show QAm Z a1 h0 n0 _ T1.heap _
    rw [e1]
    exact ⟨rfl, N0, rfl⟩
def QHm (Z : State) (a1 : Addr) (h0 : Heap) (n0 : Nat) (v : Option Value) (h : Heap) (L : List Loc) : Prop := v = none ∧ Fr n0 L ∧ Keep h0 h [a1]
theorem d3_0 : decode jdk_69_method_7_code 0 = .ok (.aload_n 0, 1) := by decide +kernel
theorem d3_1 : decode jdk_69_method_7_code 1 = .ok (.invokespecial 43, 3) := by decide +kernel
theorem d3_4 : decode jdk_69_method_7_code 4 = .ok (.aload_n 0, 1) := by decide +kernel
theorem d3_5 : decode jdk_69_method_7_code 5 = .ok (.ldc 92, 2) := by decide +kernel
theorem d3_7 : decode jdk_69_method_7_code 7 = .ok (.putfield 81, 3) := by decide +kernel
theorem d3_10 : decode jdk_69_method_7_code 10 = .ok (.return_, 1) := by decide +kernel
theorem pd_3_0 : parseMethodDescriptor "()V" = some ⟨[], none⟩ := by decide +kernel
theorem pn_3 : plainName "java/util/HashMap" = true := by first | (simp [plainName, overriddenIn]; done) | decide +kernel
theorem ef_3 (m : MethodId) (x0 : Addr) : entryFrame m #[(.ref x0)] 1 = mkF m 0 #[.val (.ref x0)] [] := by first | (simp [entryFrame, mkF, argsToLocals, Value.category]; done) | rfl
set_option maxRecDepth 65536 in
set_option maxHeartbeats 40000000 in
theorem rmHm (l : Launch) (Z : State) (a0 : Array Value) (hw : ∀ d ∈ tables_1, d.before a0 Z = true) (ws : List Jvm.Cond) (a1 : Addr) (u1 : Value) (h0 : Heap) (n0 : Nat) (Z0 : n0 ≤ h0.size) (E_a1 : Exa Z h0 a1 "java/util/HashMap") (F_lf : Fld Z h0 a1 "java/util/HashMap" "loadFactor" "F" u1) (g_a1 : n0 ≤ a1) :
    MetFree l (⟨"java/util/HashMap", "<init>", "()V"⟩ : MethodName) (head1 (Jvm.Cond.code (⟨"java/util/HashMap", "<init>", "()V"⟩ : MethodName) jdk_69_method_7_code 1 none :: ws) ({ frames := 2, cells := 0, slots := 0, locals := 24 } : Room)) (fun a U => a = #[(.ref a1)] ∧ Z.Warmed39 U.vm ∧ U.heap = h0) (fun _ _ _ _ _ => True) (fun _ U o U' => ∃ v L, o = .returned v ∧ QHm Z a1 h0 n0 v U'.heap L ∧ FrameEnd U o U' L ({ frames := 2, cells := 0, slots := 0, locals := 24 } : Room).cells ({ frames := 2, cells := 0, slots := 0, locals := 24 } : Room).slots) := by
  refine MetFree.of_bodySF (plainFor_of_name pn_3) hisR ?_
  intro p e s m args below meth c s₁ Bd hml0 hP hK
  obtain ⟨rfl, hZ, hh⟩ := hP
  have hx := Bd.exec
  have hby := Bd.bytes
  have hml : c.maxLocals = 1 := hml0
  have hown : s.vm.findClass "java/util/HashMap" = some m.cls := findClass_of_methodNamed Bd.named
  have hnm := (name_of_methodNamed Bd.named Bd.method).1
  have X0 : Stand p l e ({ frames := 2, cells := 0, slots := 0, locals := 24 } : Room) s m #[(.ref a1)] below meth c s₁ [] 0 0 := Stand.of_body Bd
  have e0 : s₁.heap = h0 := by rw [← hh, Bd.state]; rfl
  have N0 := Fr.nil n0
  have pre0 : ∀ t, Steps p.tables e below (s₁.setTop (mkF m 0 #[.val (.ref a1)] [])) t → Steps p.tables e below (s₁.setTop (entryFrame m #[(.ref a1)] 1)) t := fun t k => castTop (ef_3 m a1) k
  obtain ⟨_, _, ⟨T1, L1, k1, n1⟩, -, X1, ⟨Lc1, hQ1, l1, y1, z1⟩, st1⟩ := X0.specialBack hx (y := (⟨"java/util/AbstractMap", "<init>", "()V"⟩ : MethodName)) rfl hown (mvT hZ (hw _ (List.mem_of_getElem? (i := 15) rfl))) (mvT hZ (hw _ (List.mem_of_getElem? (i := 16) rfl))) (mvT hZ (hw _ (List.mem_of_getElem? (i := 20) rfl))) (by decide) (backOf (W := 0) (rmAm l Z a0 hw [] a1 h0 n0 Z0) hZ (hw _ (List.mem_of_getElem? (i := 20) rfl)) (hw _ (List.mem_of_getElem? (i := 19) rfl)) (by decide) (by decide)) (g := (mkF m 1 #[.val (.ref a1)] [(.ref a1)])) rfl (by rw [hml]; rfl) (Steps.refl _) (a := a1) (argsL := []) (rest := []) (lenOf pd_3_0 rfl) rfl (by show 2 * 0 + _ ≤ _; exact Nat.le_of_eq rfl) (hb hby d3_1) (fun _ _ => ⟨rfl, e0, (by decide : 0 + 0 ≤ _), (by decide : 0 + 0 ≤ _)⟩)
  dsimp only [Pt.U, Pt.locs, Pt.cells, Pt.slots] at X1 l1 y1 z1 st1 hQ1
  subst l1 y1 z1
  obtain ⟨rfl, N1q, eh1⟩ := hQ1
  have N1 := Fr.app N0 N1q
  obtain ⟨T2, h2, X2, e2, W2, st2⟩ := putF X1 hx hZ hown (host := "") (Or.inl (hw _ (List.mem_of_getElem? (i := 23) rfl))) Via.refl eh1 F_lf E_a1 (Or.inr ⟨(hw _ (List.mem_of_getElem? (i := 24) rfl)), rfl, hnm⟩) (hw _ (List.mem_of_getElem? (i := 10) rfl)) (ty := .float) (by decide) rfl rfl (g := (mkF m 7 #[.val (.ref a1)] [(.float (1061158912 : UInt32)), (.ref a1)])) rfl rfl (hb hby d3_7)
  have F_a1_loadFactor_2 := F_lf.same W2
  have E_a1_2 := E_a1.wr W2
  have Z2 : n0 ≤ h2.size := Nat.le_trans Z0 (Keep.of_wr W2).1
  have KC2 : Keep h0 h2 [a1] := (Keep.refl h0 [a1]).wr W2 (Or.inl (List.mem_of_getElem? (i := 0) rfl))
  have N2 := Fr.snoc X2 N1 g_a1
  obtain ⟨fs, hr, hrun, hended, hW, hsame⟩ := X2.leave (v := none) (fun _ => rfl)
  refine ⟨_, _, pre0 _ ?_, hrun, hended, _, _, rfl, ?_, ⟨_, rfl⟩, hW, hsame.mono (by decide) (by decide)⟩
  · show Steps p.tables e below (s₁.setTop (mkF m 0 #[.val (.ref a1)] [])) _
    refine XS.aloadN X0.here hx rfl (hb hby d3_0) rfl rfl ?_
    show Steps p.tables e below (s₁.setTop (mkF m 1 #[.val (.ref a1)] [(.ref a1)])) _
    refine st1.trans ?_
    show Steps p.tables e below (T1.setTop (mkF m 4 #[.val (.ref a1)] [])) _
    refine XS.aloadN X1.here hx rfl (hb hby d3_4) rfl rfl ?_
    show Steps p.tables e below (T1.setTop (mkF m 5 #[.val (.ref a1)] [(.ref a1)])) _
    refine X1.ldcFloatC hx hown (mvT hZ (hw _ (List.mem_of_getElem? (i := 22) rfl))) (g := (mkF m 5 #[.val (.ref a1)] [(.ref a1)])) rfl (hb hby d3_5) _ ?_
    show Steps p.tables e below (T1.setTop (mkF m 7 #[.val (.ref a1)] [(.float (1061158912 : UInt32)), (.ref a1)])) _
    refine st2 _ ?_
    show Steps p.tables e below (T2.setTop (mkF m 10 #[.val (.ref a1)] [])) _
    exact X2.returnOut hx Bd.returns (hb hby d3_10) hr
  · show QHm Z a1 h0 n0 _ T2.heap _
    rw [e2]
    exact ⟨rfl, N2, KC2⟩
def QLb (Z : State) (a1 : Addr) (h0 : Heap) (n0 : Nat) (v : Option Value) (h : Heap) (L : List Loc) : Prop := v = none ∧ Fr n0 L ∧ Keep h0 h [a1]
theorem d1_0 : decode prog_98_method_1_code 0 = .ok (.aload_n 0, 1) := by decide +kernel
theorem d1_1 : decode prog_98_method_1_code 1 = .ok (.invokespecial 1, 3) := by decide +kernel
theorem d1_4 : decode prog_98_method_1_code 4 = .ok (.aload_n 0, 1) := by decide +kernel
theorem d1_5 : decode prog_98_method_1_code 5 = .ok (.new 7, 3) := by decide +kernel
theorem d1_8 : decode prog_98_method_1_code 8 = .ok (.dup, 1) := by decide +kernel
theorem d1_9 : decode prog_98_method_1_code 9 = .ok (.invokespecial 9, 3) := by decide +kernel
theorem d1_12 : decode prog_98_method_1_code 12 = .ok (.putfield 10, 3) := by decide +kernel
theorem d1_15 : decode prog_98_method_1_code 15 = .ok (.aload_n 0, 1) := by decide +kernel
theorem d1_16 : decode prog_98_method_1_code 16 = .ok (.new 7, 3) := by decide +kernel
theorem d1_19 : decode prog_98_method_1_code 19 = .ok (.dup, 1) := by decide +kernel
theorem d1_20 : decode prog_98_method_1_code 20 = .ok (.invokespecial 9, 3) := by decide +kernel
theorem d1_23 : decode prog_98_method_1_code 23 = .ok (.putfield 16, 3) := by decide +kernel
theorem d1_26 : decode prog_98_method_1_code 26 = .ok (.return_, 1) := by decide +kernel
theorem pd_1_0 : parseMethodDescriptor "()V" = some ⟨[], none⟩ := by decide +kernel
theorem pn_1 : plainName "com/example/roteiro/roteiro/lang/Libraries" = true := by first | (simp [plainName, overriddenIn]; done) | decide +kernel
theorem ef_1 (m : MethodId) (x0 : Addr) : entryFrame m #[(.ref x0)] 1 = mkF m 0 #[.val (.ref x0)] [] := by first | (simp [entryFrame, mkF, argsToLocals, Value.category]; done) | rfl
set_option maxRecDepth 65536 in
set_option maxHeartbeats 40000000 in
theorem rmLb (l : Launch) (Z : State) (a0 : Array Value) (hw : ∀ d ∈ tables_1, d.before a0 Z = true) (ws : List Jvm.Cond) (a1 : Addr) (u1 u2 : Value) (h0 : Heap) (n0 : Nat) (Z0 : n0 ≤ h0.size) (E_a1 : Exa Z h0 a1 "com/example/roteiro/roteiro/lang/Libraries") (F_el : Fld Z h0 a1 "com/example/roteiro/roteiro/lang/Libraries" "elements" "Ljava/util/Map;" u1) (F_bn : Fld Z h0 a1 "com/example/roteiro/roteiro/lang/Libraries" "bareNames" "Ljava/util/Map;" u2) (g_a1 : n0 ≤ a1) :
    MetFree l (⟨"com/example/roteiro/roteiro/lang/Libraries", "<init>", "()V"⟩ : MethodName) (head1 (Jvm.Cond.code (⟨"com/example/roteiro/roteiro/lang/Libraries", "<init>", "()V"⟩ : MethodName) prog_98_method_1_code 1 none :: ws) ({ frames := 3, cells := 2, slots := 16, locals := 38 } : Room)) (fun a U => a = #[(.ref a1)] ∧ Z.Warmed39 U.vm ∧ U.heap = h0) (fun _ _ _ _ _ => True) (fun _ U o U' => ∃ v L, o = .returned v ∧ QLb Z a1 h0 n0 v U'.heap L ∧ FrameEnd U o U' L ({ frames := 3, cells := 2, slots := 16, locals := 38 } : Room).cells ({ frames := 3, cells := 2, slots := 16, locals := 38 } : Room).slots) := by
  refine MetFree.of_bodySF (plainFor_of_name pn_1) hisR ?_
  intro p e s m args below meth c s₁ Bd hml0 hP hK
  obtain ⟨rfl, hZ, hh⟩ := hP
  have hx := Bd.exec
  have hby := Bd.bytes
  have hml : c.maxLocals = 1 := hml0
  have hown : s.vm.findClass "com/example/roteiro/roteiro/lang/Libraries" = some m.cls := findClass_of_methodNamed Bd.named
  have hnm := (name_of_methodNamed Bd.named Bd.method).1
  have X0 : Stand p l e ({ frames := 3, cells := 2, slots := 16, locals := 38 } : Room) s m #[(.ref a1)] below meth c s₁ [] 0 0 := Stand.of_body Bd
  have e0 : s₁.heap = h0 := by rw [← hh, Bd.state]; rfl
  have N0 := Fr.nil n0
  have pre0 : ∀ t, Steps p.tables e below (s₁.setTop (mkF m 0 #[.val (.ref a1)] [])) t → Steps p.tables e below (s₁.setTop (entryFrame m #[(.ref a1)] 1)) t := fun t k => castTop (ef_1 m a1) k
  obtain ⟨T1, X1, e1, st1⟩ := initO X0 hx hZ hown (hw _ (List.mem_of_getElem? (i := 6) rfl)) (hw _ (List.mem_of_getElem? (i := 7) rfl)) (hw _ (List.mem_of_getElem? (i := 8) rfl)) e0 (g := (mkF m 1 #[.val (.ref a1)] [(.ref a1)])) rfl (by rw [hml]; rfl) rfl (hb hby d1_1) (by decide) (W := 0) (by show 2 * 0 + _ ≤ _; exact Nat.le_of_eq rfl) (by decide)
  obtain ⟨T2, h2, X2, e2, E2, A2, D2, -, st2⟩ := newO X1 hx hZ hown (hw _ (List.mem_of_getElem? (i := 9) rfl)) (hw _ (List.mem_of_getElem? (i := 10) rfl)) (hw _ (List.mem_of_getElem? (i := 11) rfl)) e1 (g := (mkF m 5 #[.val (.ref a1)] [(.ref a1)])) rfl (hb hby d1_5) (by decide) (by decide)
  obtain ⟨b2, g2⟩ : ∃ z, z = h0.size := ⟨_, rfl⟩
  rw [← g2] at A2 D2 st2
  have gb2 : n0 ≤ b2 := Nat.le_trans Z0 (Nat.le_of_eq g2.symm)
  have sz2 : h0.size ≤ b2 := Nat.le_trans (Keep.refl h0 [a1]).1 (Nat.le_of_eq g2.symm)
  have ne_a1_b2 : a1 ≠ b2 := (Nat.ne_of_lt (Nat.lt_of_lt_of_le E_a1.lt (Nat.le_of_eq g2.symm)))
  have E_a1_2 := E_a1.ext E2
  have F_a1_elements_2 := F_el.ext E2
  have F_a1_bareNames_2 := F_bn.ext E2
  have Z2 : n0 ≤ h2.size := Nat.le_trans Z0 E2.1
  have KC2 : Keep h0 h2 [a1] := (Keep.refl h0 [a1]).ext E2
  have F_b2_loadFactor_2 : Fld Z h2 b2 "java/util/HashMap" "loadFactor" "F" (.float (0 : UInt32)) := D2 (Or.inr (hw _ (List.mem_of_getElem? (i := 24) rfl))) (ty := .float) (by decide)
  obtain ⟨_, _, ⟨T3, L3, k3, n3⟩, -, X3, ⟨Lc3, hQ3, l3, y3, z3⟩, st3⟩ := X2.specialBack hx (y := (⟨"java/util/HashMap", "<init>", "()V"⟩ : MethodName)) rfl hown (mvT hZ (hw _ (List.mem_of_getElem? (i := 12) rfl))) (mvT hZ (hw _ (List.mem_of_getElem? (i := 13) rfl))) (mvT hZ (hw _ (List.mem_of_getElem? (i := 14) rfl))) (by decide) (backOf (W := 2) (rmHm l Z a0 hw [] b2 _ h2 n0 Z2 A2 F_b2_loadFactor_2 gb2) hZ (hw _ (List.mem_of_getElem? (i := 14) rfl)) (hw _ (List.mem_of_getElem? (i := 11) rfl)) (by decide) (by decide)) (g := (mkF m 9 #[.val (.ref a1)] [(.ref b2), (.ref b2), (.ref a1)])) rfl (by rw [hml]; rfl) (Steps.refl _) (a := b2) (argsL := []) (rest := [(.ref b2), (.ref a1)]) (lenOf pd_1_0 rfl) rfl (by show 2 * 0 + _ ≤ _; exact Nat.le_of_eq rfl) (hb hby d1_9) (fun _ _ => ⟨rfl, e2, (by decide : 1 + 0 ≤ _), (by decide : 8 + 0 ≤ _)⟩)
  dsimp only [Pt.U, Pt.locs, Pt.cells, Pt.slots] at X3 l3 y3 z3 st3 hQ3
  subst l3 y3 z3
  obtain ⟨rfl, N3q, K3⟩ := hQ3
  have N3 := Fr.app N0 N3q
  have E_a1_3 := E_a1_2.keep K3
  have F_a1_elements_3 := F_a1_elements_2.keep K3 (ninS ne_a1_b2 nin0)
  have F_a1_bareNames_3 := F_a1_bareNames_2.keep K3 (ninS ne_a1_b2 nin0)
  have E_b2_3 := A2.keep K3
  have Z3 : n0 ≤ T3.heap.size := Nat.le_trans Z2 K3.1
  have KC3 : Keep h0 T3.heap [a1] := KC2.trans K3 (allS (Or.inr sz2) all0)
  obtain ⟨T4, h4, X4, e4, W4, st4⟩ := putF X3 hx hZ hown (host := "") (Or.inl (hw _ (List.mem_of_getElem? (i := 25) rfl))) Via.refl rfl F_a1_elements_3 E_a1_3 (Or.inr ⟨(hw _ (List.mem_of_getElem? (i := 26) rfl)), rfl, hnm⟩) (hw _ (List.mem_of_getElem? (i := 1) rfl)) (ty := (.object "java/util/Map")) (by decide) rfl rfl (g := (mkF m 12 #[.val (.ref a1)] [(.ref b2), (.ref a1)])) rfl rfl (hb hby d1_12)
  have F_a1_elements_4 := F_a1_elements_3.same W4
  have E_a1_4 := E_a1_3.wr W4
  have F_a1_bareNames_4 := F_a1_bareNames_3.other W4 (Or.inr (slot_ne (Or.inr (hw _ (List.mem_of_getElem? (i := 28) rfl))) (Or.inr (hw _ (List.mem_of_getElem? (i := 26) rfl))) (by decide) (t := (.object "java/util/Map")) (t' := (.object "java/util/Map")) (by decide) (by decide)))
  have E_b2_4 := E_b2_3.wr W4
  have Z4 : n0 ≤ h4.size := Nat.le_trans Z3 (Keep.of_wr W4).1
  have KC4 : Keep h0 h4 [a1] := KC3.wr W4 (Or.inl (List.mem_of_getElem? (i := 0) rfl))
  have N4 := Fr.snoc X4 N3 g_a1
  obtain ⟨T5, h5, X5, e5, E5, A5, D5, -, st5⟩ := newO X4 hx hZ hown (hw _ (List.mem_of_getElem? (i := 9) rfl)) (hw _ (List.mem_of_getElem? (i := 10) rfl)) (hw _ (List.mem_of_getElem? (i := 11) rfl)) e4 (g := (mkF m 16 #[.val (.ref a1)] [(.ref a1)])) rfl (hb hby d1_16) (by decide) (by decide)
  obtain ⟨b5, g5⟩ : ∃ z, z = h4.size := ⟨_, rfl⟩
  rw [← g5] at A5 D5 st5
  have gb5 : n0 ≤ b5 := Nat.le_trans Z4 (Nat.le_of_eq g5.symm)
  have sz5 : h0.size ≤ b5 := Nat.le_trans KC4.1 (Nat.le_of_eq g5.symm)
  have ne_a1_b5 : a1 ≠ b5 := (Nat.ne_of_lt (Nat.lt_of_lt_of_le E_a1_4.lt (Nat.le_of_eq g5.symm)))
  have ne_b2_b5 : b2 ≠ b5 := (Nat.ne_of_lt (Nat.lt_of_lt_of_le E_b2_4.lt (Nat.le_of_eq g5.symm)))
  have E_a1_5 := E_a1_4.ext E5
  have F_a1_elements_5 := F_a1_elements_4.ext E5
  have F_a1_bareNames_5 := F_a1_bareNames_4.ext E5
  have E_b2_5 := E_b2_4.ext E5
  have Z5 : n0 ≤ h5.size := Nat.le_trans Z4 E5.1
  have KC5 : Keep h0 h5 [a1] := KC4.ext E5
  have F_b5_loadFactor_5 : Fld Z h5 b5 "java/util/HashMap" "loadFactor" "F" (.float (0 : UInt32)) := D5 (Or.inr (hw _ (List.mem_of_getElem? (i := 24) rfl))) (ty := .float) (by decide)
  obtain ⟨_, _, ⟨T6, L6, k6, n6⟩, -, X6, ⟨Lc6, hQ6, l6, y6, z6⟩, st6⟩ := X5.specialBack hx (y := (⟨"java/util/HashMap", "<init>", "()V"⟩ : MethodName)) rfl hown (mvT hZ (hw _ (List.mem_of_getElem? (i := 12) rfl))) (mvT hZ (hw _ (List.mem_of_getElem? (i := 13) rfl))) (mvT hZ (hw _ (List.mem_of_getElem? (i := 14) rfl))) (by decide) (backOf (W := 2) (rmHm l Z a0 hw [] b5 _ h5 n0 Z5 A5 F_b5_loadFactor_5 gb5) hZ (hw _ (List.mem_of_getElem? (i := 14) rfl)) (hw _ (List.mem_of_getElem? (i := 11) rfl)) (by decide) (by decide)) (g := (mkF m 20 #[.val (.ref a1)] [(.ref b5), (.ref b5), (.ref a1)])) rfl (by rw [hml]; rfl) (Steps.refl _) (a := b5) (argsL := []) (rest := [(.ref b5), (.ref a1)]) (lenOf pd_1_0 rfl) rfl (by show 2 * 0 + _ ≤ _; exact Nat.le_of_eq rfl) (hb hby d1_20) (fun _ _ => ⟨rfl, e5, (by decide : 2 + 0 ≤ _), (by decide : 16 + 0 ≤ _)⟩)
  dsimp only [Pt.U, Pt.locs, Pt.cells, Pt.slots] at X6 l6 y6 z6 st6 hQ6
  subst l6 y6 z6
  obtain ⟨rfl, N6q, K6⟩ := hQ6
  have N6 := Fr.app N4 N6q
  have E_a1_6 := E_a1_5.keep K6
  have F_a1_elements_6 := F_a1_elements_5.keep K6 (ninS ne_a1_b5 nin0)
  have F_a1_bareNames_6 := F_a1_bareNames_5.keep K6 (ninS ne_a1_b5 nin0)
  have E_b2_6 := E_b2_5.keep K6
  have E_b5_6 := A5.keep K6
  have Z6 : n0 ≤ T6.heap.size := Nat.le_trans Z5 K6.1
  have KC6 : Keep h0 T6.heap [a1] := KC5.trans K6 (allS (Or.inr sz5) all0)
  obtain ⟨T7, h7, X7, e7, W7, st7⟩ := putF X6 hx hZ hown (host := "") (Or.inl (hw _ (List.mem_of_getElem? (i := 27) rfl))) Via.refl rfl F_a1_bareNames_6 E_a1_6 (Or.inr ⟨(hw _ (List.mem_of_getElem? (i := 28) rfl)), rfl, hnm⟩) (hw _ (List.mem_of_getElem? (i := 1) rfl)) (ty := (.object "java/util/Map")) (by decide) rfl rfl (g := (mkF m 23 #[.val (.ref a1)] [(.ref b5), (.ref a1)])) rfl rfl (hb hby d1_23)
  have F_a1_bareNames_7 := F_a1_bareNames_6.same W7
  have E_a1_7 := E_a1_6.wr W7
  have F_a1_elements_7 := F_a1_elements_6.other W7 (Or.inr (slot_ne (Or.inr (hw _ (List.mem_of_getElem? (i := 26) rfl))) (Or.inr (hw _ (List.mem_of_getElem? (i := 28) rfl))) (by decide) (t := (.object "java/util/Map")) (t' := (.object "java/util/Map")) (by decide) (by decide)))
  have E_b2_7 := E_b2_6.wr W7
  have E_b5_7 := E_b5_6.wr W7
  have Z7 : n0 ≤ h7.size := Nat.le_trans Z6 (Keep.of_wr W7).1
  have KC7 : Keep h0 h7 [a1] := KC6.wr W7 (Or.inl (List.mem_of_getElem? (i := 0) rfl))
  have N7 := Fr.snoc X7 N6 g_a1
  obtain ⟨fs, hr, hrun, hended, hW, hsame⟩ := X7.leave (v := none) (fun _ => rfl)
  refine ⟨_, _, pre0 _ ?_, hrun, hended, _, _, rfl, ?_, ⟨_, rfl⟩, hW, hsame.mono (by decide) (by decide)⟩
  · show Steps p.tables e below (s₁.setTop (mkF m 0 #[.val (.ref a1)] [])) _
    refine XS.aloadN X0.here hx rfl (hb hby d1_0) rfl rfl ?_
    show Steps p.tables e below (s₁.setTop (mkF m 1 #[.val (.ref a1)] [(.ref a1)])) _
    refine st1 _ ?_
    show Steps p.tables e below (T1.setTop (mkF m 4 #[.val (.ref a1)] [])) _
    refine XS.aloadN X1.here hx rfl (hb hby d1_4) rfl rfl ?_
    show Steps p.tables e below (T1.setTop (mkF m 5 #[.val (.ref a1)] [(.ref a1)])) _
    refine st2 _ ?_
    show Steps p.tables e below (T2.setTop (mkF m 8 #[.val (.ref a1)] [(.ref b2), (.ref a1)])) _
    refine XS.dup X2.here hx rfl (hb hby d1_8) rfl rfl ?_
    show Steps p.tables e below (T2.setTop (mkF m 9 #[.val (.ref a1)] [(.ref b2), (.ref b2), (.ref a1)])) _
    refine st3.trans ?_
    show Steps p.tables e below (T3.setTop (mkF m 12 #[.val (.ref a1)] [(.ref b2), (.ref a1)])) _
    refine st4 _ ?_
    show Steps p.tables e below (T4.setTop (mkF m 15 #[.val (.ref a1)] [])) _
    refine XS.aloadN X4.here hx rfl (hb hby d1_15) rfl rfl ?_
    show Steps p.tables e below (T4.setTop (mkF m 16 #[.val (.ref a1)] [(.ref a1)])) _
    refine st5 _ ?_
    show Steps p.tables e below (T5.setTop (mkF m 19 #[.val (.ref a1)] [(.ref b5), (.ref a1)])) _
    refine XS.dup X5.here hx rfl (hb hby d1_19) rfl rfl ?_
    show Steps p.tables e below (T5.setTop (mkF m 20 #[.val (.ref a1)] [(.ref b5), (.ref b5), (.ref a1)])) _
    refine st6.trans ?_
    show Steps p.tables e below (T6.setTop (mkF m 23 #[.val (.ref a1)] [(.ref b5), (.ref a1)])) _
    refine st7 _ ?_
    show Steps p.tables e below (T7.setTop (mkF m 26 #[.val (.ref a1)] [])) _
    exact X7.returnOut hx Bd.returns (hb hby d1_26) hr
  · show QLb Z a1 h0 n0 _ T7.heap _
    rw [e7]
    exact ⟨rfl, N7, KC7⟩
def QI2 (Z : State) (a1 : Addr) (pv : Value) (a3 : Addr) (h0 : Heap) (n0 : Nat) (v : Option Value) (h : Heap) (L : List Loc) : Prop := v = none ∧ Fr n0 L ∧ Keep h0 h [a1] ∧ Fld Z h a1 "com/example/roteiro/roteiro/lang/Scope" "parent" "Lcom/example/roteiro/roteiro/lang/Scope;" pv ∧ Fld Z h a1 "com/example/roteiro/roteiro/lang/Scope" "libraries" "Lcom/example/roteiro/roteiro/lang/Libraries;" (.ref a3)
theorem d6_0 : decode prog_111_method_2_code 0 = .ok (.aload_n 0, 1) := by decide +kernel
theorem d6_1 : decode prog_111_method_2_code 1 = .ok (.invokespecial 7, 3) := by decide +kernel
theorem d6_4 : decode prog_111_method_2_code 4 = .ok (.aload_n 0, 1) := by decide +kernel
theorem d6_5 : decode prog_111_method_2_code 5 = .ok (.aload_n 1, 1) := by decide +kernel
theorem d6_6 : decode prog_111_method_2_code 6 = .ok (.putfield 12, 3) := by decide +kernel
theorem d6_9 : decode prog_111_method_2_code 9 = .ok (.aload_n 0, 1) := by decide +kernel
theorem d6_10 : decode prog_111_method_2_code 10 = .ok (.aload_n 2, 1) := by decide +kernel
theorem d6_11 : decode prog_111_method_2_code 11 = .ok (.putfield 16, 3) := by decide +kernel
theorem d6_14 : decode prog_111_method_2_code 14 = .ok (.return_, 1) := by decide +kernel
theorem pn_6 : plainName "com/example/roteiro/roteiro/lang/Scope" = true := by first | (simp [plainName, overriddenIn]; done) | decide +kernel
theorem ef_6n (m : MethodId) (x0 : Addr) (x2 : Addr) : entryFrame m #[(.ref x0), .null, (.ref x2)] 3 = mkF m 0 #[.val (.ref x0), .val .null, .val (.ref x2)] [] := by first | (simp [entryFrame, mkF, argsToLocals, Value.category]; done) | rfl
set_option maxRecDepth 65536 in
set_option maxHeartbeats 40000000 in
theorem rmI2n (l : Launch) (Z : State) (a0 : Array Value) (hw : ∀ d ∈ tables_1, d.before a0 Z = true) (ws : List Jvm.Cond) (a1 : Addr) (a3 : Addr) (u1 u2 : Value) (h0 : Heap) (n0 : Nat) (Z0 : n0 ≤ h0.size) (E_a1 : Exa Z h0 a1 "com/example/roteiro/roteiro/lang/Scope") (F_pa : Fld Z h0 a1 "com/example/roteiro/roteiro/lang/Scope" "parent" "Lcom/example/roteiro/roteiro/lang/Scope;" u1) (F_li : Fld Z h0 a1 "com/example/roteiro/roteiro/lang/Scope" "libraries" "Lcom/example/roteiro/roteiro/lang/Libraries;" u2) (g_a1 : n0 ≤ a1) :
    MetFree l (⟨"com/example/roteiro/roteiro/lang/Scope", "<init>", "(Lcom/example/roteiro/roteiro/lang/Scope;Lcom/example/roteiro/roteiro/lang/Libraries;)V"⟩ : MethodName) (head1 (Jvm.Cond.code (⟨"com/example/roteiro/roteiro/lang/Scope", "<init>", "(Lcom/example/roteiro/roteiro/lang/Scope;Lcom/example/roteiro/roteiro/lang/Libraries;)V"⟩ : MethodName) prog_111_method_2_code 3 none :: ws) ({ frames := 1, cells := 0, slots := 0, locals := 12 } : Room)) (fun a U => a = #[(.ref a1), .null, (.ref a3)] ∧ Z.Warmed39 U.vm ∧ U.heap = h0) (fun _ _ _ _ _ => True) (fun _ U o U' => ∃ v L, o = .returned v ∧ QI2 Z a1 .null a3 h0 n0 v U'.heap L ∧ FrameEnd U o U' L ({ frames := 1, cells := 0, slots := 0, locals := 12 } : Room).cells ({ frames := 1, cells := 0, slots := 0, locals := 12 } : Room).slots) := by
  refine MetFree.of_bodySF (plainFor_of_name pn_6) hisR ?_
  intro p e s m args below meth c s₁ Bd hml0 hP hK
  obtain ⟨rfl, hZ, hh⟩ := hP
  have hx := Bd.exec
  have hby := Bd.bytes
  have hml : c.maxLocals = 3 := hml0
  have hown : s.vm.findClass "com/example/roteiro/roteiro/lang/Scope" = some m.cls := findClass_of_methodNamed Bd.named
  have hnm := (name_of_methodNamed Bd.named Bd.method).1
  have X0 : Stand p l e ({ frames := 1, cells := 0, slots := 0, locals := 12 } : Room) s m #[(.ref a1), .null, (.ref a3)] below meth c s₁ [] 0 0 := Stand.of_body Bd
  have e0 : s₁.heap = h0 := by rw [← hh, Bd.state]; rfl
  have N0 := Fr.nil n0
  have pre0 : ∀ t, Steps p.tables e below (s₁.setTop (mkF m 0 #[.val (.ref a1), .val .null, .val (.ref a3)] [])) t → Steps p.tables e below (s₁.setTop (entryFrame m #[(.ref a1), .null, (.ref a3)] 3)) t := fun t k => castTop (ef_6n m a1 a3) k
  obtain ⟨T1, X1, e1, st1⟩ := initO X0 hx hZ hown (hw _ (List.mem_of_getElem? (i := 38) rfl)) (hw _ (List.mem_of_getElem? (i := 7) rfl)) (hw _ (List.mem_of_getElem? (i := 8) rfl)) e0 (g := (mkF m 1 #[.val (.ref a1), .val .null, .val (.ref a3)] [(.ref a1)])) rfl (by rw [hml]; rfl) rfl (hb hby d6_1) (by decide) (W := 0) (by show 2 * 0 + _ ≤ _; exact Nat.le_of_eq rfl) (by decide)
  obtain ⟨T2, h2, X2, e2, W2, st2⟩ := putF X1 hx hZ hown (host := "") (Or.inl (hw _ (List.mem_of_getElem? (i := 39) rfl))) Via.refl e1 F_pa E_a1 (Or.inr ⟨(hw _ (List.mem_of_getElem? (i := 40) rfl)), rfl, hnm⟩) (hw _ (List.mem_of_getElem? (i := 30) rfl)) (ty := (.object "com/example/roteiro/roteiro/lang/Scope")) (by decide) rfl rfl (g := (mkF m 6 #[.val (.ref a1), .val .null, .val (.ref a3)] [.null, (.ref a1)])) rfl rfl (hb hby d6_6)
  have F_a1_parent_2 := F_pa.same W2
  have E_a1_2 := E_a1.wr W2
  have F_a1_libraries_2 := F_li.other W2 (Or.inr (slot_ne (Or.inr (hw _ (List.mem_of_getElem? (i := 42) rfl))) (Or.inr (hw _ (List.mem_of_getElem? (i := 40) rfl))) (by decide) (t := (.object "com/example/roteiro/roteiro/lang/Libraries")) (t' := (.object "com/example/roteiro/roteiro/lang/Scope")) (by decide) (by decide)))
  have Z2 : n0 ≤ h2.size := Nat.le_trans Z0 (Keep.of_wr W2).1
  have KC2 : Keep h0 h2 [a1] := (Keep.refl h0 [a1]).wr W2 (Or.inl (List.mem_of_getElem? (i := 0) rfl))
  have N2 := Fr.snoc X2 N0 g_a1
  obtain ⟨T3, h3, X3, e3, W3, st3⟩ := putF X2 hx hZ hown (host := "") (Or.inl (hw _ (List.mem_of_getElem? (i := 41) rfl))) Via.refl e2 F_a1_libraries_2 E_a1_2 (Or.inr ⟨(hw _ (List.mem_of_getElem? (i := 42) rfl)), rfl, hnm⟩) (hw _ (List.mem_of_getElem? (i := 30) rfl)) (ty := (.object "com/example/roteiro/roteiro/lang/Libraries")) (by decide) rfl rfl (g := (mkF m 11 #[.val (.ref a1), .val .null, .val (.ref a3)] [(.ref a3), (.ref a1)])) rfl rfl (hb hby d6_11)
  have F_a1_libraries_3 := F_a1_libraries_2.same W3
  have E_a1_3 := E_a1_2.wr W3
  have F_a1_parent_3 := F_a1_parent_2.other W3 (Or.inr (slot_ne (Or.inr (hw _ (List.mem_of_getElem? (i := 40) rfl))) (Or.inr (hw _ (List.mem_of_getElem? (i := 42) rfl))) (by decide) (t := (.object "com/example/roteiro/roteiro/lang/Scope")) (t' := (.object "com/example/roteiro/roteiro/lang/Libraries")) (by decide) (by decide)))
  have Z3 : n0 ≤ h3.size := Nat.le_trans Z2 (Keep.of_wr W3).1
  have KC3 : Keep h0 h3 [a1] := KC2.wr W3 (Or.inl (List.mem_of_getElem? (i := 0) rfl))
  have N3 := Fr.snoc X3 N2 g_a1
  obtain ⟨fs, hr, hrun, hended, hW, hsame⟩ := X3.leave (v := none) (fun _ => rfl)
  refine ⟨_, _, pre0 _ ?_, hrun, hended, _, _, rfl, ?_, ⟨_, rfl⟩, hW, hsame.mono (by decide) (by decide)⟩
  · show Steps p.tables e below (s₁.setTop (mkF m 0 #[.val (.ref a1), .val .null, .val (.ref a3)] [])) _
    refine XS.aloadN X0.here hx rfl (hb hby d6_0) rfl rfl ?_
    show Steps p.tables e below (s₁.setTop (mkF m 1 #[.val (.ref a1), .val .null, .val (.ref a3)] [(.ref a1)])) _
    refine st1 _ ?_
    show Steps p.tables e below (T1.setTop (mkF m 4 #[.val (.ref a1), .val .null, .val (.ref a3)] [])) _
    refine XS.aloadN X1.here hx rfl (hb hby d6_4) rfl rfl ?_
    show Steps p.tables e below (T1.setTop (mkF m 5 #[.val (.ref a1), .val .null, .val (.ref a3)] [(.ref a1)])) _
    refine XS.aloadN X1.here hx rfl (hb hby d6_5) rfl rfl ?_
    show Steps p.tables e below (T1.setTop (mkF m 6 #[.val (.ref a1), .val .null, .val (.ref a3)] [.null, (.ref a1)])) _
    refine st2 _ ?_
    show Steps p.tables e below (T2.setTop (mkF m 9 #[.val (.ref a1), .val .null, .val (.ref a3)] [])) _
    refine XS.aloadN X2.here hx rfl (hb hby d6_9) rfl rfl ?_
    show Steps p.tables e below (T2.setTop (mkF m 10 #[.val (.ref a1), .val .null, .val (.ref a3)] [(.ref a1)])) _
    refine XS.aloadN X2.here hx rfl (hb hby d6_10) rfl rfl ?_
    show Steps p.tables e below (T2.setTop (mkF m 11 #[.val (.ref a1), .val .null, .val (.ref a3)] [(.ref a3), (.ref a1)])) _
    refine st3 _ ?_
    show Steps p.tables e below (T3.setTop (mkF m 14 #[.val (.ref a1), .val .null, .val (.ref a3)] [])) _
    exact X3.returnOut hx Bd.returns (hb hby d6_14) hr
  · show QI2 Z a1 .null a3 h0 n0 _ T3.heap _
    rw [e3]
    exact ⟨rfl, N3, KC3, F_a1_parent_3, F_a1_libraries_3⟩
theorem ef_6 (m : MethodId) (x0 : Addr) (x1 : Addr) (x2 : Addr) : entryFrame m #[(.ref x0), (.ref x1), (.ref x2)] 3 = mkF m 0 #[.val (.ref x0), .val (.ref x1), .val (.ref x2)] [] := by first | (simp [entryFrame, mkF, argsToLocals, Value.category]; done) | rfl
set_option maxRecDepth 65536 in
set_option maxHeartbeats 40000000 in
theorem rmI2r (l : Launch) (Z : State) (a0 : Array Value) (hw : ∀ d ∈ tables_1, d.before a0 Z = true) (ws : List Jvm.Cond) (a1 : Addr) (a2 : Addr) (a3 : Addr) (u1 u2 : Value) (h0 : Heap) (n0 : Nat) (Z0 : n0 ≤ h0.size) (E_a1 : Exa Z h0 a1 "com/example/roteiro/roteiro/lang/Scope") (F_pa : Fld Z h0 a1 "com/example/roteiro/roteiro/lang/Scope" "parent" "Lcom/example/roteiro/roteiro/lang/Scope;" u1) (F_li : Fld Z h0 a1 "com/example/roteiro/roteiro/lang/Scope" "libraries" "Lcom/example/roteiro/roteiro/lang/Libraries;" u2) (g_a1 : n0 ≤ a1) :
    MetFree l (⟨"com/example/roteiro/roteiro/lang/Scope", "<init>", "(Lcom/example/roteiro/roteiro/lang/Scope;Lcom/example/roteiro/roteiro/lang/Libraries;)V"⟩ : MethodName) (head1 (Jvm.Cond.code (⟨"com/example/roteiro/roteiro/lang/Scope", "<init>", "(Lcom/example/roteiro/roteiro/lang/Scope;Lcom/example/roteiro/roteiro/lang/Libraries;)V"⟩ : MethodName) prog_111_method_2_code 3 none :: ws) ({ frames := 1, cells := 0, slots := 0, locals := 12 } : Room)) (fun a U => a = #[(.ref a1), (.ref a2), (.ref a3)] ∧ Z.Warmed39 U.vm ∧ U.heap = h0) (fun _ _ _ _ _ => True) (fun _ U o U' => ∃ v L, o = .returned v ∧ QI2 Z a1 (.ref a2) a3 h0 n0 v U'.heap L ∧ FrameEnd U o U' L ({ frames := 1, cells := 0, slots := 0, locals := 12 } : Room).cells ({ frames := 1, cells := 0, slots := 0, locals := 12 } : Room).slots) := by
  refine MetFree.of_bodySF (plainFor_of_name pn_6) hisR ?_
  intro p e s m args below meth c s₁ Bd hml0 hP hK
  obtain ⟨rfl, hZ, hh⟩ := hP
  have hx := Bd.exec
  have hby := Bd.bytes
  have hml : c.maxLocals = 3 := hml0
  have hown : s.vm.findClass "com/example/roteiro/roteiro/lang/Scope" = some m.cls := findClass_of_methodNamed Bd.named
  have hnm := (name_of_methodNamed Bd.named Bd.method).1
  have X0 : Stand p l e ({ frames := 1, cells := 0, slots := 0, locals := 12 } : Room) s m #[(.ref a1), (.ref a2), (.ref a3)] below meth c s₁ [] 0 0 := Stand.of_body Bd
  have e0 : s₁.heap = h0 := by rw [← hh, Bd.state]; rfl
  have N0 := Fr.nil n0
  have pre0 : ∀ t, Steps p.tables e below (s₁.setTop (mkF m 0 #[.val (.ref a1), .val (.ref a2), .val (.ref a3)] [])) t → Steps p.tables e below (s₁.setTop (entryFrame m #[(.ref a1), (.ref a2), (.ref a3)] 3)) t := fun t k => castTop (ef_6 m a1 a2 a3) k
  obtain ⟨T1, X1, e1, st1⟩ := initO X0 hx hZ hown (hw _ (List.mem_of_getElem? (i := 38) rfl)) (hw _ (List.mem_of_getElem? (i := 7) rfl)) (hw _ (List.mem_of_getElem? (i := 8) rfl)) e0 (g := (mkF m 1 #[.val (.ref a1), .val (.ref a2), .val (.ref a3)] [(.ref a1)])) rfl (by rw [hml]; rfl) rfl (hb hby d6_1) (by decide) (W := 0) (by show 2 * 0 + _ ≤ _; exact Nat.le_of_eq rfl) (by decide)
  obtain ⟨T2, h2, X2, e2, W2, st2⟩ := putF X1 hx hZ hown (host := "") (Or.inl (hw _ (List.mem_of_getElem? (i := 39) rfl))) Via.refl e1 F_pa E_a1 (Or.inr ⟨(hw _ (List.mem_of_getElem? (i := 40) rfl)), rfl, hnm⟩) (hw _ (List.mem_of_getElem? (i := 30) rfl)) (ty := (.object "com/example/roteiro/roteiro/lang/Scope")) (by decide) rfl rfl (g := (mkF m 6 #[.val (.ref a1), .val (.ref a2), .val (.ref a3)] [(.ref a2), (.ref a1)])) rfl rfl (hb hby d6_6)
  have F_a1_parent_2 := F_pa.same W2
  have E_a1_2 := E_a1.wr W2
  have F_a1_libraries_2 := F_li.other W2 (Or.inr (slot_ne (Or.inr (hw _ (List.mem_of_getElem? (i := 42) rfl))) (Or.inr (hw _ (List.mem_of_getElem? (i := 40) rfl))) (by decide) (t := (.object "com/example/roteiro/roteiro/lang/Libraries")) (t' := (.object "com/example/roteiro/roteiro/lang/Scope")) (by decide) (by decide)))
  have Z2 : n0 ≤ h2.size := Nat.le_trans Z0 (Keep.of_wr W2).1
  have KC2 : Keep h0 h2 [a1] := (Keep.refl h0 [a1]).wr W2 (Or.inl (List.mem_of_getElem? (i := 0) rfl))
  have N2 := Fr.snoc X2 N0 g_a1
  obtain ⟨T3, h3, X3, e3, W3, st3⟩ := putF X2 hx hZ hown (host := "") (Or.inl (hw _ (List.mem_of_getElem? (i := 41) rfl))) Via.refl e2 F_a1_libraries_2 E_a1_2 (Or.inr ⟨(hw _ (List.mem_of_getElem? (i := 42) rfl)), rfl, hnm⟩) (hw _ (List.mem_of_getElem? (i := 30) rfl)) (ty := (.object "com/example/roteiro/roteiro/lang/Libraries")) (by decide) rfl rfl (g := (mkF m 11 #[.val (.ref a1), .val (.ref a2), .val (.ref a3)] [(.ref a3), (.ref a1)])) rfl rfl (hb hby d6_11)
  have F_a1_libraries_3 := F_a1_libraries_2.same W3
  have E_a1_3 := E_a1_2.wr W3
  have F_a1_parent_3 := F_a1_parent_2.other W3 (Or.inr (slot_ne (Or.inr (hw _ (List.mem_of_getElem? (i := 40) rfl))) (Or.inr (hw _ (List.mem_of_getElem? (i := 42) rfl))) (by decide) (t := (.object "com/example/roteiro/roteiro/lang/Scope")) (t' := (.object "com/example/roteiro/roteiro/lang/Libraries")) (by decide) (by decide)))
  have Z3 : n0 ≤ h3.size := Nat.le_trans Z2 (Keep.of_wr W3).1
  have KC3 : Keep h0 h3 [a1] := KC2.wr W3 (Or.inl (List.mem_of_getElem? (i := 0) rfl))
  have N3 := Fr.snoc X3 N2 g_a1
  obtain ⟨fs, hr, hrun, hended, hW, hsame⟩ := X3.leave (v := none) (fun _ => rfl)
  refine ⟨_, _, pre0 _ ?_, hrun, hended, _, _, rfl, ?_, ⟨_, rfl⟩, hW, hsame.mono (by decide) (by decide)⟩
  · show Steps p.tables e below (s₁.setTop (mkF m 0 #[.val (.ref a1), .val (.ref a2), .val (.ref a3)] [])) _
    refine XS.aloadN X0.here hx rfl (hb hby d6_0) rfl rfl ?_
    show Steps p.tables e below (s₁.setTop (mkF m 1 #[.val (.ref a1), .val (.ref a2), .val (.ref a3)] [(.ref a1)])) _
    refine st1 _ ?_
    show Steps p.tables e below (T1.setTop (mkF m 4 #[.val (.ref a1), .val (.ref a2), .val (.ref a3)] [])) _
    refine XS.aloadN X1.here hx rfl (hb hby d6_4) rfl rfl ?_
    show Steps p.tables e below (T1.setTop (mkF m 5 #[.val (.ref a1), .val (.ref a2), .val (.ref a3)] [(.ref a1)])) _
    refine XS.aloadN X1.here hx rfl (hb hby d6_5) rfl rfl ?_
    show Steps p.tables e below (T1.setTop (mkF m 6 #[.val (.ref a1), .val (.ref a2), .val (.ref a3)] [(.ref a2), (.ref a1)])) _
    refine st2 _ ?_
    show Steps p.tables e below (T2.setTop (mkF m 9 #[.val (.ref a1), .val (.ref a2), .val (.ref a3)] [])) _
    refine XS.aloadN X2.here hx rfl (hb hby d6_9) rfl rfl ?_
    show Steps p.tables e below (T2.setTop (mkF m 10 #[.val (.ref a1), .val (.ref a2), .val (.ref a3)] [(.ref a1)])) _
    refine XS.aloadN X2.here hx rfl (hb hby d6_10) rfl rfl ?_
    show Steps p.tables e below (T2.setTop (mkF m 11 #[.val (.ref a1), .val (.ref a2), .val (.ref a3)] [(.ref a3), (.ref a1)])) _
    refine st3 _ ?_
    show Steps p.tables e below (T3.setTop (mkF m 14 #[.val (.ref a1), .val (.ref a2), .val (.ref a3)] [])) _
    exact X3.returnOut hx Bd.returns (hb hby d6_14) hr
  · show QI2 Z a1 (.ref a2) a3 h0 n0 _ T3.heap _
    rw [e3]
    exact ⟨rfl, N3, KC3, F_a1_parent_3, F_a1_libraries_3⟩
theorem d5_0 : decode prog_111_method_1_code 0 = .ok (.aload_n 0, 1) := by decide +kernel
theorem d5_1 : decode prog_111_method_1_code 1 = .ok (.aconst_null, 1) := by decide +kernel
theorem d5_2 : decode prog_111_method_1_code 2 = .ok (.aload_n 1, 1) := by decide +kernel
theorem d5_3 : decode prog_111_method_1_code 3 = .ok (.invokespecial 1, 3) := by decide +kernel
theorem d5_6 : decode prog_111_method_1_code 6 = .ok (.return_, 1) := by decide +kernel
theorem pd_5_0 : parseMethodDescriptor "(Lcom/example/roteiro/roteiro/lang/Scope;Lcom/example/roteiro/roteiro/lang/Libraries;)V" = some ⟨[(.object "com/example/roteiro/roteiro/lang/Scope"), (.object "com/example/roteiro/roteiro/lang/Libraries")], none⟩ := by decide +kernel
theorem pn_5 : plainName "com/example/roteiro/roteiro/lang/Scope" = true := by first | (simp [plainName, overriddenIn]; done) | decide +kernel
theorem ef_5 (m : MethodId) (x0 : Addr) (x1 : Addr) : entryFrame m #[(.ref x0), (.ref x1)] 2 = mkF m 0 #[.val (.ref x0), .val (.ref x1)] [] := by first | (simp [entryFrame, mkF, argsToLocals, Value.category]; done) | rfl
set_option maxRecDepth 65536 in
set_option maxHeartbeats 40000000 in
theorem rmI1 (l : Launch) (Z : State) (a0 : Array Value) (hw : ∀ d ∈ tables_1, d.before a0 Z = true) (ws : List Jvm.Cond) (a1 : Addr) (a3 : Addr) (u1 u2 : Value) (h0 : Heap) (n0 : Nat) (Z0 : n0 ≤ h0.size) (E_a1 : Exa Z h0 a1 "com/example/roteiro/roteiro/lang/Scope") (F_pa : Fld Z h0 a1 "com/example/roteiro/roteiro/lang/Scope" "parent" "Lcom/example/roteiro/roteiro/lang/Scope;" u1) (F_li : Fld Z h0 a1 "com/example/roteiro/roteiro/lang/Scope" "libraries" "Lcom/example/roteiro/roteiro/lang/Libraries;" u2) (g_a1 : n0 ≤ a1) :
    MetFree l (⟨"com/example/roteiro/roteiro/lang/Scope", "<init>", "(Lcom/example/roteiro/roteiro/lang/Libraries;)V"⟩ : MethodName) (head1 (Jvm.Cond.code (⟨"com/example/roteiro/roteiro/lang/Scope", "<init>", "(Lcom/example/roteiro/roteiro/lang/Libraries;)V"⟩ : MethodName) prog_111_method_1_code 2 none :: ws) ({ frames := 2, cells := 0, slots := 0, locals := 26 } : Room)) (fun a U => a = #[(.ref a1), (.ref a3)] ∧ Z.Warmed39 U.vm ∧ U.heap = h0) (fun _ _ _ _ _ => True) (fun _ U o U' => ∃ v L, o = .returned v ∧ QI2 Z a1 .null a3 h0 n0 v U'.heap L ∧ FrameEnd U o U' L ({ frames := 2, cells := 0, slots := 0, locals := 26 } : Room).cells ({ frames := 2, cells := 0, slots := 0, locals := 26 } : Room).slots) := by
  refine MetFree.of_bodySF (plainFor_of_name pn_5) hisR ?_
  intro p e s m args below meth c s₁ Bd hml0 hP hK
  obtain ⟨rfl, hZ, hh⟩ := hP
  have hx := Bd.exec
  have hby := Bd.bytes
  have hml : c.maxLocals = 2 := hml0
  have hown : s.vm.findClass "com/example/roteiro/roteiro/lang/Scope" = some m.cls := findClass_of_methodNamed Bd.named
  have hnm := (name_of_methodNamed Bd.named Bd.method).1
  have X0 : Stand p l e ({ frames := 2, cells := 0, slots := 0, locals := 26 } : Room) s m #[(.ref a1), (.ref a3)] below meth c s₁ [] 0 0 := Stand.of_body Bd
  have e0 : s₁.heap = h0 := by rw [← hh, Bd.state]; rfl
  have N0 := Fr.nil n0
  have pre0 : ∀ t, Steps p.tables e below (s₁.setTop (mkF m 0 #[.val (.ref a1), .val (.ref a3)] [])) t → Steps p.tables e below (s₁.setTop (entryFrame m #[(.ref a1), (.ref a3)] 2)) t := fun t k => castTop (ef_5 m a1 a3) k
  obtain ⟨_, _, ⟨T1, L1, k1, n1⟩, -, X1, ⟨Lc1, hQ1, l1, y1, z1⟩, st1⟩ := X0.specialBack hx (y := (⟨"com/example/roteiro/roteiro/lang/Scope", "<init>", "(Lcom/example/roteiro/roteiro/lang/Scope;Lcom/example/roteiro/roteiro/lang/Libraries;)V"⟩ : MethodName)) rfl hown (mvT hZ (hw _ (List.mem_of_getElem? (i := 35) rfl))) (mvT hZ (hw _ (List.mem_of_getElem? (i := 36) rfl))) (mvT hZ (hw _ (List.mem_of_getElem? (i := 37) rfl))) (by decide) (backOf (W := 0) (rmI2n l Z a0 hw [] a1 a3 _ _ h0 n0 Z0 E_a1 F_pa F_li g_a1) hZ (hw _ (List.mem_of_getElem? (i := 37) rfl)) (hw _ (List.mem_of_getElem? (i := 31) rfl)) (by decide) (by decide)) (g := (mkF m 3 #[.val (.ref a1), .val (.ref a3)] [(.ref a3), .null, (.ref a1)])) rfl (by rw [hml]; rfl) (Steps.refl _) (a := a1) (argsL := [.null, (.ref a3)]) (rest := []) (lenOf pd_5_0 rfl) rfl (by show 2 * 0 + _ ≤ _; exact Nat.le_of_eq rfl) (hb hby d5_3) (fun _ _ => ⟨rfl, e0, (by decide : 0 + 0 ≤ _), (by decide : 0 + 0 ≤ _)⟩)
  dsimp only [Pt.U, Pt.locs, Pt.cells, Pt.slots] at X1 l1 y1 z1 st1 hQ1
  subst l1 y1 z1
  obtain ⟨rfl, N1q, K1, Fp1, Fl1⟩ := hQ1
  have N1 := Fr.app N0 N1q
  have E_a1_1 := E_a1.keep K1
  have Z1 : n0 ≤ T1.heap.size := Nat.le_trans Z0 K1.1
  have KC1 : Keep h0 T1.heap [a1] := (Keep.refl h0 [a1]).trans K1 (allS (Or.inl (List.mem_of_getElem? (i := 0) rfl)) all0)
  obtain ⟨fs, hr, hrun, hended, hW, hsame⟩ := X1.leave (v := none) (fun _ => rfl)
  refine ⟨_, _, pre0 _ ?_, hrun, hended, _, _, rfl, ?_, ⟨_, rfl⟩, hW, hsame.mono (by decide) (by decide)⟩
  · show Steps p.tables e below (s₁.setTop (mkF m 0 #[.val (.ref a1), .val (.ref a3)] [])) _
    refine XS.aloadN X0.here hx rfl (hb hby d5_0) rfl rfl ?_
    show Steps p.tables e below (s₁.setTop (mkF m 1 #[.val (.ref a1), .val (.ref a3)] [(.ref a1)])) _
    refine XS.aconstNull X0.here hx rfl (hb hby d5_1) ?_
    show Steps p.tables e below (s₁.setTop (mkF m 2 #[.val (.ref a1), .val (.ref a3)] [.null, (.ref a1)])) _
    refine XS.aloadN X0.here hx rfl (hb hby d5_2) rfl rfl ?_
    show Steps p.tables e below (s₁.setTop (mkF m 3 #[.val (.ref a1), .val (.ref a3)] [(.ref a3), .null, (.ref a1)])) _
    refine st1.trans ?_
    show Steps p.tables e below (T1.setTop (mkF m 6 #[.val (.ref a1), .val (.ref a3)] [])) _
    exact X1.returnOut hx Bd.returns (hb hby d5_6) hr
  · show QI2 Z a1 .null a3 h0 n0 _ T1.heap _
    exact ⟨rfl, N1, KC1, Fp1, Fl1⟩
def QCh (Z : State) (a1 a3 : Addr) (h0 : Heap) (n0 : Nat) (v : Option Value) (h : Heap) (L : List Loc) : Prop := v = some (.ref h0.size) ∧ Fr n0 L ∧ Keep h0 h [] ∧ Exa Z h h0.size "com/example/roteiro/roteiro/lang/Scope" ∧ Fld Z h h0.size "com/example/roteiro/roteiro/lang/Scope" "parent" "Lcom/example/roteiro/roteiro/lang/Scope;" (.ref a1) ∧ Fld Z h h0.size "com/example/roteiro/roteiro/lang/Scope" "libraries" "Lcom/example/roteiro/roteiro/lang/Libraries;" (.ref a3)
theorem d7_0 : decode prog_111_method_3_code 0 = .ok (.new 2, 3) := by decide +kernel
theorem d7_3 : decode prog_111_method_3_code 3 = .ok (.dup, 1) := by decide +kernel
theorem d7_4 : decode prog_111_method_3_code 4 = .ok (.aload_n 0, 1) := by decide +kernel
theorem d7_5 : decode prog_111_method_3_code 5 = .ok (.aload_n 0, 1) := by decide +kernel
theorem d7_6 : decode prog_111_method_3_code 6 = .ok (.getfield 16, 3) := by decide +kernel
theorem d7_9 : decode prog_111_method_3_code 9 = .ok (.invokespecial 1, 3) := by decide +kernel
theorem d7_12 : decode prog_111_method_3_code 12 = .ok (.areturn, 1) := by decide +kernel
theorem pd_7_0 : parseMethodDescriptor "(Lcom/example/roteiro/roteiro/lang/Scope;Lcom/example/roteiro/roteiro/lang/Libraries;)V" = some ⟨[(.object "com/example/roteiro/roteiro/lang/Scope"), (.object "com/example/roteiro/roteiro/lang/Libraries")], none⟩ := by decide +kernel
theorem pn_7 : plainName "com/example/roteiro/roteiro/lang/Scope" = true := by first | (simp [plainName, overriddenIn]; done) | decide +kernel
theorem ef_7 (m : MethodId) (x0 : Addr) : entryFrame m #[(.ref x0)] 1 = mkF m 0 #[.val (.ref x0)] [] := by first | (simp [entryFrame, mkF, argsToLocals, Value.category]; done) | rfl
set_option maxRecDepth 65536 in
set_option maxHeartbeats 40000000 in
theorem rmCh (l : Launch) (Z : State) (a0 : Array Value) (hw : ∀ d ∈ tables_1, d.before a0 Z = true) (ws : List Jvm.Cond) (a1 a3 : Addr) (h0 : Heap) (n0 : Nat) (Z0 : n0 ≤ h0.size) (F_li : Fld Z h0 a1 "com/example/roteiro/roteiro/lang/Scope" "libraries" "Lcom/example/roteiro/roteiro/lang/Libraries;" (.ref a3)) :
    MetFree l (⟨"com/example/roteiro/roteiro/lang/Scope", "child", "()Lcom/example/roteiro/roteiro/lang/Scope;"⟩ : MethodName) (head1 (Jvm.Cond.code (⟨"com/example/roteiro/roteiro/lang/Scope", "child", "()Lcom/example/roteiro/roteiro/lang/Scope;"⟩ : MethodName) prog_111_method_3_code 1 (some (.object "com/example/roteiro/roteiro/lang/Scope")) :: ws) ({ frames := 2, cells := 1, slots := 3, locals := 27 } : Room)) (fun a U => a = #[(.ref a1)] ∧ Z.Warmed39 U.vm ∧ U.heap = h0) (fun _ _ _ _ _ => True) (fun _ U o U' => ∃ v L, o = .returned v ∧ QCh Z a1 a3 h0 n0 v U'.heap L ∧ FrameEnd U o U' L ({ frames := 2, cells := 1, slots := 3, locals := 27 } : Room).cells ({ frames := 2, cells := 1, slots := 3, locals := 27 } : Room).slots) := by
  refine MetFree.of_bodySF (plainFor_of_name pn_7) hisR ?_
  intro p e s m args below meth c s₁ Bd hml0 hP hK
  obtain ⟨rfl, hZ, hh⟩ := hP
  have hx := Bd.exec
  have hby := Bd.bytes
  have hml : c.maxLocals = 1 := hml0
  have hown : s.vm.findClass "com/example/roteiro/roteiro/lang/Scope" = some m.cls := findClass_of_methodNamed Bd.named
  have hnm := (name_of_methodNamed Bd.named Bd.method).1
  have X0 : Stand p l e ({ frames := 2, cells := 1, slots := 3, locals := 27 } : Room) s m #[(.ref a1)] below meth c s₁ [] 0 0 := Stand.of_body Bd
  have e0 : s₁.heap = h0 := by rw [← hh, Bd.state]; rfl
  have N0 := Fr.nil n0
  have pre0 : ∀ t, Steps p.tables e below (s₁.setTop (mkF m 0 #[.val (.ref a1)] [])) t → Steps p.tables e below (s₁.setTop (entryFrame m #[(.ref a1)] 1)) t := fun t k => castTop (ef_7 m a1) k
  obtain ⟨T1, h1, X1, e1, E1, A1, D1, -, st1⟩ := newO X0 hx hZ hown (hw _ (List.mem_of_getElem? (i := 48) rfl)) (hw _ (List.mem_of_getElem? (i := 30) rfl)) (hw _ (List.mem_of_getElem? (i := 31) rfl)) e0 (g := (mkF m 0 #[.val (.ref a1)] [])) rfl (hb hby d7_0) (by decide) (by decide)
  obtain ⟨b1, g1⟩ : ∃ z, z = h0.size := ⟨_, rfl⟩
  rw [← g1] at A1 D1 st1
  have gb1 : n0 ≤ b1 := Nat.le_trans Z0 (Nat.le_of_eq g1.symm)
  have sz1 : h0.size ≤ b1 := Nat.le_trans (Keep.refl h0 []).1 (Nat.le_of_eq g1.symm)
  have ne_a1_b1 : a1 ≠ b1 := (Nat.ne_of_lt (Nat.lt_of_lt_of_le F_li.lt (Nat.le_of_eq g1.symm)))
  have F_a1_libraries_1 := F_li.ext E1
  have Z1 : n0 ≤ h1.size := Nat.le_trans Z0 E1.1
  have KC1 : Keep h0 h1 [] := (Keep.refl h0 []).ext E1
  have F_b1_parent_1 : Fld Z h1 b1 "com/example/roteiro/roteiro/lang/Scope" "parent" "Lcom/example/roteiro/roteiro/lang/Scope;" .null := D1 (Or.inr (hw _ (List.mem_of_getElem? (i := 40) rfl))) (ty := (.object "com/example/roteiro/roteiro/lang/Scope")) (by decide)
  have F_b1_libraries_1 : Fld Z h1 b1 "com/example/roteiro/roteiro/lang/Scope" "libraries" "Lcom/example/roteiro/roteiro/lang/Libraries;" .null := D1 (Or.inr (hw _ (List.mem_of_getElem? (i := 42) rfl))) (ty := (.object "com/example/roteiro/roteiro/lang/Libraries")) (by decide)
  obtain ⟨T2, X2, e2, st2⟩ := getF X1 hx hZ hown (host := "") (Or.inl (hw _ (List.mem_of_getElem? (i := 41) rfl))) Via.refl e1 F_a1_libraries_1 (g := (mkF m 6 #[.val (.ref a1)] [(.ref a1), (.ref a1), (.ref b1), (.ref b1)])) rfl rfl (hb hby d7_6)
  obtain ⟨_, _, ⟨T3, L3, k3, n3⟩, -, X3, ⟨Lc3, hQ3, l3, y3, z3⟩, st3⟩ := X2.specialBack hx (y := (⟨"com/example/roteiro/roteiro/lang/Scope", "<init>", "(Lcom/example/roteiro/roteiro/lang/Scope;Lcom/example/roteiro/roteiro/lang/Libraries;)V"⟩ : MethodName)) rfl hown (mvT hZ (hw _ (List.mem_of_getElem? (i := 35) rfl))) (mvT hZ (hw _ (List.mem_of_getElem? (i := 36) rfl))) (mvT hZ (hw _ (List.mem_of_getElem? (i := 37) rfl))) (by decide) (backOf (W := 1) (rmI2r l Z a0 hw [] b1 a1 a3 _ _ h1 n0 Z1 A1 F_b1_parent_1 F_b1_libraries_1 gb1) hZ (hw _ (List.mem_of_getElem? (i := 37) rfl)) (hw _ (List.mem_of_getElem? (i := 31) rfl)) (by decide) (by decide)) (g := (mkF m 9 #[.val (.ref a1)] [(.ref a3), (.ref a1), (.ref b1), (.ref b1)])) rfl (by rw [hml]; rfl) (Steps.refl _) (a := b1) (argsL := [(.ref a1), (.ref a3)]) (rest := [(.ref b1)]) (lenOf pd_7_0 rfl) rfl (by show 2 * 0 + _ ≤ _; exact Nat.le_of_eq rfl) (hb hby d7_9) (fun _ _ => ⟨rfl, e2, (by decide : 1 + 0 ≤ _), (by decide : 3 + 0 ≤ _)⟩)
  dsimp only [Pt.U, Pt.locs, Pt.cells, Pt.slots] at X3 l3 y3 z3 st3 hQ3
  subst l3 y3 z3
  obtain ⟨rfl, N3q, K3, Fp3, Fl3⟩ := hQ3
  have N3 := Fr.app N0 N3q
  have F_a1_libraries_3 := F_a1_libraries_1.keep K3 (ninS ne_a1_b1 nin0)
  have E_b1_3 := A1.keep K3
  have Z3 : n0 ≤ T3.heap.size := Nat.le_trans Z1 K3.1
  have KC3 : Keep h0 T3.heap [] := KC1.trans K3 (allS (Or.inr sz1) all0)
  obtain ⟨fs, hr, hrun, hended, hW, hsame⟩ := X3.leave (v := some (.ref b1)) (fun h => by rw [Bd.returns] at h; cases h)
  refine ⟨_, _, pre0 _ ?_, hrun, hended, _, _, rfl, ?_, ⟨_, rfl⟩, hW, hsame.mono (by decide) (by decide)⟩
  · show Steps p.tables e below (s₁.setTop (mkF m 0 #[.val (.ref a1)] [])) _
    refine st1 _ ?_
    show Steps p.tables e below (T1.setTop (mkF m 3 #[.val (.ref a1)] [(.ref b1)])) _
    refine XS.dup X1.here hx rfl (hb hby d7_3) rfl rfl ?_
    show Steps p.tables e below (T1.setTop (mkF m 4 #[.val (.ref a1)] [(.ref b1), (.ref b1)])) _
    refine XS.aloadN X1.here hx rfl (hb hby d7_4) rfl rfl ?_
    show Steps p.tables e below (T1.setTop (mkF m 5 #[.val (.ref a1)] [(.ref a1), (.ref b1), (.ref b1)])) _
    refine XS.aloadN X1.here hx rfl (hb hby d7_5) rfl rfl ?_
    show Steps p.tables e below (T1.setTop (mkF m 6 #[.val (.ref a1)] [(.ref a1), (.ref a1), (.ref b1), (.ref b1)])) _
    refine st2 _ ?_
    show Steps p.tables e below (T2.setTop (mkF m 9 #[.val (.ref a1)] [(.ref a3), (.ref a1), (.ref b1), (.ref b1)])) _
    refine st3.trans ?_
    show Steps p.tables e below (T3.setTop (mkF m 12 #[.val (.ref a1)] [(.ref b1)])) _
    jvm_step X3.here [X3.here.top, hx, (hb hby d7_12), X3.method', Bd.returns, Value.isRef, FieldType.isReference]
    first | (intro acts; rw [hr _ acts rfl rfl rfl]) | rw [hr _ _ rfl rfl rfl]
    exact Steps.refl _
  · show QCh Z a1 a3 h0 n0 _ T3.heap _
    exact ⟨by rw [g1], N3, KC3, (g1 ▸ E_b1_3), (g1 ▸ Fp3), (g1 ▸ Fl3)⟩
def QRo (Z : State) (a1 r : Addr) (h0 : Heap) (n0 : Nat) (v : Option Value) (h : Heap) (L : List Loc) : Prop := v = some (.ref r) ∧ Fr n0 L ∧ h = h0
theorem d8_0 : decode prog_111_method_6_code 0 = .ok (.aload_n 0, 1) := by decide +kernel
theorem d8_1 : decode prog_111_method_6_code 1 = .ok (.astore_n 1, 1) := by decide +kernel
theorem d8_2 : decode prog_111_method_6_code 2 = .ok (.aload_n 1, 1) := by decide +kernel
theorem d8_3 : decode prog_111_method_6_code 3 = .ok (.getfield 12, 3) := by decide +kernel
theorem d8_6 : decode prog_111_method_6_code 6 = .ok (.ifnull 11, 3) := by decide +kernel
theorem d8_17 : decode prog_111_method_6_code 17 = .ok (.aload_n 1, 1) := by decide +kernel
theorem d8_18 : decode prog_111_method_6_code 18 = .ok (.areturn, 1) := by decide +kernel
theorem pn_8 : plainName "com/example/roteiro/roteiro/lang/Scope" = true := by first | (simp [plainName, overriddenIn]; done) | decide +kernel
theorem ef_8 (m : MethodId) (x0 : Addr) : entryFrame m #[(.ref x0)] 2 = mkF m 0 #[.val (.ref x0), .unset] [] := by first | (simp [entryFrame, mkF, argsToLocals, Value.category]; done) | rfl
set_option maxRecDepth 65536 in
set_option maxHeartbeats 40000000 in
theorem rmRo0 (l : Launch) (Z : State) (a0 : Array Value) (hw : ∀ d ∈ tables_1, d.before a0 Z = true) (ws : List Jvm.Cond) (a1 : Addr) (h0 : Heap) (n0 : Nat) (Z0 : n0 ≤ h0.size) (F_a1 : Fld Z h0 a1 "com/example/roteiro/roteiro/lang/Scope" "parent" "Lcom/example/roteiro/roteiro/lang/Scope;" .null) :
    MetFree l (⟨"com/example/roteiro/roteiro/lang/Scope", "root", "()Lcom/example/roteiro/roteiro/lang/Scope;"⟩ : MethodName) (head1 (Jvm.Cond.code (⟨"com/example/roteiro/roteiro/lang/Scope", "root", "()Lcom/example/roteiro/roteiro/lang/Scope;"⟩ : MethodName) prog_111_method_6_code 2 (some (.object "com/example/roteiro/roteiro/lang/Scope")) :: ws) ({ frames := 0, cells := 0, slots := 0, locals := 0 } : Room)) (fun a U => a = #[(.ref a1)] ∧ Z.Warmed39 U.vm ∧ U.heap = h0) (fun _ _ _ _ _ => True) (fun _ U o U' => ∃ v L, o = .returned v ∧ QRo Z a1 a1 h0 n0 v U'.heap L ∧ FrameEnd U o U' L ({ frames := 0, cells := 0, slots := 0, locals := 0 } : Room).cells ({ frames := 0, cells := 0, slots := 0, locals := 0 } : Room).slots) := by
  refine MetFree.of_bodySF (plainFor_of_name pn_8) hisR ?_
  intro p e s m args below meth c s₁ Bd hml0 hP hK
  obtain ⟨rfl, hZ, hh⟩ := hP
  have hx := Bd.exec
  have hby := Bd.bytes
  have hml : c.maxLocals = 2 := hml0
  have hown : s.vm.findClass "com/example/roteiro/roteiro/lang/Scope" = some m.cls := findClass_of_methodNamed Bd.named
  have hnm := (name_of_methodNamed Bd.named Bd.method).1
  have X0 : Stand p l e ({ frames := 0, cells := 0, slots := 0, locals := 0 } : Room) s m #[(.ref a1)] below meth c s₁ [] 0 0 := Stand.of_body Bd
  have e0 : s₁.heap = h0 := by rw [← hh, Bd.state]; rfl
  have N0 := Fr.nil n0
  have pre0 : ∀ t, Steps p.tables e below (s₁.setTop (mkF m 0 #[.val (.ref a1), .unset] [])) t → Steps p.tables e below (s₁.setTop (entryFrame m #[(.ref a1)] 2)) t := fun t k => castTop (ef_8 m a1) k
  obtain ⟨T1, X1, e1, st1⟩ := getF X0 hx hZ hown (host := "") (Or.inl (hw _ (List.mem_of_getElem? (i := 39) rfl))) Via.refl e0 F_a1 (g := (mkF m 3 #[.val (.ref a1), .val (.ref a1)] [(.ref a1)])) rfl rfl (hb hby d8_3)
  obtain ⟨fs, hr, hrun, hended, hW, hsame⟩ := X1.leave (v := some (.ref a1)) (fun h => by rw [Bd.returns] at h; cases h)
  refine ⟨_, _, pre0 _ ?_, hrun, hended, _, _, rfl, ?_, ⟨_, rfl⟩, hW, hsame.mono (by decide) (by decide)⟩
  · show Steps p.tables e below (s₁.setTop (mkF m 0 #[.val (.ref a1), .unset] [])) _
    refine XS.aloadN X0.here hx rfl (hb hby d8_0) rfl rfl ?_
    show Steps p.tables e below (s₁.setTop (mkF m 1 #[.val (.ref a1), .unset] [(.ref a1)])) _
    refine XS.astoreN X0.here hx rfl (hb hby d8_1) rfl rfl (l' := #[.val (.ref a1), .val (.ref a1)]) rfl ?_
    show Steps p.tables e below (s₁.setTop (mkF m 2 #[.val (.ref a1), .val (.ref a1)] [])) _
    refine XS.aloadN X0.here hx rfl (hb hby d8_2) rfl rfl ?_
    show Steps p.tables e below (s₁.setTop (mkF m 3 #[.val (.ref a1), .val (.ref a1)] [(.ref a1)])) _
    refine st1 _ ?_
    show Steps p.tables e below (T1.setTop (mkF m 6 #[.val (.ref a1), .val (.ref a1)] [.null])) _
    refine XS.ifnullYes X1.here hx rfl (pc0 := 6) (pc' := 17) rfl (hb hby d8_6) rfl (by decide) (by decide) ?_
    show Steps p.tables e below (T1.setTop (mkF m 17 #[.val (.ref a1), .val (.ref a1)] [])) _
    refine XS.aloadN X1.here hx rfl (hb hby d8_17) rfl rfl ?_
    show Steps p.tables e below (T1.setTop (mkF m 18 #[.val (.ref a1), .val (.ref a1)] [(.ref a1)])) _
    jvm_step X1.here [X1.here.top, hx, (hb hby d8_18), X1.method', Bd.returns, Value.isRef, FieldType.isReference]
    first | (intro acts; rw [hr _ acts rfl rfl rfl]) | rw [hr _ _ rfl rfl rfl]
    exact Steps.refl _
  · show QRo Z a1 a1 h0 n0 _ T1.heap _
    rw [e1]
    exact ⟨rfl, N0, rfl⟩
theorem d8_9 : decode prog_111_method_6_code 9 = .ok (.aload_n 1, 1) := by decide +kernel
theorem d8_10 : decode prog_111_method_6_code 10 = .ok (.getfield 12, 3) := by decide +kernel
theorem d8_13 : decode prog_111_method_6_code 13 = .ok (.astore_n 1, 1) := by decide +kernel
theorem d8_14 : decode prog_111_method_6_code 14 = .ok (.goto (-12), 3) := by decide +kernel
set_option maxRecDepth 65536 in
set_option maxHeartbeats 40000000 in
theorem rmRo1 (l : Launch) (Z : State) (a0 : Array Value) (hw : ∀ d ∈ tables_1, d.before a0 Z = true) (ws : List Jvm.Cond) (a1 a2 : Addr) (h0 : Heap) (n0 : Nat) (Z0 : n0 ≤ h0.size) (F_a1 : Fld Z h0 a1 "com/example/roteiro/roteiro/lang/Scope" "parent" "Lcom/example/roteiro/roteiro/lang/Scope;" (.ref a2)) (F_a2 : Fld Z h0 a2 "com/example/roteiro/roteiro/lang/Scope" "parent" "Lcom/example/roteiro/roteiro/lang/Scope;" .null) :
    MetFree l (⟨"com/example/roteiro/roteiro/lang/Scope", "root", "()Lcom/example/roteiro/roteiro/lang/Scope;"⟩ : MethodName) (head1 (Jvm.Cond.code (⟨"com/example/roteiro/roteiro/lang/Scope", "root", "()Lcom/example/roteiro/roteiro/lang/Scope;"⟩ : MethodName) prog_111_method_6_code 2 (some (.object "com/example/roteiro/roteiro/lang/Scope")) :: ws) ({ frames := 0, cells := 0, slots := 0, locals := 0 } : Room)) (fun a U => a = #[(.ref a1)] ∧ Z.Warmed39 U.vm ∧ U.heap = h0) (fun _ _ _ _ _ => True) (fun _ U o U' => ∃ v L, o = .returned v ∧ QRo Z a1 a2 h0 n0 v U'.heap L ∧ FrameEnd U o U' L ({ frames := 0, cells := 0, slots := 0, locals := 0 } : Room).cells ({ frames := 0, cells := 0, slots := 0, locals := 0 } : Room).slots) := by
  refine MetFree.of_bodySF (plainFor_of_name pn_8) hisR ?_
  intro p e s m args below meth c s₁ Bd hml0 hP hK
  obtain ⟨rfl, hZ, hh⟩ := hP
  have hx := Bd.exec
  have hby := Bd.bytes
  have hml : c.maxLocals = 2 := hml0
  have hown : s.vm.findClass "com/example/roteiro/roteiro/lang/Scope" = some m.cls := findClass_of_methodNamed Bd.named
  have hnm := (name_of_methodNamed Bd.named Bd.method).1
  have X0 : Stand p l e ({ frames := 0, cells := 0, slots := 0, locals := 0 } : Room) s m #[(.ref a1)] below meth c s₁ [] 0 0 := Stand.of_body Bd
  have e0 : s₁.heap = h0 := by rw [← hh, Bd.state]; rfl
  have N0 := Fr.nil n0
  have pre0 : ∀ t, Steps p.tables e below (s₁.setTop (mkF m 0 #[.val (.ref a1), .unset] [])) t → Steps p.tables e below (s₁.setTop (entryFrame m #[(.ref a1)] 2)) t := fun t k => castTop (ef_8 m a1) k
  obtain ⟨T1, X1, e1, st1⟩ := getF X0 hx hZ hown (host := "") (Or.inl (hw _ (List.mem_of_getElem? (i := 39) rfl))) Via.refl e0 F_a1 (g := (mkF m 3 #[.val (.ref a1), .val (.ref a1)] [(.ref a1)])) rfl rfl (hb hby d8_3)
  obtain ⟨T2, X2, e2, st2⟩ := getF X1 hx hZ hown (host := "") (Or.inl (hw _ (List.mem_of_getElem? (i := 39) rfl))) Via.refl e1 F_a1 (g := (mkF m 10 #[.val (.ref a1), .val (.ref a1)] [(.ref a1)])) rfl rfl (hb hby d8_10)
  obtain ⟨T3, X3, e3, st3⟩ := getF X2 hx hZ hown (host := "") (Or.inl (hw _ (List.mem_of_getElem? (i := 39) rfl))) Via.refl e2 F_a2 (g := (mkF m 3 #[.val (.ref a1), .val (.ref a2)] [(.ref a2)])) rfl rfl (hb hby d8_3)
  obtain ⟨fs, hr, hrun, hended, hW, hsame⟩ := X3.leave (v := some (.ref a2)) (fun h => by rw [Bd.returns] at h; cases h)
  refine ⟨_, _, pre0 _ ?_, hrun, hended, _, _, rfl, ?_, ⟨_, rfl⟩, hW, hsame.mono (by decide) (by decide)⟩
  · show Steps p.tables e below (s₁.setTop (mkF m 0 #[.val (.ref a1), .unset] [])) _
    refine XS.aloadN X0.here hx rfl (hb hby d8_0) rfl rfl ?_
    show Steps p.tables e below (s₁.setTop (mkF m 1 #[.val (.ref a1), .unset] [(.ref a1)])) _
    refine XS.astoreN X0.here hx rfl (hb hby d8_1) rfl rfl (l' := #[.val (.ref a1), .val (.ref a1)]) rfl ?_
    show Steps p.tables e below (s₁.setTop (mkF m 2 #[.val (.ref a1), .val (.ref a1)] [])) _
    refine XS.aloadN X0.here hx rfl (hb hby d8_2) rfl rfl ?_
    show Steps p.tables e below (s₁.setTop (mkF m 3 #[.val (.ref a1), .val (.ref a1)] [(.ref a1)])) _
    refine st1 _ ?_
    show Steps p.tables e below (T1.setTop (mkF m 6 #[.val (.ref a1), .val (.ref a1)] [(.ref a2)])) _
    refine XS.ifnullNo X1.here hx rfl (hb hby d8_6) rfl ?_
    show Steps p.tables e below (T1.setTop (mkF m 9 #[.val (.ref a1), .val (.ref a1)] [])) _
    refine XS.aloadN X1.here hx rfl (hb hby d8_9) rfl rfl ?_
    show Steps p.tables e below (T1.setTop (mkF m 10 #[.val (.ref a1), .val (.ref a1)] [(.ref a1)])) _
    refine st2 _ ?_
    show Steps p.tables e below (T2.setTop (mkF m 13 #[.val (.ref a1), .val (.ref a1)] [(.ref a2)])) _
    refine XS.astoreN X2.here hx rfl (hb hby d8_13) rfl rfl (l' := #[.val (.ref a1), .val (.ref a2)]) rfl ?_
    show Steps p.tables e below (T2.setTop (mkF m 14 #[.val (.ref a1), .val (.ref a2)] [])) _
    refine XS.goto X2.here hx rfl (pc0 := 14) (pc' := 2) rfl (hb hby d8_14) (by decide) (by decide) ?_
    show Steps p.tables e below (T2.setTop (mkF m 2 #[.val (.ref a1), .val (.ref a2)] [])) _
    refine XS.aloadN X2.here hx rfl (hb hby d8_2) rfl rfl ?_
    show Steps p.tables e below (T2.setTop (mkF m 3 #[.val (.ref a1), .val (.ref a2)] [(.ref a2)])) _
    refine st3 _ ?_
    show Steps p.tables e below (T3.setTop (mkF m 6 #[.val (.ref a1), .val (.ref a2)] [.null])) _
    refine XS.ifnullYes X3.here hx rfl (pc0 := 6) (pc' := 17) rfl (hb hby d8_6) rfl (by decide) (by decide) ?_
    show Steps p.tables e below (T3.setTop (mkF m 17 #[.val (.ref a1), .val (.ref a2)] [])) _
    refine XS.aloadN X3.here hx rfl (hb hby d8_17) rfl rfl ?_
    show Steps p.tables e below (T3.setTop (mkF m 18 #[.val (.ref a1), .val (.ref a2)] [(.ref a2)])) _
    jvm_step X3.here [X3.here.top, hx, (hb hby d8_18), X3.method', Bd.returns, Value.isRef, FieldType.isReference]
    first | (intro acts; rw [hr _ acts rfl rfl rfl]) | rw [hr _ _ rfl rfl rfl]
    exact Steps.refl _
  · show QRo Z a1 a2 h0 n0 _ T3.heap _
    rw [e3]
    exact ⟨rfl, N0, rfl⟩
set_option maxRecDepth 65536 in
set_option maxHeartbeats 40000000 in
theorem rmRo2 (l : Launch) (Z : State) (a0 : Array Value) (hw : ∀ d ∈ tables_1, d.before a0 Z = true) (ws : List Jvm.Cond) (a1 a2 a3 : Addr) (h0 : Heap) (n0 : Nat) (Z0 : n0 ≤ h0.size) (F_a1 : Fld Z h0 a1 "com/example/roteiro/roteiro/lang/Scope" "parent" "Lcom/example/roteiro/roteiro/lang/Scope;" (.ref a2)) (F_a2 : Fld Z h0 a2 "com/example/roteiro/roteiro/lang/Scope" "parent" "Lcom/example/roteiro/roteiro/lang/Scope;" (.ref a3)) (F_a3 : Fld Z h0 a3 "com/example/roteiro/roteiro/lang/Scope" "parent" "Lcom/example/roteiro/roteiro/lang/Scope;" .null) :
    MetFree l (⟨"com/example/roteiro/roteiro/lang/Scope", "root", "()Lcom/example/roteiro/roteiro/lang/Scope;"⟩ : MethodName) (head1 (Jvm.Cond.code (⟨"com/example/roteiro/roteiro/lang/Scope", "root", "()Lcom/example/roteiro/roteiro/lang/Scope;"⟩ : MethodName) prog_111_method_6_code 2 (some (.object "com/example/roteiro/roteiro/lang/Scope")) :: ws) ({ frames := 0, cells := 0, slots := 0, locals := 0 } : Room)) (fun a U => a = #[(.ref a1)] ∧ Z.Warmed39 U.vm ∧ U.heap = h0) (fun _ _ _ _ _ => True) (fun _ U o U' => ∃ v L, o = .returned v ∧ QRo Z a1 a3 h0 n0 v U'.heap L ∧ FrameEnd U o U' L ({ frames := 0, cells := 0, slots := 0, locals := 0 } : Room).cells ({ frames := 0, cells := 0, slots := 0, locals := 0 } : Room).slots) := by
  refine MetFree.of_bodySF (plainFor_of_name pn_8) hisR ?_
  intro p e s m args below meth c s₁ Bd hml0 hP hK
  obtain ⟨rfl, hZ, hh⟩ := hP
  have hx := Bd.exec
  have hby := Bd.bytes
  have hml : c.maxLocals = 2 := hml0
  have hown : s.vm.findClass "com/example/roteiro/roteiro/lang/Scope" = some m.cls := findClass_of_methodNamed Bd.named
  have hnm := (name_of_methodNamed Bd.named Bd.method).1
  have X0 : Stand p l e ({ frames := 0, cells := 0, slots := 0, locals := 0 } : Room) s m #[(.ref a1)] below meth c s₁ [] 0 0 := Stand.of_body Bd
  have e0 : s₁.heap = h0 := by rw [← hh, Bd.state]; rfl
  have N0 := Fr.nil n0
  have pre0 : ∀ t, Steps p.tables e below (s₁.setTop (mkF m 0 #[.val (.ref a1), .unset] [])) t → Steps p.tables e below (s₁.setTop (entryFrame m #[(.ref a1)] 2)) t := fun t k => castTop (ef_8 m a1) k
  obtain ⟨T1, X1, e1, st1⟩ := getF X0 hx hZ hown (host := "") (Or.inl (hw _ (List.mem_of_getElem? (i := 39) rfl))) Via.refl e0 F_a1 (g := (mkF m 3 #[.val (.ref a1), .val (.ref a1)] [(.ref a1)])) rfl rfl (hb hby d8_3)
  obtain ⟨T2, X2, e2, st2⟩ := getF X1 hx hZ hown (host := "") (Or.inl (hw _ (List.mem_of_getElem? (i := 39) rfl))) Via.refl e1 F_a1 (g := (mkF m 10 #[.val (.ref a1), .val (.ref a1)] [(.ref a1)])) rfl rfl (hb hby d8_10)
  obtain ⟨T3, X3, e3, st3⟩ := getF X2 hx hZ hown (host := "") (Or.inl (hw _ (List.mem_of_getElem? (i := 39) rfl))) Via.refl e2 F_a2 (g := (mkF m 3 #[.val (.ref a1), .val (.ref a2)] [(.ref a2)])) rfl rfl (hb hby d8_3)
  obtain ⟨T4, X4, e4, st4⟩ := getF X3 hx hZ hown (host := "") (Or.inl (hw _ (List.mem_of_getElem? (i := 39) rfl))) Via.refl e3 F_a2 (g := (mkF m 10 #[.val (.ref a1), .val (.ref a2)] [(.ref a2)])) rfl rfl (hb hby d8_10)
  obtain ⟨T5, X5, e5, st5⟩ := getF X4 hx hZ hown (host := "") (Or.inl (hw _ (List.mem_of_getElem? (i := 39) rfl))) Via.refl e4 F_a3 (g := (mkF m 3 #[.val (.ref a1), .val (.ref a3)] [(.ref a3)])) rfl rfl (hb hby d8_3)
  obtain ⟨fs, hr, hrun, hended, hW, hsame⟩ := X5.leave (v := some (.ref a3)) (fun h => by rw [Bd.returns] at h; cases h)
  refine ⟨_, _, pre0 _ ?_, hrun, hended, _, _, rfl, ?_, ⟨_, rfl⟩, hW, hsame.mono (by decide) (by decide)⟩
  · show Steps p.tables e below (s₁.setTop (mkF m 0 #[.val (.ref a1), .unset] [])) _
    refine XS.aloadN X0.here hx rfl (hb hby d8_0) rfl rfl ?_
    show Steps p.tables e below (s₁.setTop (mkF m 1 #[.val (.ref a1), .unset] [(.ref a1)])) _
    refine XS.astoreN X0.here hx rfl (hb hby d8_1) rfl rfl (l' := #[.val (.ref a1), .val (.ref a1)]) rfl ?_
    show Steps p.tables e below (s₁.setTop (mkF m 2 #[.val (.ref a1), .val (.ref a1)] [])) _
    refine XS.aloadN X0.here hx rfl (hb hby d8_2) rfl rfl ?_
    show Steps p.tables e below (s₁.setTop (mkF m 3 #[.val (.ref a1), .val (.ref a1)] [(.ref a1)])) _
    refine st1 _ ?_
    show Steps p.tables e below (T1.setTop (mkF m 6 #[.val (.ref a1), .val (.ref a1)] [(.ref a2)])) _
    refine XS.ifnullNo X1.here hx rfl (hb hby d8_6) rfl ?_
    show Steps p.tables e below (T1.setTop (mkF m 9 #[.val (.ref a1), .val (.ref a1)] [])) _
    refine XS.aloadN X1.here hx rfl (hb hby d8_9) rfl rfl ?_
    show Steps p.tables e below (T1.setTop (mkF m 10 #[.val (.ref a1), .val (.ref a1)] [(.ref a1)])) _
    refine st2 _ ?_
    show Steps p.tables e below (T2.setTop (mkF m 13 #[.val (.ref a1), .val (.ref a1)] [(.ref a2)])) _
    refine XS.astoreN X2.here hx rfl (hb hby d8_13) rfl rfl (l' := #[.val (.ref a1), .val (.ref a2)]) rfl ?_
    show Steps p.tables e below (T2.setTop (mkF m 14 #[.val (.ref a1), .val (.ref a2)] [])) _
    refine XS.goto X2.here hx rfl (pc0 := 14) (pc' := 2) rfl (hb hby d8_14) (by decide) (by decide) ?_
    show Steps p.tables e below (T2.setTop (mkF m 2 #[.val (.ref a1), .val (.ref a2)] [])) _
    refine XS.aloadN X2.here hx rfl (hb hby d8_2) rfl rfl ?_
    show Steps p.tables e below (T2.setTop (mkF m 3 #[.val (.ref a1), .val (.ref a2)] [(.ref a2)])) _
    refine st3 _ ?_
    show Steps p.tables e below (T3.setTop (mkF m 6 #[.val (.ref a1), .val (.ref a2)] [(.ref a3)])) _
    refine XS.ifnullNo X3.here hx rfl (hb hby d8_6) rfl ?_
    show Steps p.tables e below (T3.setTop (mkF m 9 #[.val (.ref a1), .val (.ref a2)] [])) _
    refine XS.aloadN X3.here hx rfl (hb hby d8_9) rfl rfl ?_
    show Steps p.tables e below (T3.setTop (mkF m 10 #[.val (.ref a1), .val (.ref a2)] [(.ref a2)])) _
    refine st4 _ ?_
    show Steps p.tables e below (T4.setTop (mkF m 13 #[.val (.ref a1), .val (.ref a2)] [(.ref a3)])) _
    refine XS.astoreN X4.here hx rfl (hb hby d8_13) rfl rfl (l' := #[.val (.ref a1), .val (.ref a3)]) rfl ?_
    show Steps p.tables e below (T4.setTop (mkF m 14 #[.val (.ref a1), .val (.ref a3)] [])) _
    refine XS.goto X4.here hx rfl (pc0 := 14) (pc' := 2) rfl (hb hby d8_14) (by decide) (by decide) ?_
    show Steps p.tables e below (T4.setTop (mkF m 2 #[.val (.ref a1), .val (.ref a3)] [])) _
    refine XS.aloadN X4.here hx rfl (hb hby d8_2) rfl rfl ?_
    show Steps p.tables e below (T4.setTop (mkF m 3 #[.val (.ref a1), .val (.ref a3)] [(.ref a3)])) _
    refine st5 _ ?_
    show Steps p.tables e below (T5.setTop (mkF m 6 #[.val (.ref a1), .val (.ref a3)] [.null])) _
    refine XS.ifnullYes X5.here hx rfl (pc0 := 6) (pc' := 17) rfl (hb hby d8_6) rfl (by decide) (by decide) ?_
    show Steps p.tables e below (T5.setTop (mkF m 17 #[.val (.ref a1), .val (.ref a3)] [])) _
    refine XS.aloadN X5.here hx rfl (hb hby d8_17) rfl rfl ?_
    show Steps p.tables e below (T5.setTop (mkF m 18 #[.val (.ref a1), .val (.ref a3)] [(.ref a3)])) _
    jvm_step X5.here [X5.here.top, hx, (hb hby d8_18), X5.method', Bd.returns, Value.isRef, FieldType.isReference]
    first | (intro acts; rw [hr _ acts rfl rfl rfl]) | rw [hr _ _ rfl rfl rfl]
    exact Steps.refl _
  · show QRo Z a1 a3 h0 n0 _ T5.heap _
    rw [e5]
    exact ⟨rfl, N0, rfl⟩
set_option maxRecDepth 65536 in
set_option maxHeartbeats 40000000 in
theorem rmRo3 (l : Launch) (Z : State) (a0 : Array Value) (hw : ∀ d ∈ tables_1, d.before a0 Z = true) (ws : List Jvm.Cond) (a1 a2 a3 a4 : Addr) (h0 : Heap) (n0 : Nat) (Z0 : n0 ≤ h0.size) (F_a1 : Fld Z h0 a1 "com/example/roteiro/roteiro/lang/Scope" "parent" "Lcom/example/roteiro/roteiro/lang/Scope;" (.ref a2)) (F_a2 : Fld Z h0 a2 "com/example/roteiro/roteiro/lang/Scope" "parent" "Lcom/example/roteiro/roteiro/lang/Scope;" (.ref a3)) (F_a3 : Fld Z h0 a3 "com/example/roteiro/roteiro/lang/Scope" "parent" "Lcom/example/roteiro/roteiro/lang/Scope;" (.ref a4)) (F_a4 : Fld Z h0 a4 "com/example/roteiro/roteiro/lang/Scope" "parent" "Lcom/example/roteiro/roteiro/lang/Scope;" .null) :
    MetFree l (⟨"com/example/roteiro/roteiro/lang/Scope", "root", "()Lcom/example/roteiro/roteiro/lang/Scope;"⟩ : MethodName) (head1 (Jvm.Cond.code (⟨"com/example/roteiro/roteiro/lang/Scope", "root", "()Lcom/example/roteiro/roteiro/lang/Scope;"⟩ : MethodName) prog_111_method_6_code 2 (some (.object "com/example/roteiro/roteiro/lang/Scope")) :: ws) ({ frames := 0, cells := 0, slots := 0, locals := 0 } : Room)) (fun a U => a = #[(.ref a1)] ∧ Z.Warmed39 U.vm ∧ U.heap = h0) (fun _ _ _ _ _ => True) (fun _ U o U' => ∃ v L, o = .returned v ∧ QRo Z a1 a4 h0 n0 v U'.heap L ∧ FrameEnd U o U' L ({ frames := 0, cells := 0, slots := 0, locals := 0 } : Room).cells ({ frames := 0, cells := 0, slots := 0, locals := 0 } : Room).slots) := by
  refine MetFree.of_bodySF (plainFor_of_name pn_8) hisR ?_
  intro p e s m args below meth c s₁ Bd hml0 hP hK
  obtain ⟨rfl, hZ, hh⟩ := hP
  have hx := Bd.exec
  have hby := Bd.bytes
  have hml : c.maxLocals = 2 := hml0
  have hown : s.vm.findClass "com/example/roteiro/roteiro/lang/Scope" = some m.cls := findClass_of_methodNamed Bd.named
  have hnm := (name_of_methodNamed Bd.named Bd.method).1
  have X0 : Stand p l e ({ frames := 0, cells := 0, slots := 0, locals := 0 } : Room) s m #[(.ref a1)] below meth c s₁ [] 0 0 := Stand.of_body Bd
  have e0 : s₁.heap = h0 := by rw [← hh, Bd.state]; rfl
  have N0 := Fr.nil n0
  have pre0 : ∀ t, Steps p.tables e below (s₁.setTop (mkF m 0 #[.val (.ref a1), .unset] [])) t → Steps p.tables e below (s₁.setTop (entryFrame m #[(.ref a1)] 2)) t := fun t k => castTop (ef_8 m a1) k
  obtain ⟨T1, X1, e1, st1⟩ := getF X0 hx hZ hown (host := "") (Or.inl (hw _ (List.mem_of_getElem? (i := 39) rfl))) Via.refl e0 F_a1 (g := (mkF m 3 #[.val (.ref a1), .val (.ref a1)] [(.ref a1)])) rfl rfl (hb hby d8_3)
  obtain ⟨T2, X2, e2, st2⟩ := getF X1 hx hZ hown (host := "") (Or.inl (hw _ (List.mem_of_getElem? (i := 39) rfl))) Via.refl e1 F_a1 (g := (mkF m 10 #[.val (.ref a1), .val (.ref a1)] [(.ref a1)])) rfl rfl (hb hby d8_10)
  obtain ⟨T3, X3, e3, st3⟩ := getF X2 hx hZ hown (host := "") (Or.inl (hw _ (List.mem_of_getElem? (i := 39) rfl))) Via.refl e2 F_a2 (g := (mkF m 3 #[.val (.ref a1), .val (.ref a2)] [(.ref a2)])) rfl rfl (hb hby d8_3)
  obtain ⟨T4, X4, e4, st4⟩ := getF X3 hx hZ hown (host := "") (Or.inl (hw _ (List.mem_of_getElem? (i := 39) rfl))) Via.refl e3 F_a2 (g := (mkF m 10 #[.val (.ref a1), .val (.ref a2)] [(.ref a2)])) rfl rfl (hb hby d8_10)
  obtain ⟨T5, X5, e5, st5⟩ := getF X4 hx hZ hown (host := "") (Or.inl (hw _ (List.mem_of_getElem? (i := 39) rfl))) Via.refl e4 F_a3 (g := (mkF m 3 #[.val (.ref a1), .val (.ref a3)] [(.ref a3)])) rfl rfl (hb hby d8_3)
  obtain ⟨T6, X6, e6, st6⟩ := getF X5 hx hZ hown (host := "") (Or.inl (hw _ (List.mem_of_getElem? (i := 39) rfl))) Via.refl e5 F_a3 (g := (mkF m 10 #[.val (.ref a1), .val (.ref a3)] [(.ref a3)])) rfl rfl (hb hby d8_10)
  obtain ⟨T7, X7, e7, st7⟩ := getF X6 hx hZ hown (host := "") (Or.inl (hw _ (List.mem_of_getElem? (i := 39) rfl))) Via.refl e6 F_a4 (g := (mkF m 3 #[.val (.ref a1), .val (.ref a4)] [(.ref a4)])) rfl rfl (hb hby d8_3)
  obtain ⟨fs, hr, hrun, hended, hW, hsame⟩ := X7.leave (v := some (.ref a4)) (fun h => by rw [Bd.returns] at h; cases h)
  refine ⟨_, _, pre0 _ ?_, hrun, hended, _, _, rfl, ?_, ⟨_, rfl⟩, hW, hsame.mono (by decide) (by decide)⟩
  · show Steps p.tables e below (s₁.setTop (mkF m 0 #[.val (.ref a1), .unset] [])) _
    refine XS.aloadN X0.here hx rfl (hb hby d8_0) rfl rfl ?_
    show Steps p.tables e below (s₁.setTop (mkF m 1 #[.val (.ref a1), .unset] [(.ref a1)])) _
    refine XS.astoreN X0.here hx rfl (hb hby d8_1) rfl rfl (l' := #[.val (.ref a1), .val (.ref a1)]) rfl ?_
    show Steps p.tables e below (s₁.setTop (mkF m 2 #[.val (.ref a1), .val (.ref a1)] [])) _
    refine XS.aloadN X0.here hx rfl (hb hby d8_2) rfl rfl ?_
    show Steps p.tables e below (s₁.setTop (mkF m 3 #[.val (.ref a1), .val (.ref a1)] [(.ref a1)])) _
    refine st1 _ ?_
    show Steps p.tables e below (T1.setTop (mkF m 6 #[.val (.ref a1), .val (.ref a1)] [(.ref a2)])) _
    refine XS.ifnullNo X1.here hx rfl (hb hby d8_6) rfl ?_
    show Steps p.tables e below (T1.setTop (mkF m 9 #[.val (.ref a1), .val (.ref a1)] [])) _
    refine XS.aloadN X1.here hx rfl (hb hby d8_9) rfl rfl ?_
    show Steps p.tables e below (T1.setTop (mkF m 10 #[.val (.ref a1), .val (.ref a1)] [(.ref a1)])) _
    refine st2 _ ?_
    show Steps p.tables e below (T2.setTop (mkF m 13 #[.val (.ref a1), .val (.ref a1)] [(.ref a2)])) _
    refine XS.astoreN X2.here hx rfl (hb hby d8_13) rfl rfl (l' := #[.val (.ref a1), .val (.ref a2)]) rfl ?_
    show Steps p.tables e below (T2.setTop (mkF m 14 #[.val (.ref a1), .val (.ref a2)] [])) _
    refine XS.goto X2.here hx rfl (pc0 := 14) (pc' := 2) rfl (hb hby d8_14) (by decide) (by decide) ?_
    show Steps p.tables e below (T2.setTop (mkF m 2 #[.val (.ref a1), .val (.ref a2)] [])) _
    refine XS.aloadN X2.here hx rfl (hb hby d8_2) rfl rfl ?_
    show Steps p.tables e below (T2.setTop (mkF m 3 #[.val (.ref a1), .val (.ref a2)] [(.ref a2)])) _
    refine st3 _ ?_
    show Steps p.tables e below (T3.setTop (mkF m 6 #[.val (.ref a1), .val (.ref a2)] [(.ref a3)])) _
    refine XS.ifnullNo X3.here hx rfl (hb hby d8_6) rfl ?_
    show Steps p.tables e below (T3.setTop (mkF m 9 #[.val (.ref a1), .val (.ref a2)] [])) _
    refine XS.aloadN X3.here hx rfl (hb hby d8_9) rfl rfl ?_
    show Steps p.tables e below (T3.setTop (mkF m 10 #[.val (.ref a1), .val (.ref a2)] [(.ref a2)])) _
    refine st4 _ ?_
    show Steps p.tables e below (T4.setTop (mkF m 13 #[.val (.ref a1), .val (.ref a2)] [(.ref a3)])) _
    refine XS.astoreN X4.here hx rfl (hb hby d8_13) rfl rfl (l' := #[.val (.ref a1), .val (.ref a3)]) rfl ?_
    show Steps p.tables e below (T4.setTop (mkF m 14 #[.val (.ref a1), .val (.ref a3)] [])) _
    refine XS.goto X4.here hx rfl (pc0 := 14) (pc' := 2) rfl (hb hby d8_14) (by decide) (by decide) ?_
    show Steps p.tables e below (T4.setTop (mkF m 2 #[.val (.ref a1), .val (.ref a3)] [])) _
    refine XS.aloadN X4.here hx rfl (hb hby d8_2) rfl rfl ?_
    show Steps p.tables e below (T4.setTop (mkF m 3 #[.val (.ref a1), .val (.ref a3)] [(.ref a3)])) _
    refine st5 _ ?_
    show Steps p.tables e below (T5.setTop (mkF m 6 #[.val (.ref a1), .val (.ref a3)] [(.ref a4)])) _
    refine XS.ifnullNo X5.here hx rfl (hb hby d8_6) rfl ?_
    show Steps p.tables e below (T5.setTop (mkF m 9 #[.val (.ref a1), .val (.ref a3)] [])) _
    refine XS.aloadN X5.here hx rfl (hb hby d8_9) rfl rfl ?_
    show Steps p.tables e below (T5.setTop (mkF m 10 #[.val (.ref a1), .val (.ref a3)] [(.ref a3)])) _
    refine st6 _ ?_
    show Steps p.tables e below (T6.setTop (mkF m 13 #[.val (.ref a1), .val (.ref a3)] [(.ref a4)])) _
    refine XS.astoreN X6.here hx rfl (hb hby d8_13) rfl rfl (l' := #[.val (.ref a1), .val (.ref a4)]) rfl ?_
    show Steps p.tables e below (T6.setTop (mkF m 14 #[.val (.ref a1), .val (.ref a4)] [])) _
    refine XS.goto X6.here hx rfl (pc0 := 14) (pc' := 2) rfl (hb hby d8_14) (by decide) (by decide) ?_
    show Steps p.tables e below (T6.setTop (mkF m 2 #[.val (.ref a1), .val (.ref a4)] [])) _
    refine XS.aloadN X6.here hx rfl (hb hby d8_2) rfl rfl ?_
    show Steps p.tables e below (T6.setTop (mkF m 3 #[.val (.ref a1), .val (.ref a4)] [(.ref a4)])) _
    refine st7 _ ?_
    show Steps p.tables e below (T7.setTop (mkF m 6 #[.val (.ref a1), .val (.ref a4)] [.null])) _
    refine XS.ifnullYes X7.here hx rfl (pc0 := 6) (pc' := 17) rfl (hb hby d8_6) rfl (by decide) (by decide) ?_
    show Steps p.tables e below (T7.setTop (mkF m 17 #[.val (.ref a1), .val (.ref a4)] [])) _
    refine XS.aloadN X7.here hx rfl (hb hby d8_17) rfl rfl ?_
    show Steps p.tables e below (T7.setTop (mkF m 18 #[.val (.ref a1), .val (.ref a4)] [(.ref a4)])) _
    jvm_step X7.here [X7.here.top, hx, (hb hby d8_18), X7.method', Bd.returns, Value.isRef, FieldType.isReference]
    first | (intro acts; rw [hr _ acts rfl rfl rfl]) | rw [hr _ _ rfl rfl rfl]
    exact Steps.refl _
  · show QRo Z a1 a4 h0 n0 _ T7.heap _
    rw [e7]
    exact ⟨rfl, N0, rfl⟩
def Q0 (Z : State) (p1 p2 : Int32) (h0 : Heap) (n0 : Nat) (v : Option Value) (h : Heap) (L : List Loc) : Prop := v = some (.int (1 : Int32)) ∧ Fr n0 L
theorem pd_0_0 : parseMethodDescriptor "()V" = some ⟨[], none⟩ := by decide +kernel
theorem pd_0_1 : parseMethodDescriptor "(Lcom/example/roteiro/roteiro/lang/Libraries;)V" = some ⟨[(.object "com/example/roteiro/roteiro/lang/Libraries")], none⟩ := by decide +kernel
theorem pd_0_2 : parseMethodDescriptor "()Lcom/example/roteiro/roteiro/lang/Scope;" = some ⟨[], some (.object "com/example/roteiro/roteiro/lang/Scope")⟩ := by decide +kernel
theorem pn_0 : plainName "com/example/roteiro/roteiro/lang/ScopeRootPinLaw" = true := by first | (simp [plainName, overriddenIn]; done) | decide +kernel
theorem ef_0 (m : MethodId) (x0 : Int32) (x1 : Int32) : entryFrame m #[(.int x0), (.int x1)] maxLocals = mkF m 0 #[.val (.int x0), .val (.int x1), .unset, .unset, .unset, .unset, .unset, .unset, .unset, .unset, .unset, .unset, .unset, .unset, .unset] [] := by first | (simp [entryFrame, mkF, argsToLocals, Value.category, maxLocals]; done) | rfl
set_option maxRecDepth 65536 in
set_option maxHeartbeats 40000000 in
theorem rm0_0t (l : Launch) (Z : State) (a0 : Array Value) (hw : ∀ d ∈ tables_1, d.before a0 Z = true) (ws : List Jvm.Cond) (p1 p2 : Int32) (h0 : Heap) (n0 : Nat) (Z0 : n0 ≤ h0.size) (hd : (p1 &&& (3 : Int32)) = (0 : Int32)) (hc125 : (p2 &&& (1 : Int32)) = (0 : Int32)) :
    MetFree l x (head1 (Jvm.Cond.code x code maxLocals ret :: ws) room_1) (fun a U => a = #[(.int p1), (.int p2)] ∧ Z.Warmed39 U.vm ∧ U.heap = h0) (fun _ _ _ _ _ => True) (fun _ U o U' => ∃ v L, o = .returned v ∧ Q0 Z p1 p2 h0 n0 v U'.heap L ∧ FrameEnd U o U' L room_1.cells room_1.slots) := by
  refine MetFree.of_bodySF (plainFor_of_name pn_0) hisR ?_
  intro p e s m args below meth c s₁ Bd hml0 hP hK
  obtain ⟨rfl, hZ, hh⟩ := hP
  have hx := Bd.exec
  have hby := Bd.bytes
  have hml : c.maxLocals = 15 := hml0
  have hown : s.vm.findClass "com/example/roteiro/roteiro/lang/ScopeRootPinLaw" = some m.cls := findClass_of_methodNamed Bd.named
  have hnm := (name_of_methodNamed Bd.named Bd.method).1
  have X0 : Stand p l e room_1 s m #[(.int p1), (.int p2)] below meth c s₁ [] 0 0 := Stand.of_body Bd
  have e0 : s₁.heap = h0 := by rw [← hh, Bd.state]; rfl
  have N0 := Fr.nil n0
  have pre0 : ∀ t, Steps p.tables e below (s₁.setTop (mkF m 0 #[.val (.int p1), .val (.int p2), .unset, .unset, .unset, .unset, .unset, .unset, .unset, .unset, .unset, .unset, .unset, .unset, .unset] [])) t → Steps p.tables e below (s₁.setTop (entryFrame m #[(.int p1), (.int p2)] maxLocals)) t := fun t k => castTop (ef_0 m p1 p2) k
  obtain ⟨T1, h1, X1, e1, E1, A1, D1, -, st1⟩ := newO X0 hx hZ hown (hw _ (List.mem_of_getElem? (i := 0) rfl)) (hw _ (List.mem_of_getElem? (i := 1) rfl)) (hw _ (List.mem_of_getElem? (i := 2) rfl)) e0 (g := (mkF m 0 #[.val (.int p1), .val (.int p2), .unset, .unset, .unset, .unset, .unset, .unset, .unset, .unset, .unset, .unset, .unset, .unset, .unset] [])) rfl (hb hby at_0) (by decide) (by decide)
  obtain ⟨b1, g1⟩ : ∃ z, z = h0.size := ⟨_, rfl⟩
  rw [← g1] at A1 D1 st1
  have gb1 : n0 ≤ b1 := Nat.le_trans Z0 (Nat.le_of_eq g1.symm)
  have Z1 : n0 ≤ h1.size := Nat.le_trans Z0 E1.1
  have F_b1_elements_1 : Fld Z h1 b1 "com/example/roteiro/roteiro/lang/Libraries" "elements" "Ljava/util/Map;" .null := D1 (Or.inr (hw _ (List.mem_of_getElem? (i := 26) rfl))) (ty := (.object "java/util/Map")) (by decide)
  have F_b1_bareNames_1 : Fld Z h1 b1 "com/example/roteiro/roteiro/lang/Libraries" "bareNames" "Ljava/util/Map;" .null := D1 (Or.inr (hw _ (List.mem_of_getElem? (i := 28) rfl))) (ty := (.object "java/util/Map")) (by decide)
  obtain ⟨_, _, ⟨T2, L2, k2, n2⟩, -, X2, ⟨Lc2, hQ2, l2, y2, z2⟩, st2⟩ := X1.specialBack hx (y := (⟨"com/example/roteiro/roteiro/lang/Libraries", "<init>", "()V"⟩ : MethodName)) rfl hown (mvT hZ (hw _ (List.mem_of_getElem? (i := 3) rfl))) (mvT hZ (hw _ (List.mem_of_getElem? (i := 4) rfl))) (mvT hZ (hw _ (List.mem_of_getElem? (i := 5) rfl))) (by decide) (backOf (W := 1) (rmLb l Z a0 hw [] b1 _ _ h1 n0 Z1 A1 F_b1_elements_1 F_b1_bareNames_1 gb1) hZ (hw _ (List.mem_of_getElem? (i := 5) rfl)) (hw _ (List.mem_of_getElem? (i := 2) rfl)) (by decide) (by decide)) (g := (mkF m 4 #[.val (.int p1), .val (.int p2), .unset, .unset, .unset, .unset, .unset, .unset, .unset, .unset, .unset, .unset, .unset, .unset, .unset] [(.ref b1), (.ref b1)])) rfl (by rw [hml]; rfl) (Steps.refl _) (a := b1) (argsL := []) (rest := [(.ref b1)]) (lenOf pd_0_0 rfl) rfl (by show 2 * 0 + _ ≤ _; exact Nat.le_of_eq rfl) (hb hby at_4) (fun _ _ => ⟨rfl, e1, (by decide : 1 + 2 ≤ _), (by decide : 2 + 16 ≤ _)⟩)
  dsimp only [Pt.U, Pt.locs, Pt.cells, Pt.slots] at X2 l2 y2 z2 st2 hQ2
  subst l2 y2 z2
  obtain ⟨rfl, N2q, K2⟩ := hQ2
  have N2 := Fr.app N0 N2q
  have E_b1_2 := A1.keep K2
  have Z2 : n0 ≤ T2.heap.size := Nat.le_trans Z1 K2.1
  obtain ⟨T3, h3, X3, e3, E3, A3, D3, -, st3⟩ := newO X2 hx hZ hown (hw _ (List.mem_of_getElem? (i := 29) rfl)) (hw _ (List.mem_of_getElem? (i := 30) rfl)) (hw _ (List.mem_of_getElem? (i := 31) rfl)) rfl (g := (mkF m 8 #[.val (.int p1), .val (.int p2), .val (.ref b1), .unset, .unset, .unset, .unset, .unset, .unset, .unset, .unset, .unset, .unset, .unset, .unset] [])) rfl (hb hby at_8) (by decide) (by decide)
  obtain ⟨b3, g3⟩ : ∃ z, z = T2.heap.size := ⟨_, rfl⟩
  rw [← g3] at A3 D3 st3
  have gb3 : n0 ≤ b3 := Nat.le_trans Z2 (Nat.le_of_eq g3.symm)
  have Z3 : n0 ≤ h3.size := Nat.le_trans Z2 E3.1
  have F_b3_parent_3 : Fld Z h3 b3 "com/example/roteiro/roteiro/lang/Scope" "parent" "Lcom/example/roteiro/roteiro/lang/Scope;" .null := D3 (Or.inr (hw _ (List.mem_of_getElem? (i := 40) rfl))) (ty := (.object "com/example/roteiro/roteiro/lang/Scope")) (by decide)
  have F_b3_libraries_3 : Fld Z h3 b3 "com/example/roteiro/roteiro/lang/Scope" "libraries" "Lcom/example/roteiro/roteiro/lang/Libraries;" .null := D3 (Or.inr (hw _ (List.mem_of_getElem? (i := 42) rfl))) (ty := (.object "com/example/roteiro/roteiro/lang/Libraries")) (by decide)
  obtain ⟨_, _, ⟨T4, L4, k4, n4⟩, -, X4, ⟨Lc4, hQ4, l4, y4, z4⟩, st4⟩ := X3.specialBack hx (y := (⟨"com/example/roteiro/roteiro/lang/Scope", "<init>", "(Lcom/example/roteiro/roteiro/lang/Libraries;)V"⟩ : MethodName)) rfl hown (mvT hZ (hw _ (List.mem_of_getElem? (i := 32) rfl))) (mvT hZ (hw _ (List.mem_of_getElem? (i := 33) rfl))) (mvT hZ (hw _ (List.mem_of_getElem? (i := 34) rfl))) (by decide) (backOf (W := 1) (rmI1 l Z a0 hw [] b3 b1 _ _ h3 n0 Z3 A3 F_b3_parent_3 F_b3_libraries_3 gb3) hZ (hw _ (List.mem_of_getElem? (i := 34) rfl)) (hw _ (List.mem_of_getElem? (i := 31) rfl)) (by decide) (by decide)) (g := (mkF m 13 #[.val (.int p1), .val (.int p2), .val (.ref b1), .unset, .unset, .unset, .unset, .unset, .unset, .unset, .unset, .unset, .unset, .unset, .unset] [(.ref b1), (.ref b3), (.ref b3)])) rfl (by rw [hml]; rfl) (Steps.refl _) (a := b3) (argsL := [(.ref b1)]) (rest := [(.ref b3)]) (lenOf pd_0_1 rfl) rfl (by show 2 * 0 + _ ≤ _; exact Nat.le_of_eq rfl) (hb hby at_13) (fun _ _ => ⟨rfl, e3, (by decide : 4 + 0 ≤ _), (by decide : 21 + 0 ≤ _)⟩)
  dsimp only [Pt.U, Pt.locs, Pt.cells, Pt.slots] at X4 l4 y4 z4 st4 hQ4
  subst l4 y4 z4
  obtain ⟨rfl, N4q, K4, Fp4, Fl4⟩ := hQ4
  have N4 := Fr.app N2 N4q
  have E_b3_4 := A3.keep K4
  have Z4 : n0 ≤ T4.heap.size := Nat.le_trans Z3 K4.1
  obtain ⟨cq5, kq5, q5a, q5b, q5c⟩ := isOf hZ rfl E_b3_4
  obtain ⟨_, _, ⟨T5, L5, k5, n5⟩, -, X5, ⟨Lc5, hQ5, l5, y5, z5⟩, st5⟩ := X4.virtualBack hx (y := (⟨"com/example/roteiro/roteiro/lang/Scope", "child", "()Lcom/example/roteiro/roteiro/lang/Scope;"⟩ : MethodName)) (z := (⟨"com/example/roteiro/roteiro/lang/Scope", "child", "()Lcom/example/roteiro/roteiro/lang/Scope;"⟩ : MethodName)) hown (mvT hZ (hw _ (List.mem_of_getElem? (i := 43) rfl))) (mvT hZ (hw _ (List.mem_of_getElem? (i := 44) rfl))) (notFace_of_selects (args := #[]) (mvT hZ (hw _ (List.mem_of_getElem? (i := 46) rfl)))) (mvT hZ (hw _ (List.mem_of_getElem? (i := 46) rfl))) (mvT hZ (hw _ (List.mem_of_getElem? (i := 45) rfl))) (by decide) (backOf (W := 0) (rmCh l Z a0 hw [] b3 b1 T4.heap n0 Z4 Fl4) hZ (hw _ (List.mem_of_getElem? (i := 47) rfl)) (hw _ (List.mem_of_getElem? (i := 31) rfl)) (by decide) (by decide)) q5a q5c (g := (mkF m 18 #[.val (.int p1), .val (.int p2), .val (.ref b1), .val (.ref b3), .unset, .unset, .unset, .unset, .unset, .unset, .unset, .unset, .unset, .unset, .unset] [(.ref b3)])) rfl (by rw [hml]; rfl) (Steps.refl _) (argsL := []) (rest := []) (lenOf pd_0_2 rfl) rfl (by show 2 * 0 + _ ≤ _; exact Nat.le_of_eq rfl) (hb hby at_18) (fun _ _ => ⟨rfl, rfl, (by decide : 4 + 1 ≤ _), (by decide : 21 + 3 ≤ _)⟩)
  dsimp only [Pt.U, Pt.locs, Pt.cells, Pt.slots] at X5 l5 y5 z5 st5 hQ5
  subst l5 y5 z5
  obtain ⟨rfl, N5q, K5, Ev5, Fp5, Fl5⟩ := hQ5
  have N5 := Fr.app N4 N5q
  have E_b3_5 := E_b3_4.keep K5
  have F_b3_parent_5 := Fp4.keep K5 nin0
  have F_b3_libraries_5 := Fl4.keep K5 nin0
  have Z5 : n0 ≤ T5.heap.size := Nat.le_trans Z4 K5.1
  obtain ⟨c5, gc5⟩ : ∃ z, z = T4.heap.size := ⟨_, rfl⟩
  rw [← gc5] at st5 Ev5 Fp5 Fl5
  obtain ⟨cq6, kq6, q6a, q6b, q6c⟩ := isOf hZ rfl Ev5
  obtain ⟨_, _, ⟨T6, L6, k6, n6⟩, -, X6, ⟨Lc6, hQ6, l6, y6, z6⟩, st6⟩ := X5.virtualBack hx (y := (⟨"com/example/roteiro/roteiro/lang/Scope", "child", "()Lcom/example/roteiro/roteiro/lang/Scope;"⟩ : MethodName)) (z := (⟨"com/example/roteiro/roteiro/lang/Scope", "child", "()Lcom/example/roteiro/roteiro/lang/Scope;"⟩ : MethodName)) hown (mvT hZ (hw _ (List.mem_of_getElem? (i := 43) rfl))) (mvT hZ (hw _ (List.mem_of_getElem? (i := 44) rfl))) (notFace_of_selects (args := #[]) (mvT hZ (hw _ (List.mem_of_getElem? (i := 46) rfl)))) (mvT hZ (hw _ (List.mem_of_getElem? (i := 46) rfl))) (mvT hZ (hw _ (List.mem_of_getElem? (i := 45) rfl))) (by decide) (backOf (W := 0) (rmCh l Z a0 hw [] c5 b1 T5.heap n0 Z5 Fl5) hZ (hw _ (List.mem_of_getElem? (i := 47) rfl)) (hw _ (List.mem_of_getElem? (i := 31) rfl)) (by decide) (by decide)) q6a q6c (g := (mkF m 25 #[.val (.int p1), .val (.int p2), .val (.ref b1), .val (.ref b3), .val (.ref c5), .unset, .unset, .unset, .unset, .unset, .unset, .unset, .unset, .unset, .unset] [(.ref c5)])) rfl (by rw [hml]; rfl) (Steps.refl _) (argsL := []) (rest := []) (lenOf pd_0_2 rfl) rfl (by show 2 * 0 + _ ≤ _; exact Nat.le_of_eq rfl) (hb hby at_25) (fun _ _ => ⟨rfl, rfl, (by decide : 5 + 1 ≤ _), (by decide : 24 + 3 ≤ _)⟩)
  dsimp only [Pt.U, Pt.locs, Pt.cells, Pt.slots] at X6 l6 y6 z6 st6 hQ6
  subst l6 y6 z6
  obtain ⟨rfl, N6q, K6, Ev6, Fp6, Fl6⟩ := hQ6
  have N6 := Fr.app N5 N6q
  have E_b3_6 := E_b3_5.keep K6
  have F_b3_parent_6 := F_b3_parent_5.keep K6 nin0
  have F_b3_libraries_6 := F_b3_libraries_5.keep K6 nin0
  have E_c5_6 := Ev5.keep K6
  have F_c5_parent_6 := Fp5.keep K6 nin0
  have F_c5_libraries_6 := Fl5.keep K6 nin0
  have Z6 : n0 ≤ T6.heap.size := Nat.le_trans Z5 K6.1
  obtain ⟨c6, gc6⟩ : ∃ z, z = T5.heap.size := ⟨_, rfl⟩
  rw [← gc6] at st6 Ev6 Fp6 Fl6
  obtain ⟨cq7, kq7, q7a, q7b, q7c⟩ := isOf hZ rfl Ev6
  obtain ⟨_, _, ⟨T7, L7, k7, n7⟩, -, X7, ⟨Lc7, hQ7, l7, y7, z7⟩, st7⟩ := X6.virtualBack hx (y := (⟨"com/example/roteiro/roteiro/lang/Scope", "child", "()Lcom/example/roteiro/roteiro/lang/Scope;"⟩ : MethodName)) (z := (⟨"com/example/roteiro/roteiro/lang/Scope", "child", "()Lcom/example/roteiro/roteiro/lang/Scope;"⟩ : MethodName)) hown (mvT hZ (hw _ (List.mem_of_getElem? (i := 43) rfl))) (mvT hZ (hw _ (List.mem_of_getElem? (i := 44) rfl))) (notFace_of_selects (args := #[]) (mvT hZ (hw _ (List.mem_of_getElem? (i := 46) rfl)))) (mvT hZ (hw _ (List.mem_of_getElem? (i := 46) rfl))) (mvT hZ (hw _ (List.mem_of_getElem? (i := 45) rfl))) (by decide) (backOf (W := 0) (rmCh l Z a0 hw [] c6 b1 T6.heap n0 Z6 Fl6) hZ (hw _ (List.mem_of_getElem? (i := 47) rfl)) (hw _ (List.mem_of_getElem? (i := 31) rfl)) (by decide) (by decide)) q7a q7c (g := (mkF m 32 #[.val (.int p1), .val (.int p2), .val (.ref b1), .val (.ref b3), .val (.ref c5), .val (.ref c6), .unset, .unset, .unset, .unset, .unset, .unset, .unset, .unset, .unset] [(.ref c6)])) rfl (by rw [hml]; rfl) (Steps.refl _) (argsL := []) (rest := []) (lenOf pd_0_2 rfl) rfl (by show 2 * 0 + _ ≤ _; exact Nat.le_of_eq rfl) (hb hby at_32) (fun _ _ => ⟨rfl, rfl, (by decide : 6 + 1 ≤ _), (by decide : 27 + 3 ≤ _)⟩)
  dsimp only [Pt.U, Pt.locs, Pt.cells, Pt.slots] at X7 l7 y7 z7 st7 hQ7
  subst l7 y7 z7
  obtain ⟨rfl, N7q, K7, Ev7, Fp7, Fl7⟩ := hQ7
  have N7 := Fr.app N6 N7q
  have E_b3_7 := E_b3_6.keep K7
  have F_b3_parent_7 := F_b3_parent_6.keep K7 nin0
  have F_b3_libraries_7 := F_b3_libraries_6.keep K7 nin0
  have E_c5_7 := E_c5_6.keep K7
  have F_c5_parent_7 := F_c5_parent_6.keep K7 nin0
  have F_c5_libraries_7 := F_c5_libraries_6.keep K7 nin0
  have E_c6_7 := Ev6.keep K7
  have F_c6_parent_7 := Fp6.keep K7 nin0
  have F_c6_libraries_7 := Fl6.keep K7 nin0
  have Z7 : n0 ≤ T7.heap.size := Nat.le_trans Z6 K7.1
  obtain ⟨c7, gc7⟩ : ∃ z, z = T6.heap.size := ⟨_, rfl⟩
  rw [← gc7] at st7 Ev7 Fp7 Fl7
  obtain ⟨cq8, kq8, q8a, q8b, q8c⟩ := isOf hZ rfl E_b3_7
  obtain ⟨_, _, ⟨T8, L8, k8, n8⟩, -, X8, ⟨Lc8, hQ8, l8, y8, z8⟩, st8⟩ := X7.virtualBack hx (y := (⟨"com/example/roteiro/roteiro/lang/Scope", "root", "()Lcom/example/roteiro/roteiro/lang/Scope;"⟩ : MethodName)) (z := (⟨"com/example/roteiro/roteiro/lang/Scope", "root", "()Lcom/example/roteiro/roteiro/lang/Scope;"⟩ : MethodName)) hown (mvT hZ (hw _ (List.mem_of_getElem? (i := 49) rfl))) (mvT hZ (hw _ (List.mem_of_getElem? (i := 50) rfl))) (notFace_of_selects (args := #[]) (mvT hZ (hw _ (List.mem_of_getElem? (i := 52) rfl)))) (mvT hZ (hw _ (List.mem_of_getElem? (i := 52) rfl))) (mvT hZ (hw _ (List.mem_of_getElem? (i := 51) rfl))) (by decide) (backOf (W := 0) (rmRo0 l Z a0 hw [] b3 T7.heap n0 Z7 F_b3_parent_7) hZ (hw _ (List.mem_of_getElem? (i := 53) rfl)) (hw _ (List.mem_of_getElem? (i := 31) rfl)) (by decide) (by decide)) q8a q8c (g := (mkF m 85 #[.val (.int p1), .val (.int p2), .val (.ref b1), .val (.ref b3), .val (.ref c5), .val (.ref c6), .val (.ref c7), .val (.int (0 : Int32)), .val (.ref b3), .unset, .unset, .unset, .unset, .unset, .unset] [(.ref b3)])) rfl (by rw [hml]; rfl) (Steps.refl _) (argsL := []) (rest := []) (lenOf pd_0_2 rfl) rfl (by show 2 * 0 + _ ≤ _; exact Nat.le_of_eq rfl) (hb hby at_85) (fun _ _ => ⟨rfl, rfl, (by decide : 7 + 0 ≤ _), (by decide : 30 + 0 ≤ _)⟩)
  dsimp only [Pt.U, Pt.locs, Pt.cells, Pt.slots] at X8 l8 y8 z8 st8 hQ8
  subst l8 y8 z8
  obtain ⟨rfl, N8q, eh8⟩ := hQ8
  have N8 := Fr.app N7 N8q
  obtain ⟨cq9, kq9, q9a, q9b, q9c⟩ := isOf hZ eh8 E_b3_7
  obtain ⟨_, _, ⟨T9, L9, k9, n9⟩, -, X9, ⟨Lc9, hQ9, l9, y9, z9⟩, st9⟩ := X8.virtualBack hx (y := (⟨"com/example/roteiro/roteiro/lang/Scope", "root", "()Lcom/example/roteiro/roteiro/lang/Scope;"⟩ : MethodName)) (z := (⟨"com/example/roteiro/roteiro/lang/Scope", "root", "()Lcom/example/roteiro/roteiro/lang/Scope;"⟩ : MethodName)) hown (mvT hZ (hw _ (List.mem_of_getElem? (i := 49) rfl))) (mvT hZ (hw _ (List.mem_of_getElem? (i := 50) rfl))) (notFace_of_selects (args := #[]) (mvT hZ (hw _ (List.mem_of_getElem? (i := 52) rfl)))) (mvT hZ (hw _ (List.mem_of_getElem? (i := 52) rfl))) (mvT hZ (hw _ (List.mem_of_getElem? (i := 51) rfl))) (by decide) (backOf (W := 0) (rmRo0 l Z a0 hw [] b3 T7.heap n0 Z7 F_b3_parent_7) hZ (hw _ (List.mem_of_getElem? (i := 53) rfl)) (hw _ (List.mem_of_getElem? (i := 31) rfl)) (by decide) (by decide)) q9a q9c (g := (mkF m 98 #[.val (.int p1), .val (.int p2), .val (.ref b1), .val (.ref b3), .val (.ref c5), .val (.ref c6), .val (.ref c7), .val (.int (0 : Int32)), .val (.ref b3), .val (.ref b3), .unset, .unset, .unset, .unset, .unset] [(.ref b3)])) rfl (by rw [hml]; rfl) (Steps.refl _) (argsL := []) (rest := []) (lenOf pd_0_2 rfl) rfl (by show 2 * 0 + _ ≤ _; exact Nat.le_of_eq rfl) (hb hby at_98) (fun _ _ => ⟨rfl, eh8, (by decide : 7 + 0 ≤ _), (by decide : 30 + 0 ≤ _)⟩)
  dsimp only [Pt.U, Pt.locs, Pt.cells, Pt.slots] at X9 l9 y9 z9 st9 hQ9
  subst l9 y9 z9
  obtain ⟨rfl, N9q, eh9⟩ := hQ9
  have N9 := Fr.app N8 N9q
  obtain ⟨T10, h10, X10, e10, E10, A10, D10, -, st10⟩ := newO X9 hx hZ hown (hw _ (List.mem_of_getElem? (i := 29) rfl)) (hw _ (List.mem_of_getElem? (i := 30) rfl)) (hw _ (List.mem_of_getElem? (i := 31) rfl)) eh9 (g := (mkF m 112 #[.val (.int p1), .val (.int p2), .val (.ref b1), .val (.ref b3), .val (.ref c5), .val (.ref c6), .val (.ref c7), .val (.int (0 : Int32)), .val (.ref b3), .val (.ref b3), .val (.int (1 : Int32)), .unset, .unset, .unset, .unset] [])) rfl (hb hby at_112) (by decide) (by decide)
  obtain ⟨b10, g10⟩ : ∃ z, z = T7.heap.size := ⟨_, rfl⟩
  rw [← g10] at A10 D10 st10
  have gb10 : n0 ≤ b10 := Nat.le_trans Z7 (Nat.le_of_eq g10.symm)
  have ne_b3_b10 : b3 ≠ b10 := (Nat.ne_of_lt (Nat.lt_of_lt_of_le E_b3_7.lt (Nat.le_of_eq g10.symm)))
  have ne_c5_b10 : c5 ≠ b10 := (Nat.ne_of_lt (Nat.lt_of_lt_of_le E_c5_7.lt (Nat.le_of_eq g10.symm)))
  have ne_c6_b10 : c6 ≠ b10 := (Nat.ne_of_lt (Nat.lt_of_lt_of_le E_c6_7.lt (Nat.le_of_eq g10.symm)))
  have ne_c7_b10 : c7 ≠ b10 := (Nat.ne_of_lt (Nat.lt_of_lt_of_le Ev7.lt (Nat.le_of_eq g10.symm)))
  have E_b3_10 := E_b3_7.ext E10
  have F_b3_parent_10 := F_b3_parent_7.ext E10
  have F_b3_libraries_10 := F_b3_libraries_7.ext E10
  have E_c5_10 := E_c5_7.ext E10
  have F_c5_parent_10 := F_c5_parent_7.ext E10
  have F_c5_libraries_10 := F_c5_libraries_7.ext E10
  have E_c6_10 := E_c6_7.ext E10
  have F_c6_parent_10 := F_c6_parent_7.ext E10
  have F_c6_libraries_10 := F_c6_libraries_7.ext E10
  have E_c7_10 := Ev7.ext E10
  have F_c7_parent_10 := Fp7.ext E10
  have F_c7_libraries_10 := Fl7.ext E10
  have Z10 : n0 ≤ h10.size := Nat.le_trans Z7 E10.1
  have F_b10_parent_10 : Fld Z h10 b10 "com/example/roteiro/roteiro/lang/Scope" "parent" "Lcom/example/roteiro/roteiro/lang/Scope;" .null := D10 (Or.inr (hw _ (List.mem_of_getElem? (i := 40) rfl))) (ty := (.object "com/example/roteiro/roteiro/lang/Scope")) (by decide)
  have F_b10_libraries_10 : Fld Z h10 b10 "com/example/roteiro/roteiro/lang/Scope" "libraries" "Lcom/example/roteiro/roteiro/lang/Libraries;" .null := D10 (Or.inr (hw _ (List.mem_of_getElem? (i := 42) rfl))) (ty := (.object "com/example/roteiro/roteiro/lang/Libraries")) (by decide)
  obtain ⟨_, _, ⟨T11, L11, k11, n11⟩, -, X11, ⟨Lc11, hQ11, l11, y11, z11⟩, st11⟩ := X10.specialBack hx (y := (⟨"com/example/roteiro/roteiro/lang/Scope", "<init>", "(Lcom/example/roteiro/roteiro/lang/Libraries;)V"⟩ : MethodName)) rfl hown (mvT hZ (hw _ (List.mem_of_getElem? (i := 32) rfl))) (mvT hZ (hw _ (List.mem_of_getElem? (i := 33) rfl))) (mvT hZ (hw _ (List.mem_of_getElem? (i := 34) rfl))) (by decide) (backOf (W := 1) (rmI1 l Z a0 hw [] b10 b1 _ _ h10 n0 Z10 A10 F_b10_parent_10 F_b10_libraries_10 gb10) hZ (hw _ (List.mem_of_getElem? (i := 34) rfl)) (hw _ (List.mem_of_getElem? (i := 31) rfl)) (by decide) (by decide)) (g := (mkF m 117 #[.val (.int p1), .val (.int p2), .val (.ref b1), .val (.ref b3), .val (.ref c5), .val (.ref c6), .val (.ref c7), .val (.int (0 : Int32)), .val (.ref b3), .val (.ref b3), .val (.int (1 : Int32)), .unset, .unset, .unset, .unset] [(.ref b1), (.ref b10), (.ref b10)])) rfl (by rw [hml]; rfl) (Steps.refl _) (a := b10) (argsL := [(.ref b1)]) (rest := [(.ref b10)]) (lenOf pd_0_1 rfl) rfl (by show 2 * 0 + _ ≤ _; exact Nat.le_of_eq rfl) (hb hby at_117) (fun _ _ => ⟨rfl, e10, (by decide : 8 + 0 ≤ _), (by decide : 33 + 0 ≤ _)⟩)
  dsimp only [Pt.U, Pt.locs, Pt.cells, Pt.slots] at X11 l11 y11 z11 st11 hQ11
  subst l11 y11 z11
  obtain ⟨rfl, N11q, K11, Fp11, Fl11⟩ := hQ11
  have N11 := Fr.app N9 N11q
  have E_b3_11 := E_b3_10.keep K11
  have F_b3_parent_11 := F_b3_parent_10.keep K11 (ninS ne_b3_b10 nin0)
  have F_b3_libraries_11 := F_b3_libraries_10.keep K11 (ninS ne_b3_b10 nin0)
  have E_c5_11 := E_c5_10.keep K11
  have F_c5_parent_11 := F_c5_parent_10.keep K11 (ninS ne_c5_b10 nin0)
  have F_c5_libraries_11 := F_c5_libraries_10.keep K11 (ninS ne_c5_b10 nin0)
  have E_c6_11 := E_c6_10.keep K11
  have F_c6_parent_11 := F_c6_parent_10.keep K11 (ninS ne_c6_b10 nin0)
  have F_c6_libraries_11 := F_c6_libraries_10.keep K11 (ninS ne_c6_b10 nin0)
  have E_c7_11 := E_c7_10.keep K11
  have F_c7_parent_11 := F_c7_parent_10.keep K11 (ninS ne_c7_b10 nin0)
  have F_c7_libraries_11 := F_c7_libraries_10.keep K11 (ninS ne_c7_b10 nin0)
  have E_b10_11 := A10.keep K11
  have Z11 : n0 ≤ T11.heap.size := Nat.le_trans Z10 K11.1
  obtain ⟨cq12, kq12, q12a, q12b, q12c⟩ := isOf hZ rfl E_b10_11
  obtain ⟨_, _, ⟨T12, L12, k12, n12⟩, -, X12, ⟨Lc12, hQ12, l12, y12, z12⟩, st12⟩ := X11.virtualBack hx (y := (⟨"com/example/roteiro/roteiro/lang/Scope", "root", "()Lcom/example/roteiro/roteiro/lang/Scope;"⟩ : MethodName)) (z := (⟨"com/example/roteiro/roteiro/lang/Scope", "root", "()Lcom/example/roteiro/roteiro/lang/Scope;"⟩ : MethodName)) hown (mvT hZ (hw _ (List.mem_of_getElem? (i := 49) rfl))) (mvT hZ (hw _ (List.mem_of_getElem? (i := 50) rfl))) (notFace_of_selects (args := #[]) (mvT hZ (hw _ (List.mem_of_getElem? (i := 52) rfl)))) (mvT hZ (hw _ (List.mem_of_getElem? (i := 52) rfl))) (mvT hZ (hw _ (List.mem_of_getElem? (i := 51) rfl))) (by decide) (backOf (W := 0) (rmRo0 l Z a0 hw [] b10 T11.heap n0 Z11 Fp11) hZ (hw _ (List.mem_of_getElem? (i := 53) rfl)) (hw _ (List.mem_of_getElem? (i := 31) rfl)) (by decide) (by decide)) q12a q12c (g := (mkF m 142 #[.val (.int p1), .val (.int p2), .val (.ref b1), .val (.ref b3), .val (.ref c5), .val (.ref c6), .val (.ref c7), .val (.int (0 : Int32)), .val (.ref b3), .val (.ref b3), .val (.int (1 : Int32)), .val (.ref b10), .val (.ref b10), .unset, .unset] [(.ref b10)])) rfl (by rw [hml]; rfl) (Steps.refl _) (argsL := []) (rest := []) (lenOf pd_0_2 rfl) rfl (by show 2 * 0 + _ ≤ _; exact Nat.le_of_eq rfl) (hb hby at_142) (fun _ _ => ⟨rfl, rfl, (by decide : 8 + 0 ≤ _), (by decide : 33 + 0 ≤ _)⟩)
  dsimp only [Pt.U, Pt.locs, Pt.cells, Pt.slots] at X12 l12 y12 z12 st12 hQ12
  subst l12 y12 z12
  obtain ⟨rfl, N12q, eh12⟩ := hQ12
  have N12 := Fr.app N11 N12q
  obtain ⟨fs, hr, hrun, hended, hW, hsame⟩ := X12.leave (v := some (.int (1 : Int32))) (fun h => by rw [Bd.returns] at h; cases h)
  refine ⟨_, _, pre0 _ ?_, hrun, hended, _, _, rfl, ?_, ⟨_, rfl⟩, hW, hsame.mono (by decide) (by decide)⟩
  · show Steps p.tables e below (s₁.setTop (mkF m 0 #[.val (.int p1), .val (.int p2), .unset, .unset, .unset, .unset, .unset, .unset, .unset, .unset, .unset, .unset, .unset, .unset, .unset] [])) _
    refine st1 _ ?_
    show Steps p.tables e below (T1.setTop (mkF m 3 #[.val (.int p1), .val (.int p2), .unset, .unset, .unset, .unset, .unset, .unset, .unset, .unset, .unset, .unset, .unset, .unset, .unset] [(.ref b1)])) _
    refine XS.dup X1.here hx rfl (hb hby at_3) rfl rfl ?_
    show Steps p.tables e below (T1.setTop (mkF m 4 #[.val (.int p1), .val (.int p2), .unset, .unset, .unset, .unset, .unset, .unset, .unset, .unset, .unset, .unset, .unset, .unset, .unset] [(.ref b1), (.ref b1)])) _
    refine st2.trans ?_
    show Steps p.tables e below (T2.setTop (mkF m 7 #[.val (.int p1), .val (.int p2), .unset, .unset, .unset, .unset, .unset, .unset, .unset, .unset, .unset, .unset, .unset, .unset, .unset] [(.ref b1)])) _
    refine XS.astoreN X2.here hx rfl (hb hby at_7) rfl rfl (l' := #[.val (.int p1), .val (.int p2), .val (.ref b1), .unset, .unset, .unset, .unset, .unset, .unset, .unset, .unset, .unset, .unset, .unset, .unset]) rfl ?_
    show Steps p.tables e below (T2.setTop (mkF m 8 #[.val (.int p1), .val (.int p2), .val (.ref b1), .unset, .unset, .unset, .unset, .unset, .unset, .unset, .unset, .unset, .unset, .unset, .unset] [])) _
    refine st3 _ ?_
    show Steps p.tables e below (T3.setTop (mkF m 11 #[.val (.int p1), .val (.int p2), .val (.ref b1), .unset, .unset, .unset, .unset, .unset, .unset, .unset, .unset, .unset, .unset, .unset, .unset] [(.ref b3)])) _
    refine XS.dup X3.here hx rfl (hb hby at_11) rfl rfl ?_
    show Steps p.tables e below (T3.setTop (mkF m 12 #[.val (.int p1), .val (.int p2), .val (.ref b1), .unset, .unset, .unset, .unset, .unset, .unset, .unset, .unset, .unset, .unset, .unset, .unset] [(.ref b3), (.ref b3)])) _
    refine XS.aloadN X3.here hx rfl (hb hby at_12) rfl rfl ?_
    show Steps p.tables e below (T3.setTop (mkF m 13 #[.val (.int p1), .val (.int p2), .val (.ref b1), .unset, .unset, .unset, .unset, .unset, .unset, .unset, .unset, .unset, .unset, .unset, .unset] [(.ref b1), (.ref b3), (.ref b3)])) _
    refine st4.trans ?_
    show Steps p.tables e below (T4.setTop (mkF m 16 #[.val (.int p1), .val (.int p2), .val (.ref b1), .unset, .unset, .unset, .unset, .unset, .unset, .unset, .unset, .unset, .unset, .unset, .unset] [(.ref b3)])) _
    refine XS.astoreN X4.here hx rfl (hb hby at_16) rfl rfl (l' := #[.val (.int p1), .val (.int p2), .val (.ref b1), .val (.ref b3), .unset, .unset, .unset, .unset, .unset, .unset, .unset, .unset, .unset, .unset, .unset]) rfl ?_
    show Steps p.tables e below (T4.setTop (mkF m 17 #[.val (.int p1), .val (.int p2), .val (.ref b1), .val (.ref b3), .unset, .unset, .unset, .unset, .unset, .unset, .unset, .unset, .unset, .unset, .unset] [])) _
    refine XS.aloadN X4.here hx rfl (hb hby at_17) rfl rfl ?_
    show Steps p.tables e below (T4.setTop (mkF m 18 #[.val (.int p1), .val (.int p2), .val (.ref b1), .val (.ref b3), .unset, .unset, .unset, .unset, .unset, .unset, .unset, .unset, .unset, .unset, .unset] [(.ref b3)])) _
    refine st5.trans ?_
    show Steps p.tables e below (T5.setTop (mkF m 21 #[.val (.int p1), .val (.int p2), .val (.ref b1), .val (.ref b3), .unset, .unset, .unset, .unset, .unset, .unset, .unset, .unset, .unset, .unset, .unset] [(.ref c5)])) _
    refine XS.astore X5.here hx rfl (hb hby at_21) rfl rfl (l' := #[.val (.int p1), .val (.int p2), .val (.ref b1), .val (.ref b3), .val (.ref c5), .unset, .unset, .unset, .unset, .unset, .unset, .unset, .unset, .unset, .unset]) rfl ?_
    show Steps p.tables e below (T5.setTop (mkF m 23 #[.val (.int p1), .val (.int p2), .val (.ref b1), .val (.ref b3), .val (.ref c5), .unset, .unset, .unset, .unset, .unset, .unset, .unset, .unset, .unset, .unset] [])) _
    refine XS.aload X5.here hx rfl (hb hby at_23) rfl rfl ?_
    show Steps p.tables e below (T5.setTop (mkF m 25 #[.val (.int p1), .val (.int p2), .val (.ref b1), .val (.ref b3), .val (.ref c5), .unset, .unset, .unset, .unset, .unset, .unset, .unset, .unset, .unset, .unset] [(.ref c5)])) _
    refine st6.trans ?_
    show Steps p.tables e below (T6.setTop (mkF m 28 #[.val (.int p1), .val (.int p2), .val (.ref b1), .val (.ref b3), .val (.ref c5), .unset, .unset, .unset, .unset, .unset, .unset, .unset, .unset, .unset, .unset] [(.ref c6)])) _
    refine XS.astore X6.here hx rfl (hb hby at_28) rfl rfl (l' := #[.val (.int p1), .val (.int p2), .val (.ref b1), .val (.ref b3), .val (.ref c5), .val (.ref c6), .unset, .unset, .unset, .unset, .unset, .unset, .unset, .unset, .unset]) rfl ?_
    show Steps p.tables e below (T6.setTop (mkF m 30 #[.val (.int p1), .val (.int p2), .val (.ref b1), .val (.ref b3), .val (.ref c5), .val (.ref c6), .unset, .unset, .unset, .unset, .unset, .unset, .unset, .unset, .unset] [])) _
    refine XS.aload X6.here hx rfl (hb hby at_30) rfl rfl ?_
    show Steps p.tables e below (T6.setTop (mkF m 32 #[.val (.int p1), .val (.int p2), .val (.ref b1), .val (.ref b3), .val (.ref c5), .val (.ref c6), .unset, .unset, .unset, .unset, .unset, .unset, .unset, .unset, .unset] [(.ref c6)])) _
    refine st7.trans ?_
    show Steps p.tables e below (T7.setTop (mkF m 35 #[.val (.int p1), .val (.int p2), .val (.ref b1), .val (.ref b3), .val (.ref c5), .val (.ref c6), .unset, .unset, .unset, .unset, .unset, .unset, .unset, .unset, .unset] [(.ref c7)])) _
    refine XS.astore X7.here hx rfl (hb hby at_35) rfl rfl (l' := #[.val (.int p1), .val (.int p2), .val (.ref b1), .val (.ref b3), .val (.ref c5), .val (.ref c6), .val (.ref c7), .unset, .unset, .unset, .unset, .unset, .unset, .unset, .unset]) rfl ?_
    show Steps p.tables e below (T7.setTop (mkF m 37 #[.val (.int p1), .val (.int p2), .val (.ref b1), .val (.ref b3), .val (.ref c5), .val (.ref c6), .val (.ref c7), .unset, .unset, .unset, .unset, .unset, .unset, .unset, .unset] [])) _
    refine XS.iloadN X7.here hx rfl (hb hby at_37) rfl ?_
    show Steps p.tables e below (T7.setTop (mkF m 38 #[.val (.int p1), .val (.int p2), .val (.ref b1), .val (.ref b3), .val (.ref c5), .val (.ref c6), .val (.ref c7), .unset, .unset, .unset, .unset, .unset, .unset, .unset, .unset] [(.int p1)])) _
    refine XS.iconst X7.here hx rfl (hb hby at_38) ?_
    show Steps p.tables e below (T7.setTop (mkF m 39 #[.val (.int p1), .val (.int p2), .val (.ref b1), .val (.ref b3), .val (.ref c5), .val (.ref c6), .val (.ref c7), .unset, .unset, .unset, .unset, .unset, .unset, .unset, .unset] [(.int (3 : Int32)), (.int p1)])) _
    refine XS.iand X7.here hx rfl (hb hby at_39) rfl ?_
    show Steps p.tables e below (T7.setTop (mkF m 40 #[.val (.int p1), .val (.int p2), .val (.ref b1), .val (.ref b3), .val (.ref c5), .val (.ref c6), .val (.ref c7), .unset, .unset, .unset, .unset, .unset, .unset, .unset, .unset] [(.int (p1 &&& (3 : Int32)))])) _
    rw [hd]
    show Steps p.tables e below (T7.setTop (mkF m 40 #[.val (.int p1), .val (.int p2), .val (.ref b1), .val (.ref b3), .val (.ref c5), .val (.ref c6), .val (.ref c7), .unset, .unset, .unset, .unset, .unset, .unset, .unset, .unset] [(.int (0 : Int32))])) _
    refine XS.istore X7.here hx rfl (hb hby at_40) rfl (l' := #[.val (.int p1), .val (.int p2), .val (.ref b1), .val (.ref b3), .val (.ref c5), .val (.ref c6), .val (.ref c7), .val (.int (0 : Int32)), .unset, .unset, .unset, .unset, .unset, .unset, .unset]) rfl ?_
    show Steps p.tables e below (T7.setTop (mkF m 42 #[.val (.int p1), .val (.int p2), .val (.ref b1), .val (.ref b3), .val (.ref c5), .val (.ref c6), .val (.ref c7), .val (.int (0 : Int32)), .unset, .unset, .unset, .unset, .unset, .unset, .unset] [])) _
    refine XS.iload X7.here hx rfl (hb hby at_42) rfl ?_
    show Steps p.tables e below (T7.setTop (mkF m 44 #[.val (.int p1), .val (.int p2), .val (.ref b1), .val (.ref b3), .val (.ref c5), .val (.ref c6), .val (.ref c7), .val (.int (0 : Int32)), .unset, .unset, .unset, .unset, .unset, .unset, .unset] [(.int (0 : Int32))])) _
    refine XS.ifNo X7.here hx rfl (hb hby at_44) rfl ((if0 _ _).trans (teq ((by decide) : (0 : Int32) = (0 : Int32))).2) ?_
    show Steps p.tables e below (T7.setTop (mkF m 47 #[.val (.int p1), .val (.int p2), .val (.ref b1), .val (.ref b3), .val (.ref c5), .val (.ref c6), .val (.ref c7), .val (.int (0 : Int32)), .unset, .unset, .unset, .unset, .unset, .unset, .unset] [])) _
    refine XS.aloadN X7.here hx rfl (hb hby at_47) rfl rfl ?_
    show Steps p.tables e below (T7.setTop (mkF m 48 #[.val (.int p1), .val (.int p2), .val (.ref b1), .val (.ref b3), .val (.ref c5), .val (.ref c6), .val (.ref c7), .val (.int (0 : Int32)), .unset, .unset, .unset, .unset, .unset, .unset, .unset] [(.ref b3)])) _
    refine XS.astore X7.here hx rfl (hb hby at_48) rfl rfl (l' := #[.val (.int p1), .val (.int p2), .val (.ref b1), .val (.ref b3), .val (.ref c5), .val (.ref c6), .val (.ref c7), .val (.int (0 : Int32)), .val (.ref b3), .unset, .unset, .unset, .unset, .unset, .unset]) rfl ?_
    show Steps p.tables e below (T7.setTop (mkF m 50 #[.val (.int p1), .val (.int p2), .val (.ref b1), .val (.ref b3), .val (.ref c5), .val (.ref c6), .val (.ref c7), .val (.int (0 : Int32)), .val (.ref b3), .unset, .unset, .unset, .unset, .unset, .unset] [])) _
    refine XS.goto X7.here hx rfl (pc0 := 50) (pc' := 83) rfl (hb hby at_50) (by decide) (by decide) ?_
    show Steps p.tables e below (T7.setTop (mkF m 83 #[.val (.int p1), .val (.int p2), .val (.ref b1), .val (.ref b3), .val (.ref c5), .val (.ref c6), .val (.ref c7), .val (.int (0 : Int32)), .val (.ref b3), .unset, .unset, .unset, .unset, .unset, .unset] [])) _
    refine XS.aload X7.here hx rfl (hb hby at_83) rfl rfl ?_
    show Steps p.tables e below (T7.setTop (mkF m 85 #[.val (.int p1), .val (.int p2), .val (.ref b1), .val (.ref b3), .val (.ref c5), .val (.ref c6), .val (.ref c7), .val (.int (0 : Int32)), .val (.ref b3), .unset, .unset, .unset, .unset, .unset, .unset] [(.ref b3)])) _
    refine st8.trans ?_
    show Steps p.tables e below (T8.setTop (mkF m 88 #[.val (.int p1), .val (.int p2), .val (.ref b1), .val (.ref b3), .val (.ref c5), .val (.ref c6), .val (.ref c7), .val (.int (0 : Int32)), .val (.ref b3), .unset, .unset, .unset, .unset, .unset, .unset] [(.ref b3)])) _
    refine XS.astore X8.here hx rfl (hb hby at_88) rfl rfl (l' := #[.val (.int p1), .val (.int p2), .val (.ref b1), .val (.ref b3), .val (.ref c5), .val (.ref c6), .val (.ref c7), .val (.int (0 : Int32)), .val (.ref b3), .val (.ref b3), .unset, .unset, .unset, .unset, .unset]) rfl ?_
    show Steps p.tables e below (T8.setTop (mkF m 90 #[.val (.int p1), .val (.int p2), .val (.ref b1), .val (.ref b3), .val (.ref c5), .val (.ref c6), .val (.ref c7), .val (.int (0 : Int32)), .val (.ref b3), .val (.ref b3), .unset, .unset, .unset, .unset, .unset] [])) _
    refine XS.aload X8.here hx rfl (hb hby at_90) rfl rfl ?_
    show Steps p.tables e below (T8.setTop (mkF m 92 #[.val (.int p1), .val (.int p2), .val (.ref b1), .val (.ref b3), .val (.ref c5), .val (.ref c6), .val (.ref c7), .val (.int (0 : Int32)), .val (.ref b3), .val (.ref b3), .unset, .unset, .unset, .unset, .unset] [(.ref b3)])) _
    refine XS.aloadN X8.here hx rfl (hb hby at_92) rfl rfl ?_
    show Steps p.tables e below (T8.setTop (mkF m 93 #[.val (.int p1), .val (.int p2), .val (.ref b1), .val (.ref b3), .val (.ref c5), .val (.ref c6), .val (.ref c7), .val (.int (0 : Int32)), .val (.ref b3), .val (.ref b3), .unset, .unset, .unset, .unset, .unset] [(.ref b3), (.ref b3)])) _
    refine Jvm.RoadKit.acmp (g := (mkF m 93 #[.val (.int p1), .val (.int p2), .val (.ref b1), .val (.ref b3), .val (.ref c5), .val (.ref c6), .val (.ref c7), .val (.int (0 : Int32)), .val (.ref b3), .val (.ref b3), .unset, .unset, .unset, .unset, .unset] [(.ref b3), (.ref b3)])) X8 hx rfl rfl rfl (pc0 := 93) (pc' := 96) (same := true) rfl (hb hby at_93) rfl (decide_eq_true rfl) (by decide) (by decide) ?_
    show Steps p.tables e below (T8.setTop (mkF m 96 #[.val (.int p1), .val (.int p2), .val (.ref b1), .val (.ref b3), .val (.ref c5), .val (.ref c6), .val (.ref c7), .val (.int (0 : Int32)), .val (.ref b3), .val (.ref b3), .unset, .unset, .unset, .unset, .unset] [])) _
    refine XS.aload X8.here hx rfl (hb hby at_96) rfl rfl ?_
    show Steps p.tables e below (T8.setTop (mkF m 98 #[.val (.int p1), .val (.int p2), .val (.ref b1), .val (.ref b3), .val (.ref c5), .val (.ref c6), .val (.ref c7), .val (.int (0 : Int32)), .val (.ref b3), .val (.ref b3), .unset, .unset, .unset, .unset, .unset] [(.ref b3)])) _
    refine st9.trans ?_
    show Steps p.tables e below (T9.setTop (mkF m 101 #[.val (.int p1), .val (.int p2), .val (.ref b1), .val (.ref b3), .val (.ref c5), .val (.ref c6), .val (.ref c7), .val (.int (0 : Int32)), .val (.ref b3), .val (.ref b3), .unset, .unset, .unset, .unset, .unset] [(.ref b3)])) _
    refine XS.aloadN X9.here hx rfl (hb hby at_101) rfl rfl ?_
    show Steps p.tables e below (T9.setTop (mkF m 102 #[.val (.int p1), .val (.int p2), .val (.ref b1), .val (.ref b3), .val (.ref c5), .val (.ref c6), .val (.ref c7), .val (.int (0 : Int32)), .val (.ref b3), .val (.ref b3), .unset, .unset, .unset, .unset, .unset] [(.ref b3), (.ref b3)])) _
    refine Jvm.RoadKit.acmp (g := (mkF m 102 #[.val (.int p1), .val (.int p2), .val (.ref b1), .val (.ref b3), .val (.ref c5), .val (.ref c6), .val (.ref c7), .val (.int (0 : Int32)), .val (.ref b3), .val (.ref b3), .unset, .unset, .unset, .unset, .unset] [(.ref b3), (.ref b3)])) X9 hx rfl rfl rfl (pc0 := 102) (pc' := 105) (same := true) rfl (hb hby at_102) rfl (decide_eq_true rfl) (by decide) (by decide) ?_
    show Steps p.tables e below (T9.setTop (mkF m 105 #[.val (.int p1), .val (.int p2), .val (.ref b1), .val (.ref b3), .val (.ref c5), .val (.ref c6), .val (.ref c7), .val (.int (0 : Int32)), .val (.ref b3), .val (.ref b3), .unset, .unset, .unset, .unset, .unset] [])) _
    refine XS.iconst X9.here hx rfl (hb hby at_105) ?_
    show Steps p.tables e below (T9.setTop (mkF m 106 #[.val (.int p1), .val (.int p2), .val (.ref b1), .val (.ref b3), .val (.ref c5), .val (.ref c6), .val (.ref c7), .val (.int (0 : Int32)), .val (.ref b3), .val (.ref b3), .unset, .unset, .unset, .unset, .unset] [(.int (1 : Int32))])) _
    refine XS.goto X9.here hx rfl (pc0 := 106) (pc' := 110) rfl (hb hby at_106) (by decide) (by decide) ?_
    show Steps p.tables e below (T9.setTop (mkF m 110 #[.val (.int p1), .val (.int p2), .val (.ref b1), .val (.ref b3), .val (.ref c5), .val (.ref c6), .val (.ref c7), .val (.int (0 : Int32)), .val (.ref b3), .val (.ref b3), .unset, .unset, .unset, .unset, .unset] [(.int (1 : Int32))])) _
    refine XS.istore X9.here hx rfl (hb hby at_110) rfl (l' := #[.val (.int p1), .val (.int p2), .val (.ref b1), .val (.ref b3), .val (.ref c5), .val (.ref c6), .val (.ref c7), .val (.int (0 : Int32)), .val (.ref b3), .val (.ref b3), .val (.int (1 : Int32)), .unset, .unset, .unset, .unset]) rfl ?_
    show Steps p.tables e below (T9.setTop (mkF m 112 #[.val (.int p1), .val (.int p2), .val (.ref b1), .val (.ref b3), .val (.ref c5), .val (.ref c6), .val (.ref c7), .val (.int (0 : Int32)), .val (.ref b3), .val (.ref b3), .val (.int (1 : Int32)), .unset, .unset, .unset, .unset] [])) _
    refine st10 _ ?_
    show Steps p.tables e below (T10.setTop (mkF m 115 #[.val (.int p1), .val (.int p2), .val (.ref b1), .val (.ref b3), .val (.ref c5), .val (.ref c6), .val (.ref c7), .val (.int (0 : Int32)), .val (.ref b3), .val (.ref b3), .val (.int (1 : Int32)), .unset, .unset, .unset, .unset] [(.ref b10)])) _
    refine XS.dup X10.here hx rfl (hb hby at_115) rfl rfl ?_
    show Steps p.tables e below (T10.setTop (mkF m 116 #[.val (.int p1), .val (.int p2), .val (.ref b1), .val (.ref b3), .val (.ref c5), .val (.ref c6), .val (.ref c7), .val (.int (0 : Int32)), .val (.ref b3), .val (.ref b3), .val (.int (1 : Int32)), .unset, .unset, .unset, .unset] [(.ref b10), (.ref b10)])) _
    refine XS.aloadN X10.here hx rfl (hb hby at_116) rfl rfl ?_
    show Steps p.tables e below (T10.setTop (mkF m 117 #[.val (.int p1), .val (.int p2), .val (.ref b1), .val (.ref b3), .val (.ref c5), .val (.ref c6), .val (.ref c7), .val (.int (0 : Int32)), .val (.ref b3), .val (.ref b3), .val (.int (1 : Int32)), .unset, .unset, .unset, .unset] [(.ref b1), (.ref b10), (.ref b10)])) _
    refine st11.trans ?_
    show Steps p.tables e below (T11.setTop (mkF m 120 #[.val (.int p1), .val (.int p2), .val (.ref b1), .val (.ref b3), .val (.ref c5), .val (.ref c6), .val (.ref c7), .val (.int (0 : Int32)), .val (.ref b3), .val (.ref b3), .val (.int (1 : Int32)), .unset, .unset, .unset, .unset] [(.ref b10)])) _
    refine XS.astore X11.here hx rfl (hb hby at_120) rfl rfl (l' := #[.val (.int p1), .val (.int p2), .val (.ref b1), .val (.ref b3), .val (.ref c5), .val (.ref c6), .val (.ref c7), .val (.int (0 : Int32)), .val (.ref b3), .val (.ref b3), .val (.int (1 : Int32)), .val (.ref b10), .unset, .unset, .unset]) rfl ?_
    show Steps p.tables e below (T11.setTop (mkF m 122 #[.val (.int p1), .val (.int p2), .val (.ref b1), .val (.ref b3), .val (.ref c5), .val (.ref c6), .val (.ref c7), .val (.int (0 : Int32)), .val (.ref b3), .val (.ref b3), .val (.int (1 : Int32)), .val (.ref b10), .unset, .unset, .unset] [])) _
    refine XS.iloadN X11.here hx rfl (hb hby at_122) rfl ?_
    show Steps p.tables e below (T11.setTop (mkF m 123 #[.val (.int p1), .val (.int p2), .val (.ref b1), .val (.ref b3), .val (.ref c5), .val (.ref c6), .val (.ref c7), .val (.int (0 : Int32)), .val (.ref b3), .val (.ref b3), .val (.int (1 : Int32)), .val (.ref b10), .unset, .unset, .unset] [(.int p2)])) _
    refine XS.iconst X11.here hx rfl (hb hby at_123) ?_
    show Steps p.tables e below (T11.setTop (mkF m 124 #[.val (.int p1), .val (.int p2), .val (.ref b1), .val (.ref b3), .val (.ref c5), .val (.ref c6), .val (.ref c7), .val (.int (0 : Int32)), .val (.ref b3), .val (.ref b3), .val (.int (1 : Int32)), .val (.ref b10), .unset, .unset, .unset] [(.int (1 : Int32)), (.int p2)])) _
    refine XS.iand X11.here hx rfl (hb hby at_124) rfl ?_
    show Steps p.tables e below (T11.setTop (mkF m 125 #[.val (.int p1), .val (.int p2), .val (.ref b1), .val (.ref b3), .val (.ref c5), .val (.ref c6), .val (.ref c7), .val (.int (0 : Int32)), .val (.ref b3), .val (.ref b3), .val (.int (1 : Int32)), .val (.ref b10), .unset, .unset, .unset] [(.int (p2 &&& (1 : Int32)))])) _
    refine XS.ifYes X11.here hx rfl (pc0 := 125) (pc' := 136) rfl (hb hby at_125) rfl ((if0 _ _).trans (teq (hc125 : (p2 &&& (1 : Int32)) = (0 : Int32))).1) (by decide) (by decide) ?_
    show Steps p.tables e below (T11.setTop (mkF m 136 #[.val (.int p1), .val (.int p2), .val (.ref b1), .val (.ref b3), .val (.ref c5), .val (.ref c6), .val (.ref c7), .val (.int (0 : Int32)), .val (.ref b3), .val (.ref b3), .val (.int (1 : Int32)), .val (.ref b10), .unset, .unset, .unset] [])) _
    refine XS.aload X11.here hx rfl (hb hby at_136) rfl rfl ?_
    show Steps p.tables e below (T11.setTop (mkF m 138 #[.val (.int p1), .val (.int p2), .val (.ref b1), .val (.ref b3), .val (.ref c5), .val (.ref c6), .val (.ref c7), .val (.int (0 : Int32)), .val (.ref b3), .val (.ref b3), .val (.int (1 : Int32)), .val (.ref b10), .unset, .unset, .unset] [(.ref b10)])) _
    refine XS.astore X11.here hx rfl (hb hby at_138) rfl rfl (l' := #[.val (.int p1), .val (.int p2), .val (.ref b1), .val (.ref b3), .val (.ref c5), .val (.ref c6), .val (.ref c7), .val (.int (0 : Int32)), .val (.ref b3), .val (.ref b3), .val (.int (1 : Int32)), .val (.ref b10), .val (.ref b10), .unset, .unset]) rfl ?_
    show Steps p.tables e below (T11.setTop (mkF m 140 #[.val (.int p1), .val (.int p2), .val (.ref b1), .val (.ref b3), .val (.ref c5), .val (.ref c6), .val (.ref c7), .val (.int (0 : Int32)), .val (.ref b3), .val (.ref b3), .val (.int (1 : Int32)), .val (.ref b10), .val (.ref b10), .unset, .unset] [])) _
    refine XS.aload X11.here hx rfl (hb hby at_140) rfl rfl ?_
    show Steps p.tables e below (T11.setTop (mkF m 142 #[.val (.int p1), .val (.int p2), .val (.ref b1), .val (.ref b3), .val (.ref c5), .val (.ref c6), .val (.ref c7), .val (.int (0 : Int32)), .val (.ref b3), .val (.ref b3), .val (.int (1 : Int32)), .val (.ref b10), .val (.ref b10), .unset, .unset] [(.ref b10)])) _
    refine st12.trans ?_
    show Steps p.tables e below (T12.setTop (mkF m 145 #[.val (.int p1), .val (.int p2), .val (.ref b1), .val (.ref b3), .val (.ref c5), .val (.ref c6), .val (.ref c7), .val (.int (0 : Int32)), .val (.ref b3), .val (.ref b3), .val (.int (1 : Int32)), .val (.ref b10), .val (.ref b10), .unset, .unset] [(.ref b10)])) _
    refine XS.astore X12.here hx rfl (hb hby at_145) rfl rfl (l' := #[.val (.int p1), .val (.int p2), .val (.ref b1), .val (.ref b3), .val (.ref c5), .val (.ref c6), .val (.ref c7), .val (.int (0 : Int32)), .val (.ref b3), .val (.ref b3), .val (.int (1 : Int32)), .val (.ref b10), .val (.ref b10), .val (.ref b10), .unset]) rfl ?_
    show Steps p.tables e below (T12.setTop (mkF m 147 #[.val (.int p1), .val (.int p2), .val (.ref b1), .val (.ref b3), .val (.ref c5), .val (.ref c6), .val (.ref c7), .val (.int (0 : Int32)), .val (.ref b3), .val (.ref b3), .val (.int (1 : Int32)), .val (.ref b10), .val (.ref b10), .val (.ref b10), .unset] [])) _
    refine XS.aload X12.here hx rfl (hb hby at_147) rfl rfl ?_
    show Steps p.tables e below (T12.setTop (mkF m 149 #[.val (.int p1), .val (.int p2), .val (.ref b1), .val (.ref b3), .val (.ref c5), .val (.ref c6), .val (.ref c7), .val (.int (0 : Int32)), .val (.ref b3), .val (.ref b3), .val (.int (1 : Int32)), .val (.ref b10), .val (.ref b10), .val (.ref b10), .unset] [(.ref b10)])) _
    refine XS.aload X12.here hx rfl (hb hby at_149) rfl rfl ?_
    show Steps p.tables e below (T12.setTop (mkF m 151 #[.val (.int p1), .val (.int p2), .val (.ref b1), .val (.ref b3), .val (.ref c5), .val (.ref c6), .val (.ref c7), .val (.int (0 : Int32)), .val (.ref b3), .val (.ref b3), .val (.int (1 : Int32)), .val (.ref b10), .val (.ref b10), .val (.ref b10), .unset] [(.ref b10), (.ref b10)])) _
    refine Jvm.RoadKit.acmp (g := (mkF m 151 #[.val (.int p1), .val (.int p2), .val (.ref b1), .val (.ref b3), .val (.ref c5), .val (.ref c6), .val (.ref c7), .val (.int (0 : Int32)), .val (.ref b3), .val (.ref b3), .val (.int (1 : Int32)), .val (.ref b10), .val (.ref b10), .val (.ref b10), .unset] [(.ref b10), (.ref b10)])) X12 hx rfl rfl rfl (pc0 := 151) (pc' := 154) (same := true) rfl (hb hby at_151) rfl (decide_eq_true rfl) (by decide) (by decide) ?_
    show Steps p.tables e below (T12.setTop (mkF m 154 #[.val (.int p1), .val (.int p2), .val (.ref b1), .val (.ref b3), .val (.ref c5), .val (.ref c6), .val (.ref c7), .val (.int (0 : Int32)), .val (.ref b3), .val (.ref b3), .val (.int (1 : Int32)), .val (.ref b10), .val (.ref b10), .val (.ref b10), .unset] [])) _
    refine XS.aload X12.here hx rfl (hb hby at_154) rfl rfl ?_
    show Steps p.tables e below (T12.setTop (mkF m 156 #[.val (.int p1), .val (.int p2), .val (.ref b1), .val (.ref b3), .val (.ref c5), .val (.ref c6), .val (.ref c7), .val (.int (0 : Int32)), .val (.ref b3), .val (.ref b3), .val (.int (1 : Int32)), .val (.ref b10), .val (.ref b10), .val (.ref b10), .unset] [(.ref b10)])) _
    refine XS.aloadN X12.here hx rfl (hb hby at_156) rfl rfl ?_
    show Steps p.tables e below (T12.setTop (mkF m 157 #[.val (.int p1), .val (.int p2), .val (.ref b1), .val (.ref b3), .val (.ref c5), .val (.ref c6), .val (.ref c7), .val (.int (0 : Int32)), .val (.ref b3), .val (.ref b3), .val (.int (1 : Int32)), .val (.ref b10), .val (.ref b10), .val (.ref b10), .unset] [(.ref b3), (.ref b10)])) _
    refine Jvm.RoadKit.acmp (g := (mkF m 157 #[.val (.int p1), .val (.int p2), .val (.ref b1), .val (.ref b3), .val (.ref c5), .val (.ref c6), .val (.ref c7), .val (.int (0 : Int32)), .val (.ref b3), .val (.ref b3), .val (.int (1 : Int32)), .val (.ref b10), .val (.ref b10), .val (.ref b10), .unset] [(.ref b3), (.ref b10)])) X12 hx rfl rfl rfl (pc0 := 157) (pc' := 160) (same := false) rfl (hb hby at_157) rfl (decide_eq_false fun q => absurd (Value.ref.inj q) (Ne.symm ne_b3_b10)) (by decide) (by decide) ?_
    show Steps p.tables e below (T12.setTop (mkF m 160 #[.val (.int p1), .val (.int p2), .val (.ref b1), .val (.ref b3), .val (.ref c5), .val (.ref c6), .val (.ref c7), .val (.int (0 : Int32)), .val (.ref b3), .val (.ref b3), .val (.int (1 : Int32)), .val (.ref b10), .val (.ref b10), .val (.ref b10), .unset] [])) _
    refine XS.iconst X12.here hx rfl (hb hby at_160) ?_
    show Steps p.tables e below (T12.setTop (mkF m 161 #[.val (.int p1), .val (.int p2), .val (.ref b1), .val (.ref b3), .val (.ref c5), .val (.ref c6), .val (.ref c7), .val (.int (0 : Int32)), .val (.ref b3), .val (.ref b3), .val (.int (1 : Int32)), .val (.ref b10), .val (.ref b10), .val (.ref b10), .unset] [(.int (1 : Int32))])) _
    refine XS.goto X12.here hx rfl (pc0 := 161) (pc' := 165) rfl (hb hby at_161) (by decide) (by decide) ?_
    show Steps p.tables e below (T12.setTop (mkF m 165 #[.val (.int p1), .val (.int p2), .val (.ref b1), .val (.ref b3), .val (.ref c5), .val (.ref c6), .val (.ref c7), .val (.int (0 : Int32)), .val (.ref b3), .val (.ref b3), .val (.int (1 : Int32)), .val (.ref b10), .val (.ref b10), .val (.ref b10), .unset] [(.int (1 : Int32))])) _
    refine XS.istore X12.here hx rfl (hb hby at_165) rfl (l' := #[.val (.int p1), .val (.int p2), .val (.ref b1), .val (.ref b3), .val (.ref c5), .val (.ref c6), .val (.ref c7), .val (.int (0 : Int32)), .val (.ref b3), .val (.ref b3), .val (.int (1 : Int32)), .val (.ref b10), .val (.ref b10), .val (.ref b10), .val (.int (1 : Int32))]) rfl ?_
    show Steps p.tables e below (T12.setTop (mkF m 167 #[.val (.int p1), .val (.int p2), .val (.ref b1), .val (.ref b3), .val (.ref c5), .val (.ref c6), .val (.ref c7), .val (.int (0 : Int32)), .val (.ref b3), .val (.ref b3), .val (.int (1 : Int32)), .val (.ref b10), .val (.ref b10), .val (.ref b10), .val (.int (1 : Int32))] [])) _
    refine XS.iload X12.here hx rfl (hb hby at_167) rfl ?_
    show Steps p.tables e below (T12.setTop (mkF m 169 #[.val (.int p1), .val (.int p2), .val (.ref b1), .val (.ref b3), .val (.ref c5), .val (.ref c6), .val (.ref c7), .val (.int (0 : Int32)), .val (.ref b3), .val (.ref b3), .val (.int (1 : Int32)), .val (.ref b10), .val (.ref b10), .val (.ref b10), .val (.int (1 : Int32))] [(.int (1 : Int32))])) _
    refine XS.ifNo X12.here hx rfl (hb hby at_169) rfl ((if0 _ _).trans (feq ((by decide) : ¬ ((1 : Int32) = (0 : Int32)))).1) ?_
    show Steps p.tables e below (T12.setTop (mkF m 172 #[.val (.int p1), .val (.int p2), .val (.ref b1), .val (.ref b3), .val (.ref c5), .val (.ref c6), .val (.ref c7), .val (.int (0 : Int32)), .val (.ref b3), .val (.ref b3), .val (.int (1 : Int32)), .val (.ref b10), .val (.ref b10), .val (.ref b10), .val (.int (1 : Int32))] [])) _
    refine XS.iload X12.here hx rfl (hb hby at_172) rfl ?_
    show Steps p.tables e below (T12.setTop (mkF m 174 #[.val (.int p1), .val (.int p2), .val (.ref b1), .val (.ref b3), .val (.ref c5), .val (.ref c6), .val (.ref c7), .val (.int (0 : Int32)), .val (.ref b3), .val (.ref b3), .val (.int (1 : Int32)), .val (.ref b10), .val (.ref b10), .val (.ref b10), .val (.int (1 : Int32))] [(.int (1 : Int32))])) _
    refine XS.ifNo X12.here hx rfl (hb hby at_174) rfl ((if0 _ _).trans (feq ((by decide) : ¬ ((1 : Int32) = (0 : Int32)))).1) ?_
    show Steps p.tables e below (T12.setTop (mkF m 177 #[.val (.int p1), .val (.int p2), .val (.ref b1), .val (.ref b3), .val (.ref c5), .val (.ref c6), .val (.ref c7), .val (.int (0 : Int32)), .val (.ref b3), .val (.ref b3), .val (.int (1 : Int32)), .val (.ref b10), .val (.ref b10), .val (.ref b10), .val (.int (1 : Int32))] [])) _
    refine XS.iconst X12.here hx rfl (hb hby at_177) ?_
    show Steps p.tables e below (T12.setTop (mkF m 178 #[.val (.int p1), .val (.int p2), .val (.ref b1), .val (.ref b3), .val (.ref c5), .val (.ref c6), .val (.ref c7), .val (.int (0 : Int32)), .val (.ref b3), .val (.ref b3), .val (.int (1 : Int32)), .val (.ref b10), .val (.ref b10), .val (.ref b10), .val (.int (1 : Int32))] [(.int (1 : Int32))])) _
    refine XS.goto X12.here hx rfl (pc0 := 178) (pc' := 182) rfl (hb hby at_178) (by decide) (by decide) ?_
    show Steps p.tables e below (T12.setTop (mkF m 182 #[.val (.int p1), .val (.int p2), .val (.ref b1), .val (.ref b3), .val (.ref c5), .val (.ref c6), .val (.ref c7), .val (.int (0 : Int32)), .val (.ref b3), .val (.ref b3), .val (.int (1 : Int32)), .val (.ref b10), .val (.ref b10), .val (.ref b10), .val (.int (1 : Int32))] [(.int (1 : Int32))])) _
    exact retN X12 hx (t := .boolean) Bd.returns (by simp) (hb hby at_182) hr
  · show Q0 Z p1 p2 h0 n0 _ T12.heap _
    rw [eh12]
    exact ⟨rfl, N12⟩
set_option maxRecDepth 65536 in
set_option maxHeartbeats 40000000 in
theorem rm0_0f (l : Launch) (Z : State) (a0 : Array Value) (hw : ∀ d ∈ tables_1, d.before a0 Z = true) (ws : List Jvm.Cond) (p1 p2 : Int32) (h0 : Heap) (n0 : Nat) (Z0 : n0 ≤ h0.size) (hd : (p1 &&& (3 : Int32)) = (0 : Int32)) (hc125 : ¬ ((p2 &&& (1 : Int32)) = (0 : Int32))) :
    MetFree l x (head1 (Jvm.Cond.code x code maxLocals ret :: ws) room_1) (fun a U => a = #[(.int p1), (.int p2)] ∧ Z.Warmed39 U.vm ∧ U.heap = h0) (fun _ _ _ _ _ => True) (fun _ U o U' => ∃ v L, o = .returned v ∧ Q0 Z p1 p2 h0 n0 v U'.heap L ∧ FrameEnd U o U' L room_1.cells room_1.slots) := by
  refine MetFree.of_bodySF (plainFor_of_name pn_0) hisR ?_
  intro p e s m args below meth c s₁ Bd hml0 hP hK
  obtain ⟨rfl, hZ, hh⟩ := hP
  have hx := Bd.exec
  have hby := Bd.bytes
  have hml : c.maxLocals = 15 := hml0
  have hown : s.vm.findClass "com/example/roteiro/roteiro/lang/ScopeRootPinLaw" = some m.cls := findClass_of_methodNamed Bd.named
  have hnm := (name_of_methodNamed Bd.named Bd.method).1
  have X0 : Stand p l e room_1 s m #[(.int p1), (.int p2)] below meth c s₁ [] 0 0 := Stand.of_body Bd
  have e0 : s₁.heap = h0 := by rw [← hh, Bd.state]; rfl
  have N0 := Fr.nil n0
  have pre0 : ∀ t, Steps p.tables e below (s₁.setTop (mkF m 0 #[.val (.int p1), .val (.int p2), .unset, .unset, .unset, .unset, .unset, .unset, .unset, .unset, .unset, .unset, .unset, .unset, .unset] [])) t → Steps p.tables e below (s₁.setTop (entryFrame m #[(.int p1), (.int p2)] maxLocals)) t := fun t k => castTop (ef_0 m p1 p2) k
  obtain ⟨T1, h1, X1, e1, E1, A1, D1, -, st1⟩ := newO X0 hx hZ hown (hw _ (List.mem_of_getElem? (i := 0) rfl)) (hw _ (List.mem_of_getElem? (i := 1) rfl)) (hw _ (List.mem_of_getElem? (i := 2) rfl)) e0 (g := (mkF m 0 #[.val (.int p1), .val (.int p2), .unset, .unset, .unset, .unset, .unset, .unset, .unset, .unset, .unset, .unset, .unset, .unset, .unset] [])) rfl (hb hby at_0) (by decide) (by decide)
  obtain ⟨b1, g1⟩ : ∃ z, z = h0.size := ⟨_, rfl⟩
  rw [← g1] at A1 D1 st1
  have gb1 : n0 ≤ b1 := Nat.le_trans Z0 (Nat.le_of_eq g1.symm)
  have Z1 : n0 ≤ h1.size := Nat.le_trans Z0 E1.1
  have F_b1_elements_1 : Fld Z h1 b1 "com/example/roteiro/roteiro/lang/Libraries" "elements" "Ljava/util/Map;" .null := D1 (Or.inr (hw _ (List.mem_of_getElem? (i := 26) rfl))) (ty := (.object "java/util/Map")) (by decide)
  have F_b1_bareNames_1 : Fld Z h1 b1 "com/example/roteiro/roteiro/lang/Libraries" "bareNames" "Ljava/util/Map;" .null := D1 (Or.inr (hw _ (List.mem_of_getElem? (i := 28) rfl))) (ty := (.object "java/util/Map")) (by decide)
  obtain ⟨_, _, ⟨T2, L2, k2, n2⟩, -, X2, ⟨Lc2, hQ2, l2, y2, z2⟩, st2⟩ := X1.specialBack hx (y := (⟨"com/example/roteiro/roteiro/lang/Libraries", "<init>", "()V"⟩ : MethodName)) rfl hown (mvT hZ (hw _ (List.mem_of_getElem? (i := 3) rfl))) (mvT hZ (hw _ (List.mem_of_getElem? (i := 4) rfl))) (mvT hZ (hw _ (List.mem_of_getElem? (i := 5) rfl))) (by decide) (backOf (W := 1) (rmLb l Z a0 hw [] b1 _ _ h1 n0 Z1 A1 F_b1_elements_1 F_b1_bareNames_1 gb1) hZ (hw _ (List.mem_of_getElem? (i := 5) rfl)) (hw _ (List.mem_of_getElem? (i := 2) rfl)) (by decide) (by decide)) (g := (mkF m 4 #[.val (.int p1), .val (.int p2), .unset, .unset, .unset, .unset, .unset, .unset, .unset, .unset, .unset, .unset, .unset, .unset, .unset] [(.ref b1), (.ref b1)])) rfl (by rw [hml]; rfl) (Steps.refl _) (a := b1) (argsL := []) (rest := [(.ref b1)]) (lenOf pd_0_0 rfl) rfl (by show 2 * 0 + _ ≤ _; exact Nat.le_of_eq rfl) (hb hby at_4) (fun _ _ => ⟨rfl, e1, (by decide : 1 + 2 ≤ _), (by decide : 2 + 16 ≤ _)⟩)
  dsimp only [Pt.U, Pt.locs, Pt.cells, Pt.slots] at X2 l2 y2 z2 st2 hQ2
  subst l2 y2 z2
  obtain ⟨rfl, N2q, K2⟩ := hQ2
  have N2 := Fr.app N0 N2q
  have E_b1_2 := A1.keep K2
  have Z2 : n0 ≤ T2.heap.size := Nat.le_trans Z1 K2.1
  obtain ⟨T3, h3, X3, e3, E3, A3, D3, -, st3⟩ := newO X2 hx hZ hown (hw _ (List.mem_of_getElem? (i := 29) rfl)) (hw _ (List.mem_of_getElem? (i := 30) rfl)) (hw _ (List.mem_of_getElem? (i := 31) rfl)) rfl (g := (mkF m 8 #[.val (.int p1), .val (.int p2), .val (.ref b1), .unset, .unset, .unset, .unset, .unset, .unset, .unset, .unset, .unset, .unset, .unset, .unset] [])) rfl (hb hby at_8) (by decide) (by decide)
  obtain ⟨b3, g3⟩ : ∃ z, z = T2.heap.size := ⟨_, rfl⟩
  rw [← g3] at A3 D3 st3
  have gb3 : n0 ≤ b3 := Nat.le_trans Z2 (Nat.le_of_eq g3.symm)
  have Z3 : n0 ≤ h3.size := Nat.le_trans Z2 E3.1
  have F_b3_parent_3 : Fld Z h3 b3 "com/example/roteiro/roteiro/lang/Scope" "parent" "Lcom/example/roteiro/roteiro/lang/Scope;" .null := D3 (Or.inr (hw _ (List.mem_of_getElem? (i := 40) rfl))) (ty := (.object "com/example/roteiro/roteiro/lang/Scope")) (by decide)
  have F_b3_libraries_3 : Fld Z h3 b3 "com/example/roteiro/roteiro/lang/Scope" "libraries" "Lcom/example/roteiro/roteiro/lang/Libraries;" .null := D3 (Or.inr (hw _ (List.mem_of_getElem? (i := 42) rfl))) (ty := (.object "com/example/roteiro/roteiro/lang/Libraries")) (by decide)
  obtain ⟨_, _, ⟨T4, L4, k4, n4⟩, -, X4, ⟨Lc4, hQ4, l4, y4, z4⟩, st4⟩ := X3.specialBack hx (y := (⟨"com/example/roteiro/roteiro/lang/Scope", "<init>", "(Lcom/example/roteiro/roteiro/lang/Libraries;)V"⟩ : MethodName)) rfl hown (mvT hZ (hw _ (List.mem_of_getElem? (i := 32) rfl))) (mvT hZ (hw _ (List.mem_of_getElem? (i := 33) rfl))) (mvT hZ (hw _ (List.mem_of_getElem? (i := 34) rfl))) (by decide) (backOf (W := 1) (rmI1 l Z a0 hw [] b3 b1 _ _ h3 n0 Z3 A3 F_b3_parent_3 F_b3_libraries_3 gb3) hZ (hw _ (List.mem_of_getElem? (i := 34) rfl)) (hw _ (List.mem_of_getElem? (i := 31) rfl)) (by decide) (by decide)) (g := (mkF m 13 #[.val (.int p1), .val (.int p2), .val (.ref b1), .unset, .unset, .unset, .unset, .unset, .unset, .unset, .unset, .unset, .unset, .unset, .unset] [(.ref b1), (.ref b3), (.ref b3)])) rfl (by rw [hml]; rfl) (Steps.refl _) (a := b3) (argsL := [(.ref b1)]) (rest := [(.ref b3)]) (lenOf pd_0_1 rfl) rfl (by show 2 * 0 + _ ≤ _; exact Nat.le_of_eq rfl) (hb hby at_13) (fun _ _ => ⟨rfl, e3, (by decide : 4 + 0 ≤ _), (by decide : 21 + 0 ≤ _)⟩)
  dsimp only [Pt.U, Pt.locs, Pt.cells, Pt.slots] at X4 l4 y4 z4 st4 hQ4
  subst l4 y4 z4
  obtain ⟨rfl, N4q, K4, Fp4, Fl4⟩ := hQ4
  have N4 := Fr.app N2 N4q
  have E_b3_4 := A3.keep K4
  have Z4 : n0 ≤ T4.heap.size := Nat.le_trans Z3 K4.1
  obtain ⟨cq5, kq5, q5a, q5b, q5c⟩ := isOf hZ rfl E_b3_4
  obtain ⟨_, _, ⟨T5, L5, k5, n5⟩, -, X5, ⟨Lc5, hQ5, l5, y5, z5⟩, st5⟩ := X4.virtualBack hx (y := (⟨"com/example/roteiro/roteiro/lang/Scope", "child", "()Lcom/example/roteiro/roteiro/lang/Scope;"⟩ : MethodName)) (z := (⟨"com/example/roteiro/roteiro/lang/Scope", "child", "()Lcom/example/roteiro/roteiro/lang/Scope;"⟩ : MethodName)) hown (mvT hZ (hw _ (List.mem_of_getElem? (i := 43) rfl))) (mvT hZ (hw _ (List.mem_of_getElem? (i := 44) rfl))) (notFace_of_selects (args := #[]) (mvT hZ (hw _ (List.mem_of_getElem? (i := 46) rfl)))) (mvT hZ (hw _ (List.mem_of_getElem? (i := 46) rfl))) (mvT hZ (hw _ (List.mem_of_getElem? (i := 45) rfl))) (by decide) (backOf (W := 0) (rmCh l Z a0 hw [] b3 b1 T4.heap n0 Z4 Fl4) hZ (hw _ (List.mem_of_getElem? (i := 47) rfl)) (hw _ (List.mem_of_getElem? (i := 31) rfl)) (by decide) (by decide)) q5a q5c (g := (mkF m 18 #[.val (.int p1), .val (.int p2), .val (.ref b1), .val (.ref b3), .unset, .unset, .unset, .unset, .unset, .unset, .unset, .unset, .unset, .unset, .unset] [(.ref b3)])) rfl (by rw [hml]; rfl) (Steps.refl _) (argsL := []) (rest := []) (lenOf pd_0_2 rfl) rfl (by show 2 * 0 + _ ≤ _; exact Nat.le_of_eq rfl) (hb hby at_18) (fun _ _ => ⟨rfl, rfl, (by decide : 4 + 1 ≤ _), (by decide : 21 + 3 ≤ _)⟩)
  dsimp only [Pt.U, Pt.locs, Pt.cells, Pt.slots] at X5 l5 y5 z5 st5 hQ5
  subst l5 y5 z5
  obtain ⟨rfl, N5q, K5, Ev5, Fp5, Fl5⟩ := hQ5
  have N5 := Fr.app N4 N5q
  have E_b3_5 := E_b3_4.keep K5
  have F_b3_parent_5 := Fp4.keep K5 nin0
  have F_b3_libraries_5 := Fl4.keep K5 nin0
  have Z5 : n0 ≤ T5.heap.size := Nat.le_trans Z4 K5.1
  obtain ⟨c5, gc5⟩ : ∃ z, z = T4.heap.size := ⟨_, rfl⟩
  rw [← gc5] at st5 Ev5 Fp5 Fl5
  obtain ⟨cq6, kq6, q6a, q6b, q6c⟩ := isOf hZ rfl Ev5
  obtain ⟨_, _, ⟨T6, L6, k6, n6⟩, -, X6, ⟨Lc6, hQ6, l6, y6, z6⟩, st6⟩ := X5.virtualBack hx (y := (⟨"com/example/roteiro/roteiro/lang/Scope", "child", "()Lcom/example/roteiro/roteiro/lang/Scope;"⟩ : MethodName)) (z := (⟨"com/example/roteiro/roteiro/lang/Scope", "child", "()Lcom/example/roteiro/roteiro/lang/Scope;"⟩ : MethodName)) hown (mvT hZ (hw _ (List.mem_of_getElem? (i := 43) rfl))) (mvT hZ (hw _ (List.mem_of_getElem? (i := 44) rfl))) (notFace_of_selects (args := #[]) (mvT hZ (hw _ (List.mem_of_getElem? (i := 46) rfl)))) (mvT hZ (hw _ (List.mem_of_getElem? (i := 46) rfl))) (mvT hZ (hw _ (List.mem_of_getElem? (i := 45) rfl))) (by decide) (backOf (W := 0) (rmCh l Z a0 hw [] c5 b1 T5.heap n0 Z5 Fl5) hZ (hw _ (List.mem_of_getElem? (i := 47) rfl)) (hw _ (List.mem_of_getElem? (i := 31) rfl)) (by decide) (by decide)) q6a q6c (g := (mkF m 25 #[.val (.int p1), .val (.int p2), .val (.ref b1), .val (.ref b3), .val (.ref c5), .unset, .unset, .unset, .unset, .unset, .unset, .unset, .unset, .unset, .unset] [(.ref c5)])) rfl (by rw [hml]; rfl) (Steps.refl _) (argsL := []) (rest := []) (lenOf pd_0_2 rfl) rfl (by show 2 * 0 + _ ≤ _; exact Nat.le_of_eq rfl) (hb hby at_25) (fun _ _ => ⟨rfl, rfl, (by decide : 5 + 1 ≤ _), (by decide : 24 + 3 ≤ _)⟩)
  dsimp only [Pt.U, Pt.locs, Pt.cells, Pt.slots] at X6 l6 y6 z6 st6 hQ6
  subst l6 y6 z6
  obtain ⟨rfl, N6q, K6, Ev6, Fp6, Fl6⟩ := hQ6
  have N6 := Fr.app N5 N6q
  have E_b3_6 := E_b3_5.keep K6
  have F_b3_parent_6 := F_b3_parent_5.keep K6 nin0
  have F_b3_libraries_6 := F_b3_libraries_5.keep K6 nin0
  have E_c5_6 := Ev5.keep K6
  have F_c5_parent_6 := Fp5.keep K6 nin0
  have F_c5_libraries_6 := Fl5.keep K6 nin0
  have Z6 : n0 ≤ T6.heap.size := Nat.le_trans Z5 K6.1
  obtain ⟨c6, gc6⟩ : ∃ z, z = T5.heap.size := ⟨_, rfl⟩
  rw [← gc6] at st6 Ev6 Fp6 Fl6
  obtain ⟨cq7, kq7, q7a, q7b, q7c⟩ := isOf hZ rfl Ev6
  obtain ⟨_, _, ⟨T7, L7, k7, n7⟩, -, X7, ⟨Lc7, hQ7, l7, y7, z7⟩, st7⟩ := X6.virtualBack hx (y := (⟨"com/example/roteiro/roteiro/lang/Scope", "child", "()Lcom/example/roteiro/roteiro/lang/Scope;"⟩ : MethodName)) (z := (⟨"com/example/roteiro/roteiro/lang/Scope", "child", "()Lcom/example/roteiro/roteiro/lang/Scope;"⟩ : MethodName)) hown (mvT hZ (hw _ (List.mem_of_getElem? (i := 43) rfl))) (mvT hZ (hw _ (List.mem_of_getElem? (i := 44) rfl))) (notFace_of_selects (args := #[]) (mvT hZ (hw _ (List.mem_of_getElem? (i := 46) rfl)))) (mvT hZ (hw _ (List.mem_of_getElem? (i := 46) rfl))) (mvT hZ (hw _ (List.mem_of_getElem? (i := 45) rfl))) (by decide) (backOf (W := 0) (rmCh l Z a0 hw [] c6 b1 T6.heap n0 Z6 Fl6) hZ (hw _ (List.mem_of_getElem? (i := 47) rfl)) (hw _ (List.mem_of_getElem? (i := 31) rfl)) (by decide) (by decide)) q7a q7c (g := (mkF m 32 #[.val (.int p1), .val (.int p2), .val (.ref b1), .val (.ref b3), .val (.ref c5), .val (.ref c6), .unset, .unset, .unset, .unset, .unset, .unset, .unset, .unset, .unset] [(.ref c6)])) rfl (by rw [hml]; rfl) (Steps.refl _) (argsL := []) (rest := []) (lenOf pd_0_2 rfl) rfl (by show 2 * 0 + _ ≤ _; exact Nat.le_of_eq rfl) (hb hby at_32) (fun _ _ => ⟨rfl, rfl, (by decide : 6 + 1 ≤ _), (by decide : 27 + 3 ≤ _)⟩)
  dsimp only [Pt.U, Pt.locs, Pt.cells, Pt.slots] at X7 l7 y7 z7 st7 hQ7
  subst l7 y7 z7
  obtain ⟨rfl, N7q, K7, Ev7, Fp7, Fl7⟩ := hQ7
  have N7 := Fr.app N6 N7q
  have E_b3_7 := E_b3_6.keep K7
  have F_b3_parent_7 := F_b3_parent_6.keep K7 nin0
  have F_b3_libraries_7 := F_b3_libraries_6.keep K7 nin0
  have E_c5_7 := E_c5_6.keep K7
  have F_c5_parent_7 := F_c5_parent_6.keep K7 nin0
  have F_c5_libraries_7 := F_c5_libraries_6.keep K7 nin0
  have E_c6_7 := Ev6.keep K7
  have F_c6_parent_7 := Fp6.keep K7 nin0
  have F_c6_libraries_7 := Fl6.keep K7 nin0
  have Z7 : n0 ≤ T7.heap.size := Nat.le_trans Z6 K7.1
  obtain ⟨c7, gc7⟩ : ∃ z, z = T6.heap.size := ⟨_, rfl⟩
  rw [← gc7] at st7 Ev7 Fp7 Fl7
  obtain ⟨cq8, kq8, q8a, q8b, q8c⟩ := isOf hZ rfl E_b3_7
  obtain ⟨_, _, ⟨T8, L8, k8, n8⟩, -, X8, ⟨Lc8, hQ8, l8, y8, z8⟩, st8⟩ := X7.virtualBack hx (y := (⟨"com/example/roteiro/roteiro/lang/Scope", "root", "()Lcom/example/roteiro/roteiro/lang/Scope;"⟩ : MethodName)) (z := (⟨"com/example/roteiro/roteiro/lang/Scope", "root", "()Lcom/example/roteiro/roteiro/lang/Scope;"⟩ : MethodName)) hown (mvT hZ (hw _ (List.mem_of_getElem? (i := 49) rfl))) (mvT hZ (hw _ (List.mem_of_getElem? (i := 50) rfl))) (notFace_of_selects (args := #[]) (mvT hZ (hw _ (List.mem_of_getElem? (i := 52) rfl)))) (mvT hZ (hw _ (List.mem_of_getElem? (i := 52) rfl))) (mvT hZ (hw _ (List.mem_of_getElem? (i := 51) rfl))) (by decide) (backOf (W := 0) (rmRo0 l Z a0 hw [] b3 T7.heap n0 Z7 F_b3_parent_7) hZ (hw _ (List.mem_of_getElem? (i := 53) rfl)) (hw _ (List.mem_of_getElem? (i := 31) rfl)) (by decide) (by decide)) q8a q8c (g := (mkF m 85 #[.val (.int p1), .val (.int p2), .val (.ref b1), .val (.ref b3), .val (.ref c5), .val (.ref c6), .val (.ref c7), .val (.int (0 : Int32)), .val (.ref b3), .unset, .unset, .unset, .unset, .unset, .unset] [(.ref b3)])) rfl (by rw [hml]; rfl) (Steps.refl _) (argsL := []) (rest := []) (lenOf pd_0_2 rfl) rfl (by show 2 * 0 + _ ≤ _; exact Nat.le_of_eq rfl) (hb hby at_85) (fun _ _ => ⟨rfl, rfl, (by decide : 7 + 0 ≤ _), (by decide : 30 + 0 ≤ _)⟩)
  dsimp only [Pt.U, Pt.locs, Pt.cells, Pt.slots] at X8 l8 y8 z8 st8 hQ8
  subst l8 y8 z8
  obtain ⟨rfl, N8q, eh8⟩ := hQ8
  have N8 := Fr.app N7 N8q
  obtain ⟨cq9, kq9, q9a, q9b, q9c⟩ := isOf hZ eh8 E_b3_7
  obtain ⟨_, _, ⟨T9, L9, k9, n9⟩, -, X9, ⟨Lc9, hQ9, l9, y9, z9⟩, st9⟩ := X8.virtualBack hx (y := (⟨"com/example/roteiro/roteiro/lang/Scope", "root", "()Lcom/example/roteiro/roteiro/lang/Scope;"⟩ : MethodName)) (z := (⟨"com/example/roteiro/roteiro/lang/Scope", "root", "()Lcom/example/roteiro/roteiro/lang/Scope;"⟩ : MethodName)) hown (mvT hZ (hw _ (List.mem_of_getElem? (i := 49) rfl))) (mvT hZ (hw _ (List.mem_of_getElem? (i := 50) rfl))) (notFace_of_selects (args := #[]) (mvT hZ (hw _ (List.mem_of_getElem? (i := 52) rfl)))) (mvT hZ (hw _ (List.mem_of_getElem? (i := 52) rfl))) (mvT hZ (hw _ (List.mem_of_getElem? (i := 51) rfl))) (by decide) (backOf (W := 0) (rmRo0 l Z a0 hw [] b3 T7.heap n0 Z7 F_b3_parent_7) hZ (hw _ (List.mem_of_getElem? (i := 53) rfl)) (hw _ (List.mem_of_getElem? (i := 31) rfl)) (by decide) (by decide)) q9a q9c (g := (mkF m 98 #[.val (.int p1), .val (.int p2), .val (.ref b1), .val (.ref b3), .val (.ref c5), .val (.ref c6), .val (.ref c7), .val (.int (0 : Int32)), .val (.ref b3), .val (.ref b3), .unset, .unset, .unset, .unset, .unset] [(.ref b3)])) rfl (by rw [hml]; rfl) (Steps.refl _) (argsL := []) (rest := []) (lenOf pd_0_2 rfl) rfl (by show 2 * 0 + _ ≤ _; exact Nat.le_of_eq rfl) (hb hby at_98) (fun _ _ => ⟨rfl, eh8, (by decide : 7 + 0 ≤ _), (by decide : 30 + 0 ≤ _)⟩)
  dsimp only [Pt.U, Pt.locs, Pt.cells, Pt.slots] at X9 l9 y9 z9 st9 hQ9
  subst l9 y9 z9
  obtain ⟨rfl, N9q, eh9⟩ := hQ9
  have N9 := Fr.app N8 N9q
  obtain ⟨T10, h10, X10, e10, E10, A10, D10, -, st10⟩ := newO X9 hx hZ hown (hw _ (List.mem_of_getElem? (i := 29) rfl)) (hw _ (List.mem_of_getElem? (i := 30) rfl)) (hw _ (List.mem_of_getElem? (i := 31) rfl)) eh9 (g := (mkF m 112 #[.val (.int p1), .val (.int p2), .val (.ref b1), .val (.ref b3), .val (.ref c5), .val (.ref c6), .val (.ref c7), .val (.int (0 : Int32)), .val (.ref b3), .val (.ref b3), .val (.int (1 : Int32)), .unset, .unset, .unset, .unset] [])) rfl (hb hby at_112) (by decide) (by decide)
  obtain ⟨b10, g10⟩ : ∃ z, z = T7.heap.size := ⟨_, rfl⟩
  rw [← g10] at A10 D10 st10
  have gb10 : n0 ≤ b10 := Nat.le_trans Z7 (Nat.le_of_eq g10.symm)
  have ne_b3_b10 : b3 ≠ b10 := (Nat.ne_of_lt (Nat.lt_of_lt_of_le E_b3_7.lt (Nat.le_of_eq g10.symm)))
  have ne_c5_b10 : c5 ≠ b10 := (Nat.ne_of_lt (Nat.lt_of_lt_of_le E_c5_7.lt (Nat.le_of_eq g10.symm)))
  have ne_c6_b10 : c6 ≠ b10 := (Nat.ne_of_lt (Nat.lt_of_lt_of_le E_c6_7.lt (Nat.le_of_eq g10.symm)))
  have ne_c7_b10 : c7 ≠ b10 := (Nat.ne_of_lt (Nat.lt_of_lt_of_le Ev7.lt (Nat.le_of_eq g10.symm)))
  have E_b3_10 := E_b3_7.ext E10
  have F_b3_parent_10 := F_b3_parent_7.ext E10
  have F_b3_libraries_10 := F_b3_libraries_7.ext E10
  have E_c5_10 := E_c5_7.ext E10
  have F_c5_parent_10 := F_c5_parent_7.ext E10
  have F_c5_libraries_10 := F_c5_libraries_7.ext E10
  have E_c6_10 := E_c6_7.ext E10
  have F_c6_parent_10 := F_c6_parent_7.ext E10
  have F_c6_libraries_10 := F_c6_libraries_7.ext E10
  have E_c7_10 := Ev7.ext E10
  have F_c7_parent_10 := Fp7.ext E10
  have F_c7_libraries_10 := Fl7.ext E10
  have Z10 : n0 ≤ h10.size := Nat.le_trans Z7 E10.1
  have F_b10_parent_10 : Fld Z h10 b10 "com/example/roteiro/roteiro/lang/Scope" "parent" "Lcom/example/roteiro/roteiro/lang/Scope;" .null := D10 (Or.inr (hw _ (List.mem_of_getElem? (i := 40) rfl))) (ty := (.object "com/example/roteiro/roteiro/lang/Scope")) (by decide)
  have F_b10_libraries_10 : Fld Z h10 b10 "com/example/roteiro/roteiro/lang/Scope" "libraries" "Lcom/example/roteiro/roteiro/lang/Libraries;" .null := D10 (Or.inr (hw _ (List.mem_of_getElem? (i := 42) rfl))) (ty := (.object "com/example/roteiro/roteiro/lang/Libraries")) (by decide)
  obtain ⟨_, _, ⟨T11, L11, k11, n11⟩, -, X11, ⟨Lc11, hQ11, l11, y11, z11⟩, st11⟩ := X10.specialBack hx (y := (⟨"com/example/roteiro/roteiro/lang/Scope", "<init>", "(Lcom/example/roteiro/roteiro/lang/Libraries;)V"⟩ : MethodName)) rfl hown (mvT hZ (hw _ (List.mem_of_getElem? (i := 32) rfl))) (mvT hZ (hw _ (List.mem_of_getElem? (i := 33) rfl))) (mvT hZ (hw _ (List.mem_of_getElem? (i := 34) rfl))) (by decide) (backOf (W := 1) (rmI1 l Z a0 hw [] b10 b1 _ _ h10 n0 Z10 A10 F_b10_parent_10 F_b10_libraries_10 gb10) hZ (hw _ (List.mem_of_getElem? (i := 34) rfl)) (hw _ (List.mem_of_getElem? (i := 31) rfl)) (by decide) (by decide)) (g := (mkF m 117 #[.val (.int p1), .val (.int p2), .val (.ref b1), .val (.ref b3), .val (.ref c5), .val (.ref c6), .val (.ref c7), .val (.int (0 : Int32)), .val (.ref b3), .val (.ref b3), .val (.int (1 : Int32)), .unset, .unset, .unset, .unset] [(.ref b1), (.ref b10), (.ref b10)])) rfl (by rw [hml]; rfl) (Steps.refl _) (a := b10) (argsL := [(.ref b1)]) (rest := [(.ref b10)]) (lenOf pd_0_1 rfl) rfl (by show 2 * 0 + _ ≤ _; exact Nat.le_of_eq rfl) (hb hby at_117) (fun _ _ => ⟨rfl, e10, (by decide : 8 + 0 ≤ _), (by decide : 33 + 0 ≤ _)⟩)
  dsimp only [Pt.U, Pt.locs, Pt.cells, Pt.slots] at X11 l11 y11 z11 st11 hQ11
  subst l11 y11 z11
  obtain ⟨rfl, N11q, K11, Fp11, Fl11⟩ := hQ11
  have N11 := Fr.app N9 N11q
  have E_b3_11 := E_b3_10.keep K11
  have F_b3_parent_11 := F_b3_parent_10.keep K11 (ninS ne_b3_b10 nin0)
  have F_b3_libraries_11 := F_b3_libraries_10.keep K11 (ninS ne_b3_b10 nin0)
  have E_c5_11 := E_c5_10.keep K11
  have F_c5_parent_11 := F_c5_parent_10.keep K11 (ninS ne_c5_b10 nin0)
  have F_c5_libraries_11 := F_c5_libraries_10.keep K11 (ninS ne_c5_b10 nin0)
  have E_c6_11 := E_c6_10.keep K11
  have F_c6_parent_11 := F_c6_parent_10.keep K11 (ninS ne_c6_b10 nin0)
  have F_c6_libraries_11 := F_c6_libraries_10.keep K11 (ninS ne_c6_b10 nin0)
  have E_c7_11 := E_c7_10.keep K11
  have F_c7_parent_11 := F_c7_parent_10.keep K11 (ninS ne_c7_b10 nin0)
  have F_c7_libraries_11 := F_c7_libraries_10.keep K11 (ninS ne_c7_b10 nin0)
  have E_b10_11 := A10.keep K11
  have Z11 : n0 ≤ T11.heap.size := Nat.le_trans Z10 K11.1
  obtain ⟨cq12, kq12, q12a, q12b, q12c⟩ := isOf hZ rfl E_b10_11
  obtain ⟨_, _, ⟨T12, L12, k12, n12⟩, -, X12, ⟨Lc12, hQ12, l12, y12, z12⟩, st12⟩ := X11.virtualBack hx (y := (⟨"com/example/roteiro/roteiro/lang/Scope", "child", "()Lcom/example/roteiro/roteiro/lang/Scope;"⟩ : MethodName)) (z := (⟨"com/example/roteiro/roteiro/lang/Scope", "child", "()Lcom/example/roteiro/roteiro/lang/Scope;"⟩ : MethodName)) hown (mvT hZ (hw _ (List.mem_of_getElem? (i := 43) rfl))) (mvT hZ (hw _ (List.mem_of_getElem? (i := 44) rfl))) (notFace_of_selects (args := #[]) (mvT hZ (hw _ (List.mem_of_getElem? (i := 46) rfl)))) (mvT hZ (hw _ (List.mem_of_getElem? (i := 46) rfl))) (mvT hZ (hw _ (List.mem_of_getElem? (i := 45) rfl))) (by decide) (backOf (W := 0) (rmCh l Z a0 hw [] b10 b1 T11.heap n0 Z11 Fl11) hZ (hw _ (List.mem_of_getElem? (i := 47) rfl)) (hw _ (List.mem_of_getElem? (i := 31) rfl)) (by decide) (by decide)) q12a q12c (g := (mkF m 130 #[.val (.int p1), .val (.int p2), .val (.ref b1), .val (.ref b3), .val (.ref c5), .val (.ref c6), .val (.ref c7), .val (.int (0 : Int32)), .val (.ref b3), .val (.ref b3), .val (.int (1 : Int32)), .val (.ref b10), .unset, .unset, .unset] [(.ref b10)])) rfl (by rw [hml]; rfl) (Steps.refl _) (argsL := []) (rest := []) (lenOf pd_0_2 rfl) rfl (by show 2 * 0 + _ ≤ _; exact Nat.le_of_eq rfl) (hb hby at_130) (fun _ _ => ⟨rfl, rfl, (by decide : 8 + 1 ≤ _), (by decide : 33 + 3 ≤ _)⟩)
  dsimp only [Pt.U, Pt.locs, Pt.cells, Pt.slots] at X12 l12 y12 z12 st12 hQ12
  subst l12 y12 z12
  obtain ⟨rfl, N12q, K12, Ev12, Fp12, Fl12⟩ := hQ12
  have N12 := Fr.app N11 N12q
  have E_b3_12 := E_b3_11.keep K12
  have F_b3_parent_12 := F_b3_parent_11.keep K12 nin0
  have F_b3_libraries_12 := F_b3_libraries_11.keep K12 nin0
  have E_c5_12 := E_c5_11.keep K12
  have F_c5_parent_12 := F_c5_parent_11.keep K12 nin0
  have F_c5_libraries_12 := F_c5_libraries_11.keep K12 nin0
  have E_c6_12 := E_c6_11.keep K12
  have F_c6_parent_12 := F_c6_parent_11.keep K12 nin0
  have F_c6_libraries_12 := F_c6_libraries_11.keep K12 nin0
  have E_c7_12 := E_c7_11.keep K12
  have F_c7_parent_12 := F_c7_parent_11.keep K12 nin0
  have F_c7_libraries_12 := F_c7_libraries_11.keep K12 nin0
  have E_b10_12 := E_b10_11.keep K12
  have F_b10_parent_12 := Fp11.keep K12 nin0
  have F_b10_libraries_12 := Fl11.keep K12 nin0
  have Z12 : n0 ≤ T12.heap.size := Nat.le_trans Z11 K12.1
  obtain ⟨c12, gc12⟩ : ∃ z, z = T11.heap.size := ⟨_, rfl⟩
  rw [← gc12] at st12 Ev12 Fp12 Fl12
  obtain ⟨cq13, kq13, q13a, q13b, q13c⟩ := isOf hZ rfl Ev12
  obtain ⟨_, _, ⟨T13, L13, k13, n13⟩, -, X13, ⟨Lc13, hQ13, l13, y13, z13⟩, st13⟩ := X12.virtualBack hx (y := (⟨"com/example/roteiro/roteiro/lang/Scope", "root", "()Lcom/example/roteiro/roteiro/lang/Scope;"⟩ : MethodName)) (z := (⟨"com/example/roteiro/roteiro/lang/Scope", "root", "()Lcom/example/roteiro/roteiro/lang/Scope;"⟩ : MethodName)) hown (mvT hZ (hw _ (List.mem_of_getElem? (i := 49) rfl))) (mvT hZ (hw _ (List.mem_of_getElem? (i := 50) rfl))) (notFace_of_selects (args := #[]) (mvT hZ (hw _ (List.mem_of_getElem? (i := 52) rfl)))) (mvT hZ (hw _ (List.mem_of_getElem? (i := 52) rfl))) (mvT hZ (hw _ (List.mem_of_getElem? (i := 51) rfl))) (by decide) (backOf (W := 0) (rmRo1 l Z a0 hw [] c12 b10 T12.heap n0 Z12 Fp12 F_b10_parent_12) hZ (hw _ (List.mem_of_getElem? (i := 53) rfl)) (hw _ (List.mem_of_getElem? (i := 31) rfl)) (by decide) (by decide)) q13a q13c (g := (mkF m 142 #[.val (.int p1), .val (.int p2), .val (.ref b1), .val (.ref b3), .val (.ref c5), .val (.ref c6), .val (.ref c7), .val (.int (0 : Int32)), .val (.ref b3), .val (.ref b3), .val (.int (1 : Int32)), .val (.ref b10), .val (.ref c12), .unset, .unset] [(.ref c12)])) rfl (by rw [hml]; rfl) (Steps.refl _) (argsL := []) (rest := []) (lenOf pd_0_2 rfl) rfl (by show 2 * 0 + _ ≤ _; exact Nat.le_of_eq rfl) (hb hby at_142) (fun _ _ => ⟨rfl, rfl, (by decide : 9 + 0 ≤ _), (by decide : 36 + 0 ≤ _)⟩)
  dsimp only [Pt.U, Pt.locs, Pt.cells, Pt.slots] at X13 l13 y13 z13 st13 hQ13
  subst l13 y13 z13
  obtain ⟨rfl, N13q, eh13⟩ := hQ13
  have N13 := Fr.app N12 N13q
  obtain ⟨fs, hr, hrun, hended, hW, hsame⟩ := X13.leave (v := some (.int (1 : Int32))) (fun h => by rw [Bd.returns] at h; cases h)
  refine ⟨_, _, pre0 _ ?_, hrun, hended, _, _, rfl, ?_, ⟨_, rfl⟩, hW, hsame.mono (by decide) (by decide)⟩
  · show Steps p.tables e below (s₁.setTop (mkF m 0 #[.val (.int p1), .val (.int p2), .unset, .unset, .unset, .unset, .unset, .unset, .unset, .unset, .unset, .unset, .unset, .unset, .unset] [])) _
    refine st1 _ ?_
    show Steps p.tables e below (T1.setTop (mkF m 3 #[.val (.int p1), .val (.int p2), .unset, .unset, .unset, .unset, .unset, .unset, .unset, .unset, .unset, .unset, .unset, .unset, .unset] [(.ref b1)])) _
    refine XS.dup X1.here hx rfl (hb hby at_3) rfl rfl ?_
    show Steps p.tables e below (T1.setTop (mkF m 4 #[.val (.int p1), .val (.int p2), .unset, .unset, .unset, .unset, .unset, .unset, .unset, .unset, .unset, .unset, .unset, .unset, .unset] [(.ref b1), (.ref b1)])) _
    refine st2.trans ?_
    show Steps p.tables e below (T2.setTop (mkF m 7 #[.val (.int p1), .val (.int p2), .unset, .unset, .unset, .unset, .unset, .unset, .unset, .unset, .unset, .unset, .unset, .unset, .unset] [(.ref b1)])) _
    refine XS.astoreN X2.here hx rfl (hb hby at_7) rfl rfl (l' := #[.val (.int p1), .val (.int p2), .val (.ref b1), .unset, .unset, .unset, .unset, .unset, .unset, .unset, .unset, .unset, .unset, .unset, .unset]) rfl ?_
    show Steps p.tables e below (T2.setTop (mkF m 8 #[.val (.int p1), .val (.int p2), .val (.ref b1), .unset, .unset, .unset, .unset, .unset, .unset, .unset, .unset, .unset, .unset, .unset, .unset] [])) _
    refine st3 _ ?_
    show Steps p.tables e below (T3.setTop (mkF m 11 #[.val (.int p1), .val (.int p2), .val (.ref b1), .unset, .unset, .unset, .unset, .unset, .unset, .unset, .unset, .unset, .unset, .unset, .unset] [(.ref b3)])) _
    refine XS.dup X3.here hx rfl (hb hby at_11) rfl rfl ?_
    show Steps p.tables e below (T3.setTop (mkF m 12 #[.val (.int p1), .val (.int p2), .val (.ref b1), .unset, .unset, .unset, .unset, .unset, .unset, .unset, .unset, .unset, .unset, .unset, .unset] [(.ref b3), (.ref b3)])) _
    refine XS.aloadN X3.here hx rfl (hb hby at_12) rfl rfl ?_
    show Steps p.tables e below (T3.setTop (mkF m 13 #[.val (.int p1), .val (.int p2), .val (.ref b1), .unset, .unset, .unset, .unset, .unset, .unset, .unset, .unset, .unset, .unset, .unset, .unset] [(.ref b1), (.ref b3), (.ref b3)])) _
    refine st4.trans ?_
    show Steps p.tables e below (T4.setTop (mkF m 16 #[.val (.int p1), .val (.int p2), .val (.ref b1), .unset, .unset, .unset, .unset, .unset, .unset, .unset, .unset, .unset, .unset, .unset, .unset] [(.ref b3)])) _
    refine XS.astoreN X4.here hx rfl (hb hby at_16) rfl rfl (l' := #[.val (.int p1), .val (.int p2), .val (.ref b1), .val (.ref b3), .unset, .unset, .unset, .unset, .unset, .unset, .unset, .unset, .unset, .unset, .unset]) rfl ?_
    show Steps p.tables e below (T4.setTop (mkF m 17 #[.val (.int p1), .val (.int p2), .val (.ref b1), .val (.ref b3), .unset, .unset, .unset, .unset, .unset, .unset, .unset, .unset, .unset, .unset, .unset] [])) _
    refine XS.aloadN X4.here hx rfl (hb hby at_17) rfl rfl ?_
    show Steps p.tables e below (T4.setTop (mkF m 18 #[.val (.int p1), .val (.int p2), .val (.ref b1), .val (.ref b3), .unset, .unset, .unset, .unset, .unset, .unset, .unset, .unset, .unset, .unset, .unset] [(.ref b3)])) _
    refine st5.trans ?_
    show Steps p.tables e below (T5.setTop (mkF m 21 #[.val (.int p1), .val (.int p2), .val (.ref b1), .val (.ref b3), .unset, .unset, .unset, .unset, .unset, .unset, .unset, .unset, .unset, .unset, .unset] [(.ref c5)])) _
    refine XS.astore X5.here hx rfl (hb hby at_21) rfl rfl (l' := #[.val (.int p1), .val (.int p2), .val (.ref b1), .val (.ref b3), .val (.ref c5), .unset, .unset, .unset, .unset, .unset, .unset, .unset, .unset, .unset, .unset]) rfl ?_
    show Steps p.tables e below (T5.setTop (mkF m 23 #[.val (.int p1), .val (.int p2), .val (.ref b1), .val (.ref b3), .val (.ref c5), .unset, .unset, .unset, .unset, .unset, .unset, .unset, .unset, .unset, .unset] [])) _
    refine XS.aload X5.here hx rfl (hb hby at_23) rfl rfl ?_
    show Steps p.tables e below (T5.setTop (mkF m 25 #[.val (.int p1), .val (.int p2), .val (.ref b1), .val (.ref b3), .val (.ref c5), .unset, .unset, .unset, .unset, .unset, .unset, .unset, .unset, .unset, .unset] [(.ref c5)])) _
    refine st6.trans ?_
    show Steps p.tables e below (T6.setTop (mkF m 28 #[.val (.int p1), .val (.int p2), .val (.ref b1), .val (.ref b3), .val (.ref c5), .unset, .unset, .unset, .unset, .unset, .unset, .unset, .unset, .unset, .unset] [(.ref c6)])) _
    refine XS.astore X6.here hx rfl (hb hby at_28) rfl rfl (l' := #[.val (.int p1), .val (.int p2), .val (.ref b1), .val (.ref b3), .val (.ref c5), .val (.ref c6), .unset, .unset, .unset, .unset, .unset, .unset, .unset, .unset, .unset]) rfl ?_
    show Steps p.tables e below (T6.setTop (mkF m 30 #[.val (.int p1), .val (.int p2), .val (.ref b1), .val (.ref b3), .val (.ref c5), .val (.ref c6), .unset, .unset, .unset, .unset, .unset, .unset, .unset, .unset, .unset] [])) _
    refine XS.aload X6.here hx rfl (hb hby at_30) rfl rfl ?_
    show Steps p.tables e below (T6.setTop (mkF m 32 #[.val (.int p1), .val (.int p2), .val (.ref b1), .val (.ref b3), .val (.ref c5), .val (.ref c6), .unset, .unset, .unset, .unset, .unset, .unset, .unset, .unset, .unset] [(.ref c6)])) _
    refine st7.trans ?_
    show Steps p.tables e below (T7.setTop (mkF m 35 #[.val (.int p1), .val (.int p2), .val (.ref b1), .val (.ref b3), .val (.ref c5), .val (.ref c6), .unset, .unset, .unset, .unset, .unset, .unset, .unset, .unset, .unset] [(.ref c7)])) _
    refine XS.astore X7.here hx rfl (hb hby at_35) rfl rfl (l' := #[.val (.int p1), .val (.int p2), .val (.ref b1), .val (.ref b3), .val (.ref c5), .val (.ref c6), .val (.ref c7), .unset, .unset, .unset, .unset, .unset, .unset, .unset, .unset]) rfl ?_
    show Steps p.tables e below (T7.setTop (mkF m 37 #[.val (.int p1), .val (.int p2), .val (.ref b1), .val (.ref b3), .val (.ref c5), .val (.ref c6), .val (.ref c7), .unset, .unset, .unset, .unset, .unset, .unset, .unset, .unset] [])) _
    refine XS.iloadN X7.here hx rfl (hb hby at_37) rfl ?_
    show Steps p.tables e below (T7.setTop (mkF m 38 #[.val (.int p1), .val (.int p2), .val (.ref b1), .val (.ref b3), .val (.ref c5), .val (.ref c6), .val (.ref c7), .unset, .unset, .unset, .unset, .unset, .unset, .unset, .unset] [(.int p1)])) _
    refine XS.iconst X7.here hx rfl (hb hby at_38) ?_
    show Steps p.tables e below (T7.setTop (mkF m 39 #[.val (.int p1), .val (.int p2), .val (.ref b1), .val (.ref b3), .val (.ref c5), .val (.ref c6), .val (.ref c7), .unset, .unset, .unset, .unset, .unset, .unset, .unset, .unset] [(.int (3 : Int32)), (.int p1)])) _
    refine XS.iand X7.here hx rfl (hb hby at_39) rfl ?_
    show Steps p.tables e below (T7.setTop (mkF m 40 #[.val (.int p1), .val (.int p2), .val (.ref b1), .val (.ref b3), .val (.ref c5), .val (.ref c6), .val (.ref c7), .unset, .unset, .unset, .unset, .unset, .unset, .unset, .unset] [(.int (p1 &&& (3 : Int32)))])) _
    rw [hd]
    show Steps p.tables e below (T7.setTop (mkF m 40 #[.val (.int p1), .val (.int p2), .val (.ref b1), .val (.ref b3), .val (.ref c5), .val (.ref c6), .val (.ref c7), .unset, .unset, .unset, .unset, .unset, .unset, .unset, .unset] [(.int (0 : Int32))])) _
    refine XS.istore X7.here hx rfl (hb hby at_40) rfl (l' := #[.val (.int p1), .val (.int p2), .val (.ref b1), .val (.ref b3), .val (.ref c5), .val (.ref c6), .val (.ref c7), .val (.int (0 : Int32)), .unset, .unset, .unset, .unset, .unset, .unset, .unset]) rfl ?_
    show Steps p.tables e below (T7.setTop (mkF m 42 #[.val (.int p1), .val (.int p2), .val (.ref b1), .val (.ref b3), .val (.ref c5), .val (.ref c6), .val (.ref c7), .val (.int (0 : Int32)), .unset, .unset, .unset, .unset, .unset, .unset, .unset] [])) _
    refine XS.iload X7.here hx rfl (hb hby at_42) rfl ?_
    show Steps p.tables e below (T7.setTop (mkF m 44 #[.val (.int p1), .val (.int p2), .val (.ref b1), .val (.ref b3), .val (.ref c5), .val (.ref c6), .val (.ref c7), .val (.int (0 : Int32)), .unset, .unset, .unset, .unset, .unset, .unset, .unset] [(.int (0 : Int32))])) _
    refine XS.ifNo X7.here hx rfl (hb hby at_44) rfl ((if0 _ _).trans (teq ((by decide) : (0 : Int32) = (0 : Int32))).2) ?_
    show Steps p.tables e below (T7.setTop (mkF m 47 #[.val (.int p1), .val (.int p2), .val (.ref b1), .val (.ref b3), .val (.ref c5), .val (.ref c6), .val (.ref c7), .val (.int (0 : Int32)), .unset, .unset, .unset, .unset, .unset, .unset, .unset] [])) _
    refine XS.aloadN X7.here hx rfl (hb hby at_47) rfl rfl ?_
    show Steps p.tables e below (T7.setTop (mkF m 48 #[.val (.int p1), .val (.int p2), .val (.ref b1), .val (.ref b3), .val (.ref c5), .val (.ref c6), .val (.ref c7), .val (.int (0 : Int32)), .unset, .unset, .unset, .unset, .unset, .unset, .unset] [(.ref b3)])) _
    refine XS.astore X7.here hx rfl (hb hby at_48) rfl rfl (l' := #[.val (.int p1), .val (.int p2), .val (.ref b1), .val (.ref b3), .val (.ref c5), .val (.ref c6), .val (.ref c7), .val (.int (0 : Int32)), .val (.ref b3), .unset, .unset, .unset, .unset, .unset, .unset]) rfl ?_
    show Steps p.tables e below (T7.setTop (mkF m 50 #[.val (.int p1), .val (.int p2), .val (.ref b1), .val (.ref b3), .val (.ref c5), .val (.ref c6), .val (.ref c7), .val (.int (0 : Int32)), .val (.ref b3), .unset, .unset, .unset, .unset, .unset, .unset] [])) _
    refine XS.goto X7.here hx rfl (pc0 := 50) (pc' := 83) rfl (hb hby at_50) (by decide) (by decide) ?_
    show Steps p.tables e below (T7.setTop (mkF m 83 #[.val (.int p1), .val (.int p2), .val (.ref b1), .val (.ref b3), .val (.ref c5), .val (.ref c6), .val (.ref c7), .val (.int (0 : Int32)), .val (.ref b3), .unset, .unset, .unset, .unset, .unset, .unset] [])) _
    refine XS.aload X7.here hx rfl (hb hby at_83) rfl rfl ?_
    show Steps p.tables e below (T7.setTop (mkF m 85 #[.val (.int p1), .val (.int p2), .val (.ref b1), .val (.ref b3), .val (.ref c5), .val (.ref c6), .val (.ref c7), .val (.int (0 : Int32)), .val (.ref b3), .unset, .unset, .unset, .unset, .unset, .unset] [(.ref b3)])) _
    refine st8.trans ?_
    show Steps p.tables e below (T8.setTop (mkF m 88 #[.val (.int p1), .val (.int p2), .val (.ref b1), .val (.ref b3), .val (.ref c5), .val (.ref c6), .val (.ref c7), .val (.int (0 : Int32)), .val (.ref b3), .unset, .unset, .unset, .unset, .unset, .unset] [(.ref b3)])) _
    refine XS.astore X8.here hx rfl (hb hby at_88) rfl rfl (l' := #[.val (.int p1), .val (.int p2), .val (.ref b1), .val (.ref b3), .val (.ref c5), .val (.ref c6), .val (.ref c7), .val (.int (0 : Int32)), .val (.ref b3), .val (.ref b3), .unset, .unset, .unset, .unset, .unset]) rfl ?_
    show Steps p.tables e below (T8.setTop (mkF m 90 #[.val (.int p1), .val (.int p2), .val (.ref b1), .val (.ref b3), .val (.ref c5), .val (.ref c6), .val (.ref c7), .val (.int (0 : Int32)), .val (.ref b3), .val (.ref b3), .unset, .unset, .unset, .unset, .unset] [])) _
    refine XS.aload X8.here hx rfl (hb hby at_90) rfl rfl ?_
    show Steps p.tables e below (T8.setTop (mkF m 92 #[.val (.int p1), .val (.int p2), .val (.ref b1), .val (.ref b3), .val (.ref c5), .val (.ref c6), .val (.ref c7), .val (.int (0 : Int32)), .val (.ref b3), .val (.ref b3), .unset, .unset, .unset, .unset, .unset] [(.ref b3)])) _
    refine XS.aloadN X8.here hx rfl (hb hby at_92) rfl rfl ?_
    show Steps p.tables e below (T8.setTop (mkF m 93 #[.val (.int p1), .val (.int p2), .val (.ref b1), .val (.ref b3), .val (.ref c5), .val (.ref c6), .val (.ref c7), .val (.int (0 : Int32)), .val (.ref b3), .val (.ref b3), .unset, .unset, .unset, .unset, .unset] [(.ref b3), (.ref b3)])) _
    refine Jvm.RoadKit.acmp (g := (mkF m 93 #[.val (.int p1), .val (.int p2), .val (.ref b1), .val (.ref b3), .val (.ref c5), .val (.ref c6), .val (.ref c7), .val (.int (0 : Int32)), .val (.ref b3), .val (.ref b3), .unset, .unset, .unset, .unset, .unset] [(.ref b3), (.ref b3)])) X8 hx rfl rfl rfl (pc0 := 93) (pc' := 96) (same := true) rfl (hb hby at_93) rfl (decide_eq_true rfl) (by decide) (by decide) ?_
    show Steps p.tables e below (T8.setTop (mkF m 96 #[.val (.int p1), .val (.int p2), .val (.ref b1), .val (.ref b3), .val (.ref c5), .val (.ref c6), .val (.ref c7), .val (.int (0 : Int32)), .val (.ref b3), .val (.ref b3), .unset, .unset, .unset, .unset, .unset] [])) _
    refine XS.aload X8.here hx rfl (hb hby at_96) rfl rfl ?_
    show Steps p.tables e below (T8.setTop (mkF m 98 #[.val (.int p1), .val (.int p2), .val (.ref b1), .val (.ref b3), .val (.ref c5), .val (.ref c6), .val (.ref c7), .val (.int (0 : Int32)), .val (.ref b3), .val (.ref b3), .unset, .unset, .unset, .unset, .unset] [(.ref b3)])) _
    refine st9.trans ?_
    show Steps p.tables e below (T9.setTop (mkF m 101 #[.val (.int p1), .val (.int p2), .val (.ref b1), .val (.ref b3), .val (.ref c5), .val (.ref c6), .val (.ref c7), .val (.int (0 : Int32)), .val (.ref b3), .val (.ref b3), .unset, .unset, .unset, .unset, .unset] [(.ref b3)])) _
    refine XS.aloadN X9.here hx rfl (hb hby at_101) rfl rfl ?_
    show Steps p.tables e below (T9.setTop (mkF m 102 #[.val (.int p1), .val (.int p2), .val (.ref b1), .val (.ref b3), .val (.ref c5), .val (.ref c6), .val (.ref c7), .val (.int (0 : Int32)), .val (.ref b3), .val (.ref b3), .unset, .unset, .unset, .unset, .unset] [(.ref b3), (.ref b3)])) _
    refine Jvm.RoadKit.acmp (g := (mkF m 102 #[.val (.int p1), .val (.int p2), .val (.ref b1), .val (.ref b3), .val (.ref c5), .val (.ref c6), .val (.ref c7), .val (.int (0 : Int32)), .val (.ref b3), .val (.ref b3), .unset, .unset, .unset, .unset, .unset] [(.ref b3), (.ref b3)])) X9 hx rfl rfl rfl (pc0 := 102) (pc' := 105) (same := true) rfl (hb hby at_102) rfl (decide_eq_true rfl) (by decide) (by decide) ?_
    show Steps p.tables e below (T9.setTop (mkF m 105 #[.val (.int p1), .val (.int p2), .val (.ref b1), .val (.ref b3), .val (.ref c5), .val (.ref c6), .val (.ref c7), .val (.int (0 : Int32)), .val (.ref b3), .val (.ref b3), .unset, .unset, .unset, .unset, .unset] [])) _
    refine XS.iconst X9.here hx rfl (hb hby at_105) ?_
    show Steps p.tables e below (T9.setTop (mkF m 106 #[.val (.int p1), .val (.int p2), .val (.ref b1), .val (.ref b3), .val (.ref c5), .val (.ref c6), .val (.ref c7), .val (.int (0 : Int32)), .val (.ref b3), .val (.ref b3), .unset, .unset, .unset, .unset, .unset] [(.int (1 : Int32))])) _
    refine XS.goto X9.here hx rfl (pc0 := 106) (pc' := 110) rfl (hb hby at_106) (by decide) (by decide) ?_
    show Steps p.tables e below (T9.setTop (mkF m 110 #[.val (.int p1), .val (.int p2), .val (.ref b1), .val (.ref b3), .val (.ref c5), .val (.ref c6), .val (.ref c7), .val (.int (0 : Int32)), .val (.ref b3), .val (.ref b3), .unset, .unset, .unset, .unset, .unset] [(.int (1 : Int32))])) _
    refine XS.istore X9.here hx rfl (hb hby at_110) rfl (l' := #[.val (.int p1), .val (.int p2), .val (.ref b1), .val (.ref b3), .val (.ref c5), .val (.ref c6), .val (.ref c7), .val (.int (0 : Int32)), .val (.ref b3), .val (.ref b3), .val (.int (1 : Int32)), .unset, .unset, .unset, .unset]) rfl ?_
    show Steps p.tables e below (T9.setTop (mkF m 112 #[.val (.int p1), .val (.int p2), .val (.ref b1), .val (.ref b3), .val (.ref c5), .val (.ref c6), .val (.ref c7), .val (.int (0 : Int32)), .val (.ref b3), .val (.ref b3), .val (.int (1 : Int32)), .unset, .unset, .unset, .unset] [])) _
    refine st10 _ ?_
    show Steps p.tables e below (T10.setTop (mkF m 115 #[.val (.int p1), .val (.int p2), .val (.ref b1), .val (.ref b3), .val (.ref c5), .val (.ref c6), .val (.ref c7), .val (.int (0 : Int32)), .val (.ref b3), .val (.ref b3), .val (.int (1 : Int32)), .unset, .unset, .unset, .unset] [(.ref b10)])) _
    refine XS.dup X10.here hx rfl (hb hby at_115) rfl rfl ?_
    show Steps p.tables e below (T10.setTop (mkF m 116 #[.val (.int p1), .val (.int p2), .val (.ref b1), .val (.ref b3), .val (.ref c5), .val (.ref c6), .val (.ref c7), .val (.int (0 : Int32)), .val (.ref b3), .val (.ref b3), .val (.int (1 : Int32)), .unset, .unset, .unset, .unset] [(.ref b10), (.ref b10)])) _
    refine XS.aloadN X10.here hx rfl (hb hby at_116) rfl rfl ?_
    show Steps p.tables e below (T10.setTop (mkF m 117 #[.val (.int p1), .val (.int p2), .val (.ref b1), .val (.ref b3), .val (.ref c5), .val (.ref c6), .val (.ref c7), .val (.int (0 : Int32)), .val (.ref b3), .val (.ref b3), .val (.int (1 : Int32)), .unset, .unset, .unset, .unset] [(.ref b1), (.ref b10), (.ref b10)])) _
    refine st11.trans ?_
    show Steps p.tables e below (T11.setTop (mkF m 120 #[.val (.int p1), .val (.int p2), .val (.ref b1), .val (.ref b3), .val (.ref c5), .val (.ref c6), .val (.ref c7), .val (.int (0 : Int32)), .val (.ref b3), .val (.ref b3), .val (.int (1 : Int32)), .unset, .unset, .unset, .unset] [(.ref b10)])) _
    refine XS.astore X11.here hx rfl (hb hby at_120) rfl rfl (l' := #[.val (.int p1), .val (.int p2), .val (.ref b1), .val (.ref b3), .val (.ref c5), .val (.ref c6), .val (.ref c7), .val (.int (0 : Int32)), .val (.ref b3), .val (.ref b3), .val (.int (1 : Int32)), .val (.ref b10), .unset, .unset, .unset]) rfl ?_
    show Steps p.tables e below (T11.setTop (mkF m 122 #[.val (.int p1), .val (.int p2), .val (.ref b1), .val (.ref b3), .val (.ref c5), .val (.ref c6), .val (.ref c7), .val (.int (0 : Int32)), .val (.ref b3), .val (.ref b3), .val (.int (1 : Int32)), .val (.ref b10), .unset, .unset, .unset] [])) _
    refine XS.iloadN X11.here hx rfl (hb hby at_122) rfl ?_
    show Steps p.tables e below (T11.setTop (mkF m 123 #[.val (.int p1), .val (.int p2), .val (.ref b1), .val (.ref b3), .val (.ref c5), .val (.ref c6), .val (.ref c7), .val (.int (0 : Int32)), .val (.ref b3), .val (.ref b3), .val (.int (1 : Int32)), .val (.ref b10), .unset, .unset, .unset] [(.int p2)])) _
    refine XS.iconst X11.here hx rfl (hb hby at_123) ?_
    show Steps p.tables e below (T11.setTop (mkF m 124 #[.val (.int p1), .val (.int p2), .val (.ref b1), .val (.ref b3), .val (.ref c5), .val (.ref c6), .val (.ref c7), .val (.int (0 : Int32)), .val (.ref b3), .val (.ref b3), .val (.int (1 : Int32)), .val (.ref b10), .unset, .unset, .unset] [(.int (1 : Int32)), (.int p2)])) _
    refine XS.iand X11.here hx rfl (hb hby at_124) rfl ?_
    show Steps p.tables e below (T11.setTop (mkF m 125 #[.val (.int p1), .val (.int p2), .val (.ref b1), .val (.ref b3), .val (.ref c5), .val (.ref c6), .val (.ref c7), .val (.int (0 : Int32)), .val (.ref b3), .val (.ref b3), .val (.int (1 : Int32)), .val (.ref b10), .unset, .unset, .unset] [(.int (p2 &&& (1 : Int32)))])) _
    refine XS.ifNo X11.here hx rfl (hb hby at_125) rfl ((if0 _ _).trans (feq (hc125 : ¬ ((p2 &&& (1 : Int32)) = (0 : Int32)))).1) ?_
    show Steps p.tables e below (T11.setTop (mkF m 128 #[.val (.int p1), .val (.int p2), .val (.ref b1), .val (.ref b3), .val (.ref c5), .val (.ref c6), .val (.ref c7), .val (.int (0 : Int32)), .val (.ref b3), .val (.ref b3), .val (.int (1 : Int32)), .val (.ref b10), .unset, .unset, .unset] [])) _
    refine XS.aload X11.here hx rfl (hb hby at_128) rfl rfl ?_
    show Steps p.tables e below (T11.setTop (mkF m 130 #[.val (.int p1), .val (.int p2), .val (.ref b1), .val (.ref b3), .val (.ref c5), .val (.ref c6), .val (.ref c7), .val (.int (0 : Int32)), .val (.ref b3), .val (.ref b3), .val (.int (1 : Int32)), .val (.ref b10), .unset, .unset, .unset] [(.ref b10)])) _
    refine st12.trans ?_
    show Steps p.tables e below (T12.setTop (mkF m 133 #[.val (.int p1), .val (.int p2), .val (.ref b1), .val (.ref b3), .val (.ref c5), .val (.ref c6), .val (.ref c7), .val (.int (0 : Int32)), .val (.ref b3), .val (.ref b3), .val (.int (1 : Int32)), .val (.ref b10), .unset, .unset, .unset] [(.ref c12)])) _
    refine XS.goto X12.here hx rfl (pc0 := 133) (pc' := 138) rfl (hb hby at_133) (by decide) (by decide) ?_
    show Steps p.tables e below (T12.setTop (mkF m 138 #[.val (.int p1), .val (.int p2), .val (.ref b1), .val (.ref b3), .val (.ref c5), .val (.ref c6), .val (.ref c7), .val (.int (0 : Int32)), .val (.ref b3), .val (.ref b3), .val (.int (1 : Int32)), .val (.ref b10), .unset, .unset, .unset] [(.ref c12)])) _
    refine XS.astore X12.here hx rfl (hb hby at_138) rfl rfl (l' := #[.val (.int p1), .val (.int p2), .val (.ref b1), .val (.ref b3), .val (.ref c5), .val (.ref c6), .val (.ref c7), .val (.int (0 : Int32)), .val (.ref b3), .val (.ref b3), .val (.int (1 : Int32)), .val (.ref b10), .val (.ref c12), .unset, .unset]) rfl ?_
    show Steps p.tables e below (T12.setTop (mkF m 140 #[.val (.int p1), .val (.int p2), .val (.ref b1), .val (.ref b3), .val (.ref c5), .val (.ref c6), .val (.ref c7), .val (.int (0 : Int32)), .val (.ref b3), .val (.ref b3), .val (.int (1 : Int32)), .val (.ref b10), .val (.ref c12), .unset, .unset] [])) _
    refine XS.aload X12.here hx rfl (hb hby at_140) rfl rfl ?_
    show Steps p.tables e below (T12.setTop (mkF m 142 #[.val (.int p1), .val (.int p2), .val (.ref b1), .val (.ref b3), .val (.ref c5), .val (.ref c6), .val (.ref c7), .val (.int (0 : Int32)), .val (.ref b3), .val (.ref b3), .val (.int (1 : Int32)), .val (.ref b10), .val (.ref c12), .unset, .unset] [(.ref c12)])) _
    refine st13.trans ?_
    show Steps p.tables e below (T13.setTop (mkF m 145 #[.val (.int p1), .val (.int p2), .val (.ref b1), .val (.ref b3), .val (.ref c5), .val (.ref c6), .val (.ref c7), .val (.int (0 : Int32)), .val (.ref b3), .val (.ref b3), .val (.int (1 : Int32)), .val (.ref b10), .val (.ref c12), .unset, .unset] [(.ref b10)])) _
    refine XS.astore X13.here hx rfl (hb hby at_145) rfl rfl (l' := #[.val (.int p1), .val (.int p2), .val (.ref b1), .val (.ref b3), .val (.ref c5), .val (.ref c6), .val (.ref c7), .val (.int (0 : Int32)), .val (.ref b3), .val (.ref b3), .val (.int (1 : Int32)), .val (.ref b10), .val (.ref c12), .val (.ref b10), .unset]) rfl ?_
    show Steps p.tables e below (T13.setTop (mkF m 147 #[.val (.int p1), .val (.int p2), .val (.ref b1), .val (.ref b3), .val (.ref c5), .val (.ref c6), .val (.ref c7), .val (.int (0 : Int32)), .val (.ref b3), .val (.ref b3), .val (.int (1 : Int32)), .val (.ref b10), .val (.ref c12), .val (.ref b10), .unset] [])) _
    refine XS.aload X13.here hx rfl (hb hby at_147) rfl rfl ?_
    show Steps p.tables e below (T13.setTop (mkF m 149 #[.val (.int p1), .val (.int p2), .val (.ref b1), .val (.ref b3), .val (.ref c5), .val (.ref c6), .val (.ref c7), .val (.int (0 : Int32)), .val (.ref b3), .val (.ref b3), .val (.int (1 : Int32)), .val (.ref b10), .val (.ref c12), .val (.ref b10), .unset] [(.ref b10)])) _
    refine XS.aload X13.here hx rfl (hb hby at_149) rfl rfl ?_
    show Steps p.tables e below (T13.setTop (mkF m 151 #[.val (.int p1), .val (.int p2), .val (.ref b1), .val (.ref b3), .val (.ref c5), .val (.ref c6), .val (.ref c7), .val (.int (0 : Int32)), .val (.ref b3), .val (.ref b3), .val (.int (1 : Int32)), .val (.ref b10), .val (.ref c12), .val (.ref b10), .unset] [(.ref b10), (.ref b10)])) _
    refine Jvm.RoadKit.acmp (g := (mkF m 151 #[.val (.int p1), .val (.int p2), .val (.ref b1), .val (.ref b3), .val (.ref c5), .val (.ref c6), .val (.ref c7), .val (.int (0 : Int32)), .val (.ref b3), .val (.ref b3), .val (.int (1 : Int32)), .val (.ref b10), .val (.ref c12), .val (.ref b10), .unset] [(.ref b10), (.ref b10)])) X13 hx rfl rfl rfl (pc0 := 151) (pc' := 154) (same := true) rfl (hb hby at_151) rfl (decide_eq_true rfl) (by decide) (by decide) ?_
    show Steps p.tables e below (T13.setTop (mkF m 154 #[.val (.int p1), .val (.int p2), .val (.ref b1), .val (.ref b3), .val (.ref c5), .val (.ref c6), .val (.ref c7), .val (.int (0 : Int32)), .val (.ref b3), .val (.ref b3), .val (.int (1 : Int32)), .val (.ref b10), .val (.ref c12), .val (.ref b10), .unset] [])) _
    refine XS.aload X13.here hx rfl (hb hby at_154) rfl rfl ?_
    show Steps p.tables e below (T13.setTop (mkF m 156 #[.val (.int p1), .val (.int p2), .val (.ref b1), .val (.ref b3), .val (.ref c5), .val (.ref c6), .val (.ref c7), .val (.int (0 : Int32)), .val (.ref b3), .val (.ref b3), .val (.int (1 : Int32)), .val (.ref b10), .val (.ref c12), .val (.ref b10), .unset] [(.ref b10)])) _
    refine XS.aloadN X13.here hx rfl (hb hby at_156) rfl rfl ?_
    show Steps p.tables e below (T13.setTop (mkF m 157 #[.val (.int p1), .val (.int p2), .val (.ref b1), .val (.ref b3), .val (.ref c5), .val (.ref c6), .val (.ref c7), .val (.int (0 : Int32)), .val (.ref b3), .val (.ref b3), .val (.int (1 : Int32)), .val (.ref b10), .val (.ref c12), .val (.ref b10), .unset] [(.ref b3), (.ref b10)])) _
    refine Jvm.RoadKit.acmp (g := (mkF m 157 #[.val (.int p1), .val (.int p2), .val (.ref b1), .val (.ref b3), .val (.ref c5), .val (.ref c6), .val (.ref c7), .val (.int (0 : Int32)), .val (.ref b3), .val (.ref b3), .val (.int (1 : Int32)), .val (.ref b10), .val (.ref c12), .val (.ref b10), .unset] [(.ref b3), (.ref b10)])) X13 hx rfl rfl rfl (pc0 := 157) (pc' := 160) (same := false) rfl (hb hby at_157) rfl (decide_eq_false fun q => absurd (Value.ref.inj q) (Ne.symm ne_b3_b10)) (by decide) (by decide) ?_
    show Steps p.tables e below (T13.setTop (mkF m 160 #[.val (.int p1), .val (.int p2), .val (.ref b1), .val (.ref b3), .val (.ref c5), .val (.ref c6), .val (.ref c7), .val (.int (0 : Int32)), .val (.ref b3), .val (.ref b3), .val (.int (1 : Int32)), .val (.ref b10), .val (.ref c12), .val (.ref b10), .unset] [])) _
    refine XS.iconst X13.here hx rfl (hb hby at_160) ?_
    show Steps p.tables e below (T13.setTop (mkF m 161 #[.val (.int p1), .val (.int p2), .val (.ref b1), .val (.ref b3), .val (.ref c5), .val (.ref c6), .val (.ref c7), .val (.int (0 : Int32)), .val (.ref b3), .val (.ref b3), .val (.int (1 : Int32)), .val (.ref b10), .val (.ref c12), .val (.ref b10), .unset] [(.int (1 : Int32))])) _
    refine XS.goto X13.here hx rfl (pc0 := 161) (pc' := 165) rfl (hb hby at_161) (by decide) (by decide) ?_
    show Steps p.tables e below (T13.setTop (mkF m 165 #[.val (.int p1), .val (.int p2), .val (.ref b1), .val (.ref b3), .val (.ref c5), .val (.ref c6), .val (.ref c7), .val (.int (0 : Int32)), .val (.ref b3), .val (.ref b3), .val (.int (1 : Int32)), .val (.ref b10), .val (.ref c12), .val (.ref b10), .unset] [(.int (1 : Int32))])) _
    refine XS.istore X13.here hx rfl (hb hby at_165) rfl (l' := #[.val (.int p1), .val (.int p2), .val (.ref b1), .val (.ref b3), .val (.ref c5), .val (.ref c6), .val (.ref c7), .val (.int (0 : Int32)), .val (.ref b3), .val (.ref b3), .val (.int (1 : Int32)), .val (.ref b10), .val (.ref c12), .val (.ref b10), .val (.int (1 : Int32))]) rfl ?_
    show Steps p.tables e below (T13.setTop (mkF m 167 #[.val (.int p1), .val (.int p2), .val (.ref b1), .val (.ref b3), .val (.ref c5), .val (.ref c6), .val (.ref c7), .val (.int (0 : Int32)), .val (.ref b3), .val (.ref b3), .val (.int (1 : Int32)), .val (.ref b10), .val (.ref c12), .val (.ref b10), .val (.int (1 : Int32))] [])) _
    refine XS.iload X13.here hx rfl (hb hby at_167) rfl ?_
    show Steps p.tables e below (T13.setTop (mkF m 169 #[.val (.int p1), .val (.int p2), .val (.ref b1), .val (.ref b3), .val (.ref c5), .val (.ref c6), .val (.ref c7), .val (.int (0 : Int32)), .val (.ref b3), .val (.ref b3), .val (.int (1 : Int32)), .val (.ref b10), .val (.ref c12), .val (.ref b10), .val (.int (1 : Int32))] [(.int (1 : Int32))])) _
    refine XS.ifNo X13.here hx rfl (hb hby at_169) rfl ((if0 _ _).trans (feq ((by decide) : ¬ ((1 : Int32) = (0 : Int32)))).1) ?_
    show Steps p.tables e below (T13.setTop (mkF m 172 #[.val (.int p1), .val (.int p2), .val (.ref b1), .val (.ref b3), .val (.ref c5), .val (.ref c6), .val (.ref c7), .val (.int (0 : Int32)), .val (.ref b3), .val (.ref b3), .val (.int (1 : Int32)), .val (.ref b10), .val (.ref c12), .val (.ref b10), .val (.int (1 : Int32))] [])) _
    refine XS.iload X13.here hx rfl (hb hby at_172) rfl ?_
    show Steps p.tables e below (T13.setTop (mkF m 174 #[.val (.int p1), .val (.int p2), .val (.ref b1), .val (.ref b3), .val (.ref c5), .val (.ref c6), .val (.ref c7), .val (.int (0 : Int32)), .val (.ref b3), .val (.ref b3), .val (.int (1 : Int32)), .val (.ref b10), .val (.ref c12), .val (.ref b10), .val (.int (1 : Int32))] [(.int (1 : Int32))])) _
    refine XS.ifNo X13.here hx rfl (hb hby at_174) rfl ((if0 _ _).trans (feq ((by decide) : ¬ ((1 : Int32) = (0 : Int32)))).1) ?_
    show Steps p.tables e below (T13.setTop (mkF m 177 #[.val (.int p1), .val (.int p2), .val (.ref b1), .val (.ref b3), .val (.ref c5), .val (.ref c6), .val (.ref c7), .val (.int (0 : Int32)), .val (.ref b3), .val (.ref b3), .val (.int (1 : Int32)), .val (.ref b10), .val (.ref c12), .val (.ref b10), .val (.int (1 : Int32))] [])) _
    refine XS.iconst X13.here hx rfl (hb hby at_177) ?_
    show Steps p.tables e below (T13.setTop (mkF m 178 #[.val (.int p1), .val (.int p2), .val (.ref b1), .val (.ref b3), .val (.ref c5), .val (.ref c6), .val (.ref c7), .val (.int (0 : Int32)), .val (.ref b3), .val (.ref b3), .val (.int (1 : Int32)), .val (.ref b10), .val (.ref c12), .val (.ref b10), .val (.int (1 : Int32))] [(.int (1 : Int32))])) _
    refine XS.goto X13.here hx rfl (pc0 := 178) (pc' := 182) rfl (hb hby at_178) (by decide) (by decide) ?_
    show Steps p.tables e below (T13.setTop (mkF m 182 #[.val (.int p1), .val (.int p2), .val (.ref b1), .val (.ref b3), .val (.ref c5), .val (.ref c6), .val (.ref c7), .val (.int (0 : Int32)), .val (.ref b3), .val (.ref b3), .val (.int (1 : Int32)), .val (.ref b10), .val (.ref c12), .val (.ref b10), .val (.int (1 : Int32))] [(.int (1 : Int32))])) _
    exact retN X13 hx (t := .boolean) Bd.returns (by simp) (hb hby at_182) hr
  · show Q0 Z p1 p2 h0 n0 _ T13.heap _
    rw [eh13]
    exact ⟨rfl, N13⟩
set_option maxRecDepth 65536 in
set_option maxHeartbeats 40000000 in
theorem rm0_1t (l : Launch) (Z : State) (a0 : Array Value) (hw : ∀ d ∈ tables_1, d.before a0 Z = true) (ws : List Jvm.Cond) (p1 p2 : Int32) (h0 : Heap) (n0 : Nat) (Z0 : n0 ≤ h0.size) (hd : (p1 &&& (3 : Int32)) = (1 : Int32)) (hc125 : (p2 &&& (1 : Int32)) = (0 : Int32)) :
    MetFree l x (head1 (Jvm.Cond.code x code maxLocals ret :: ws) room_1) (fun a U => a = #[(.int p1), (.int p2)] ∧ Z.Warmed39 U.vm ∧ U.heap = h0) (fun _ _ _ _ _ => True) (fun _ U o U' => ∃ v L, o = .returned v ∧ Q0 Z p1 p2 h0 n0 v U'.heap L ∧ FrameEnd U o U' L room_1.cells room_1.slots) := by
  refine MetFree.of_bodySF (plainFor_of_name pn_0) hisR ?_
  intro p e s m args below meth c s₁ Bd hml0 hP hK
  obtain ⟨rfl, hZ, hh⟩ := hP
  have hx := Bd.exec
  have hby := Bd.bytes
  have hml : c.maxLocals = 15 := hml0
  have hown : s.vm.findClass "com/example/roteiro/roteiro/lang/ScopeRootPinLaw" = some m.cls := findClass_of_methodNamed Bd.named
  have hnm := (name_of_methodNamed Bd.named Bd.method).1
  have X0 : Stand p l e room_1 s m #[(.int p1), (.int p2)] below meth c s₁ [] 0 0 := Stand.of_body Bd
  have e0 : s₁.heap = h0 := by rw [← hh, Bd.state]; rfl
  have N0 := Fr.nil n0
  have pre0 : ∀ t, Steps p.tables e below (s₁.setTop (mkF m 0 #[.val (.int p1), .val (.int p2), .unset, .unset, .unset, .unset, .unset, .unset, .unset, .unset, .unset, .unset, .unset, .unset, .unset] [])) t → Steps p.tables e below (s₁.setTop (entryFrame m #[(.int p1), (.int p2)] maxLocals)) t := fun t k => castTop (ef_0 m p1 p2) k
  obtain ⟨T1, h1, X1, e1, E1, A1, D1, -, st1⟩ := newO X0 hx hZ hown (hw _ (List.mem_of_getElem? (i := 0) rfl)) (hw _ (List.mem_of_getElem? (i := 1) rfl)) (hw _ (List.mem_of_getElem? (i := 2) rfl)) e0 (g := (mkF m 0 #[.val (.int p1), .val (.int p2), .unset, .unset, .unset, .unset, .unset, .unset, .unset, .unset, .unset, .unset, .unset, .unset, .unset] [])) rfl (hb hby at_0) (by decide) (by decide)
  obtain ⟨b1, g1⟩ : ∃ z, z = h0.size := ⟨_, rfl⟩
  rw [← g1] at A1 D1 st1
  have gb1 : n0 ≤ b1 := Nat.le_trans Z0 (Nat.le_of_eq g1.symm)
  have Z1 : n0 ≤ h1.size := Nat.le_trans Z0 E1.1
  have F_b1_elements_1 : Fld Z h1 b1 "com/example/roteiro/roteiro/lang/Libraries" "elements" "Ljava/util/Map;" .null := D1 (Or.inr (hw _ (List.mem_of_getElem? (i := 26) rfl))) (ty := (.object "java/util/Map")) (by decide)
  have F_b1_bareNames_1 : Fld Z h1 b1 "com/example/roteiro/roteiro/lang/Libraries" "bareNames" "Ljava/util/Map;" .null := D1 (Or.inr (hw _ (List.mem_of_getElem? (i := 28) rfl))) (ty := (.object "java/util/Map")) (by decide)
  obtain ⟨_, _, ⟨T2, L2, k2, n2⟩, -, X2, ⟨Lc2, hQ2, l2, y2, z2⟩, st2⟩ := X1.specialBack hx (y := (⟨"com/example/roteiro/roteiro/lang/Libraries", "<init>", "()V"⟩ : MethodName)) rfl hown (mvT hZ (hw _ (List.mem_of_getElem? (i := 3) rfl))) (mvT hZ (hw _ (List.mem_of_getElem? (i := 4) rfl))) (mvT hZ (hw _ (List.mem_of_getElem? (i := 5) rfl))) (by decide) (backOf (W := 1) (rmLb l Z a0 hw [] b1 _ _ h1 n0 Z1 A1 F_b1_elements_1 F_b1_bareNames_1 gb1) hZ (hw _ (List.mem_of_getElem? (i := 5) rfl)) (hw _ (List.mem_of_getElem? (i := 2) rfl)) (by decide) (by decide)) (g := (mkF m 4 #[.val (.int p1), .val (.int p2), .unset, .unset, .unset, .unset, .unset, .unset, .unset, .unset, .unset, .unset, .unset, .unset, .unset] [(.ref b1), (.ref b1)])) rfl (by rw [hml]; rfl) (Steps.refl _) (a := b1) (argsL := []) (rest := [(.ref b1)]) (lenOf pd_0_0 rfl) rfl (by show 2 * 0 + _ ≤ _; exact Nat.le_of_eq rfl) (hb hby at_4) (fun _ _ => ⟨rfl, e1, (by decide : 1 + 2 ≤ _), (by decide : 2 + 16 ≤ _)⟩)
  dsimp only [Pt.U, Pt.locs, Pt.cells, Pt.slots] at X2 l2 y2 z2 st2 hQ2
  subst l2 y2 z2
  obtain ⟨rfl, N2q, K2⟩ := hQ2
  have N2 := Fr.app N0 N2q
  have E_b1_2 := A1.keep K2
  have Z2 : n0 ≤ T2.heap.size := Nat.le_trans Z1 K2.1
  obtain ⟨T3, h3, X3, e3, E3, A3, D3, -, st3⟩ := newO X2 hx hZ hown (hw _ (List.mem_of_getElem? (i := 29) rfl)) (hw _ (List.mem_of_getElem? (i := 30) rfl)) (hw _ (List.mem_of_getElem? (i := 31) rfl)) rfl (g := (mkF m 8 #[.val (.int p1), .val (.int p2), .val (.ref b1), .unset, .unset, .unset, .unset, .unset, .unset, .unset, .unset, .unset, .unset, .unset, .unset] [])) rfl (hb hby at_8) (by decide) (by decide)
  obtain ⟨b3, g3⟩ : ∃ z, z = T2.heap.size := ⟨_, rfl⟩
  rw [← g3] at A3 D3 st3
  have gb3 : n0 ≤ b3 := Nat.le_trans Z2 (Nat.le_of_eq g3.symm)
  have Z3 : n0 ≤ h3.size := Nat.le_trans Z2 E3.1
  have F_b3_parent_3 : Fld Z h3 b3 "com/example/roteiro/roteiro/lang/Scope" "parent" "Lcom/example/roteiro/roteiro/lang/Scope;" .null := D3 (Or.inr (hw _ (List.mem_of_getElem? (i := 40) rfl))) (ty := (.object "com/example/roteiro/roteiro/lang/Scope")) (by decide)
  have F_b3_libraries_3 : Fld Z h3 b3 "com/example/roteiro/roteiro/lang/Scope" "libraries" "Lcom/example/roteiro/roteiro/lang/Libraries;" .null := D3 (Or.inr (hw _ (List.mem_of_getElem? (i := 42) rfl))) (ty := (.object "com/example/roteiro/roteiro/lang/Libraries")) (by decide)
  obtain ⟨_, _, ⟨T4, L4, k4, n4⟩, -, X4, ⟨Lc4, hQ4, l4, y4, z4⟩, st4⟩ := X3.specialBack hx (y := (⟨"com/example/roteiro/roteiro/lang/Scope", "<init>", "(Lcom/example/roteiro/roteiro/lang/Libraries;)V"⟩ : MethodName)) rfl hown (mvT hZ (hw _ (List.mem_of_getElem? (i := 32) rfl))) (mvT hZ (hw _ (List.mem_of_getElem? (i := 33) rfl))) (mvT hZ (hw _ (List.mem_of_getElem? (i := 34) rfl))) (by decide) (backOf (W := 1) (rmI1 l Z a0 hw [] b3 b1 _ _ h3 n0 Z3 A3 F_b3_parent_3 F_b3_libraries_3 gb3) hZ (hw _ (List.mem_of_getElem? (i := 34) rfl)) (hw _ (List.mem_of_getElem? (i := 31) rfl)) (by decide) (by decide)) (g := (mkF m 13 #[.val (.int p1), .val (.int p2), .val (.ref b1), .unset, .unset, .unset, .unset, .unset, .unset, .unset, .unset, .unset, .unset, .unset, .unset] [(.ref b1), (.ref b3), (.ref b3)])) rfl (by rw [hml]; rfl) (Steps.refl _) (a := b3) (argsL := [(.ref b1)]) (rest := [(.ref b3)]) (lenOf pd_0_1 rfl) rfl (by show 2 * 0 + _ ≤ _; exact Nat.le_of_eq rfl) (hb hby at_13) (fun _ _ => ⟨rfl, e3, (by decide : 4 + 0 ≤ _), (by decide : 21 + 0 ≤ _)⟩)
  dsimp only [Pt.U, Pt.locs, Pt.cells, Pt.slots] at X4 l4 y4 z4 st4 hQ4
  subst l4 y4 z4
  obtain ⟨rfl, N4q, K4, Fp4, Fl4⟩ := hQ4
  have N4 := Fr.app N2 N4q
  have E_b3_4 := A3.keep K4
  have Z4 : n0 ≤ T4.heap.size := Nat.le_trans Z3 K4.1
  obtain ⟨cq5, kq5, q5a, q5b, q5c⟩ := isOf hZ rfl E_b3_4
  obtain ⟨_, _, ⟨T5, L5, k5, n5⟩, -, X5, ⟨Lc5, hQ5, l5, y5, z5⟩, st5⟩ := X4.virtualBack hx (y := (⟨"com/example/roteiro/roteiro/lang/Scope", "child", "()Lcom/example/roteiro/roteiro/lang/Scope;"⟩ : MethodName)) (z := (⟨"com/example/roteiro/roteiro/lang/Scope", "child", "()Lcom/example/roteiro/roteiro/lang/Scope;"⟩ : MethodName)) hown (mvT hZ (hw _ (List.mem_of_getElem? (i := 43) rfl))) (mvT hZ (hw _ (List.mem_of_getElem? (i := 44) rfl))) (notFace_of_selects (args := #[]) (mvT hZ (hw _ (List.mem_of_getElem? (i := 46) rfl)))) (mvT hZ (hw _ (List.mem_of_getElem? (i := 46) rfl))) (mvT hZ (hw _ (List.mem_of_getElem? (i := 45) rfl))) (by decide) (backOf (W := 0) (rmCh l Z a0 hw [] b3 b1 T4.heap n0 Z4 Fl4) hZ (hw _ (List.mem_of_getElem? (i := 47) rfl)) (hw _ (List.mem_of_getElem? (i := 31) rfl)) (by decide) (by decide)) q5a q5c (g := (mkF m 18 #[.val (.int p1), .val (.int p2), .val (.ref b1), .val (.ref b3), .unset, .unset, .unset, .unset, .unset, .unset, .unset, .unset, .unset, .unset, .unset] [(.ref b3)])) rfl (by rw [hml]; rfl) (Steps.refl _) (argsL := []) (rest := []) (lenOf pd_0_2 rfl) rfl (by show 2 * 0 + _ ≤ _; exact Nat.le_of_eq rfl) (hb hby at_18) (fun _ _ => ⟨rfl, rfl, (by decide : 4 + 1 ≤ _), (by decide : 21 + 3 ≤ _)⟩)
  dsimp only [Pt.U, Pt.locs, Pt.cells, Pt.slots] at X5 l5 y5 z5 st5 hQ5
  subst l5 y5 z5
  obtain ⟨rfl, N5q, K5, Ev5, Fp5, Fl5⟩ := hQ5
  have N5 := Fr.app N4 N5q
  have E_b3_5 := E_b3_4.keep K5
  have F_b3_parent_5 := Fp4.keep K5 nin0
  have F_b3_libraries_5 := Fl4.keep K5 nin0
  have Z5 : n0 ≤ T5.heap.size := Nat.le_trans Z4 K5.1
  obtain ⟨c5, gc5⟩ : ∃ z, z = T4.heap.size := ⟨_, rfl⟩
  rw [← gc5] at st5 Ev5 Fp5 Fl5
  obtain ⟨cq6, kq6, q6a, q6b, q6c⟩ := isOf hZ rfl Ev5
  obtain ⟨_, _, ⟨T6, L6, k6, n6⟩, -, X6, ⟨Lc6, hQ6, l6, y6, z6⟩, st6⟩ := X5.virtualBack hx (y := (⟨"com/example/roteiro/roteiro/lang/Scope", "child", "()Lcom/example/roteiro/roteiro/lang/Scope;"⟩ : MethodName)) (z := (⟨"com/example/roteiro/roteiro/lang/Scope", "child", "()Lcom/example/roteiro/roteiro/lang/Scope;"⟩ : MethodName)) hown (mvT hZ (hw _ (List.mem_of_getElem? (i := 43) rfl))) (mvT hZ (hw _ (List.mem_of_getElem? (i := 44) rfl))) (notFace_of_selects (args := #[]) (mvT hZ (hw _ (List.mem_of_getElem? (i := 46) rfl)))) (mvT hZ (hw _ (List.mem_of_getElem? (i := 46) rfl))) (mvT hZ (hw _ (List.mem_of_getElem? (i := 45) rfl))) (by decide) (backOf (W := 0) (rmCh l Z a0 hw [] c5 b1 T5.heap n0 Z5 Fl5) hZ (hw _ (List.mem_of_getElem? (i := 47) rfl)) (hw _ (List.mem_of_getElem? (i := 31) rfl)) (by decide) (by decide)) q6a q6c (g := (mkF m 25 #[.val (.int p1), .val (.int p2), .val (.ref b1), .val (.ref b3), .val (.ref c5), .unset, .unset, .unset, .unset, .unset, .unset, .unset, .unset, .unset, .unset] [(.ref c5)])) rfl (by rw [hml]; rfl) (Steps.refl _) (argsL := []) (rest := []) (lenOf pd_0_2 rfl) rfl (by show 2 * 0 + _ ≤ _; exact Nat.le_of_eq rfl) (hb hby at_25) (fun _ _ => ⟨rfl, rfl, (by decide : 5 + 1 ≤ _), (by decide : 24 + 3 ≤ _)⟩)
  dsimp only [Pt.U, Pt.locs, Pt.cells, Pt.slots] at X6 l6 y6 z6 st6 hQ6
  subst l6 y6 z6
  obtain ⟨rfl, N6q, K6, Ev6, Fp6, Fl6⟩ := hQ6
  have N6 := Fr.app N5 N6q
  have E_b3_6 := E_b3_5.keep K6
  have F_b3_parent_6 := F_b3_parent_5.keep K6 nin0
  have F_b3_libraries_6 := F_b3_libraries_5.keep K6 nin0
  have E_c5_6 := Ev5.keep K6
  have F_c5_parent_6 := Fp5.keep K6 nin0
  have F_c5_libraries_6 := Fl5.keep K6 nin0
  have Z6 : n0 ≤ T6.heap.size := Nat.le_trans Z5 K6.1
  obtain ⟨c6, gc6⟩ : ∃ z, z = T5.heap.size := ⟨_, rfl⟩
  rw [← gc6] at st6 Ev6 Fp6 Fl6
  obtain ⟨cq7, kq7, q7a, q7b, q7c⟩ := isOf hZ rfl Ev6
  obtain ⟨_, _, ⟨T7, L7, k7, n7⟩, -, X7, ⟨Lc7, hQ7, l7, y7, z7⟩, st7⟩ := X6.virtualBack hx (y := (⟨"com/example/roteiro/roteiro/lang/Scope", "child", "()Lcom/example/roteiro/roteiro/lang/Scope;"⟩ : MethodName)) (z := (⟨"com/example/roteiro/roteiro/lang/Scope", "child", "()Lcom/example/roteiro/roteiro/lang/Scope;"⟩ : MethodName)) hown (mvT hZ (hw _ (List.mem_of_getElem? (i := 43) rfl))) (mvT hZ (hw _ (List.mem_of_getElem? (i := 44) rfl))) (notFace_of_selects (args := #[]) (mvT hZ (hw _ (List.mem_of_getElem? (i := 46) rfl)))) (mvT hZ (hw _ (List.mem_of_getElem? (i := 46) rfl))) (mvT hZ (hw _ (List.mem_of_getElem? (i := 45) rfl))) (by decide) (backOf (W := 0) (rmCh l Z a0 hw [] c6 b1 T6.heap n0 Z6 Fl6) hZ (hw _ (List.mem_of_getElem? (i := 47) rfl)) (hw _ (List.mem_of_getElem? (i := 31) rfl)) (by decide) (by decide)) q7a q7c (g := (mkF m 32 #[.val (.int p1), .val (.int p2), .val (.ref b1), .val (.ref b3), .val (.ref c5), .val (.ref c6), .unset, .unset, .unset, .unset, .unset, .unset, .unset, .unset, .unset] [(.ref c6)])) rfl (by rw [hml]; rfl) (Steps.refl _) (argsL := []) (rest := []) (lenOf pd_0_2 rfl) rfl (by show 2 * 0 + _ ≤ _; exact Nat.le_of_eq rfl) (hb hby at_32) (fun _ _ => ⟨rfl, rfl, (by decide : 6 + 1 ≤ _), (by decide : 27 + 3 ≤ _)⟩)
  dsimp only [Pt.U, Pt.locs, Pt.cells, Pt.slots] at X7 l7 y7 z7 st7 hQ7
  subst l7 y7 z7
  obtain ⟨rfl, N7q, K7, Ev7, Fp7, Fl7⟩ := hQ7
  have N7 := Fr.app N6 N7q
  have E_b3_7 := E_b3_6.keep K7
  have F_b3_parent_7 := F_b3_parent_6.keep K7 nin0
  have F_b3_libraries_7 := F_b3_libraries_6.keep K7 nin0
  have E_c5_7 := E_c5_6.keep K7
  have F_c5_parent_7 := F_c5_parent_6.keep K7 nin0
  have F_c5_libraries_7 := F_c5_libraries_6.keep K7 nin0
  have E_c6_7 := Ev6.keep K7
  have F_c6_parent_7 := Fp6.keep K7 nin0
  have F_c6_libraries_7 := Fl6.keep K7 nin0
  have Z7 : n0 ≤ T7.heap.size := Nat.le_trans Z6 K7.1
  obtain ⟨c7, gc7⟩ : ∃ z, z = T6.heap.size := ⟨_, rfl⟩
  rw [← gc7] at st7 Ev7 Fp7 Fl7
  obtain ⟨cq8, kq8, q8a, q8b, q8c⟩ := isOf hZ rfl E_c5_7
  obtain ⟨_, _, ⟨T8, L8, k8, n8⟩, -, X8, ⟨Lc8, hQ8, l8, y8, z8⟩, st8⟩ := X7.virtualBack hx (y := (⟨"com/example/roteiro/roteiro/lang/Scope", "root", "()Lcom/example/roteiro/roteiro/lang/Scope;"⟩ : MethodName)) (z := (⟨"com/example/roteiro/roteiro/lang/Scope", "root", "()Lcom/example/roteiro/roteiro/lang/Scope;"⟩ : MethodName)) hown (mvT hZ (hw _ (List.mem_of_getElem? (i := 49) rfl))) (mvT hZ (hw _ (List.mem_of_getElem? (i := 50) rfl))) (notFace_of_selects (args := #[]) (mvT hZ (hw _ (List.mem_of_getElem? (i := 52) rfl)))) (mvT hZ (hw _ (List.mem_of_getElem? (i := 52) rfl))) (mvT hZ (hw _ (List.mem_of_getElem? (i := 51) rfl))) (by decide) (backOf (W := 0) (rmRo1 l Z a0 hw [] c5 b3 T7.heap n0 Z7 F_c5_parent_7 F_b3_parent_7) hZ (hw _ (List.mem_of_getElem? (i := 53) rfl)) (hw _ (List.mem_of_getElem? (i := 31) rfl)) (by decide) (by decide)) q8a q8c (g := (mkF m 85 #[.val (.int p1), .val (.int p2), .val (.ref b1), .val (.ref b3), .val (.ref c5), .val (.ref c6), .val (.ref c7), .val (.int (1 : Int32)), .val (.ref c5), .unset, .unset, .unset, .unset, .unset, .unset] [(.ref c5)])) rfl (by rw [hml]; rfl) (Steps.refl _) (argsL := []) (rest := []) (lenOf pd_0_2 rfl) rfl (by show 2 * 0 + _ ≤ _; exact Nat.le_of_eq rfl) (hb hby at_85) (fun _ _ => ⟨rfl, rfl, (by decide : 7 + 0 ≤ _), (by decide : 30 + 0 ≤ _)⟩)
  dsimp only [Pt.U, Pt.locs, Pt.cells, Pt.slots] at X8 l8 y8 z8 st8 hQ8
  subst l8 y8 z8
  obtain ⟨rfl, N8q, eh8⟩ := hQ8
  have N8 := Fr.app N7 N8q
  obtain ⟨cq9, kq9, q9a, q9b, q9c⟩ := isOf hZ eh8 E_b3_7
  obtain ⟨_, _, ⟨T9, L9, k9, n9⟩, -, X9, ⟨Lc9, hQ9, l9, y9, z9⟩, st9⟩ := X8.virtualBack hx (y := (⟨"com/example/roteiro/roteiro/lang/Scope", "root", "()Lcom/example/roteiro/roteiro/lang/Scope;"⟩ : MethodName)) (z := (⟨"com/example/roteiro/roteiro/lang/Scope", "root", "()Lcom/example/roteiro/roteiro/lang/Scope;"⟩ : MethodName)) hown (mvT hZ (hw _ (List.mem_of_getElem? (i := 49) rfl))) (mvT hZ (hw _ (List.mem_of_getElem? (i := 50) rfl))) (notFace_of_selects (args := #[]) (mvT hZ (hw _ (List.mem_of_getElem? (i := 52) rfl)))) (mvT hZ (hw _ (List.mem_of_getElem? (i := 52) rfl))) (mvT hZ (hw _ (List.mem_of_getElem? (i := 51) rfl))) (by decide) (backOf (W := 0) (rmRo0 l Z a0 hw [] b3 T7.heap n0 Z7 F_b3_parent_7) hZ (hw _ (List.mem_of_getElem? (i := 53) rfl)) (hw _ (List.mem_of_getElem? (i := 31) rfl)) (by decide) (by decide)) q9a q9c (g := (mkF m 98 #[.val (.int p1), .val (.int p2), .val (.ref b1), .val (.ref b3), .val (.ref c5), .val (.ref c6), .val (.ref c7), .val (.int (1 : Int32)), .val (.ref c5), .val (.ref b3), .unset, .unset, .unset, .unset, .unset] [(.ref b3)])) rfl (by rw [hml]; rfl) (Steps.refl _) (argsL := []) (rest := []) (lenOf pd_0_2 rfl) rfl (by show 2 * 0 + _ ≤ _; exact Nat.le_of_eq rfl) (hb hby at_98) (fun _ _ => ⟨rfl, eh8, (by decide : 7 + 0 ≤ _), (by decide : 30 + 0 ≤ _)⟩)
  dsimp only [Pt.U, Pt.locs, Pt.cells, Pt.slots] at X9 l9 y9 z9 st9 hQ9
  subst l9 y9 z9
  obtain ⟨rfl, N9q, eh9⟩ := hQ9
  have N9 := Fr.app N8 N9q
  obtain ⟨T10, h10, X10, e10, E10, A10, D10, -, st10⟩ := newO X9 hx hZ hown (hw _ (List.mem_of_getElem? (i := 29) rfl)) (hw _ (List.mem_of_getElem? (i := 30) rfl)) (hw _ (List.mem_of_getElem? (i := 31) rfl)) eh9 (g := (mkF m 112 #[.val (.int p1), .val (.int p2), .val (.ref b1), .val (.ref b3), .val (.ref c5), .val (.ref c6), .val (.ref c7), .val (.int (1 : Int32)), .val (.ref c5), .val (.ref b3), .val (.int (1 : Int32)), .unset, .unset, .unset, .unset] [])) rfl (hb hby at_112) (by decide) (by decide)
  obtain ⟨b10, g10⟩ : ∃ z, z = T7.heap.size := ⟨_, rfl⟩
  rw [← g10] at A10 D10 st10
  have gb10 : n0 ≤ b10 := Nat.le_trans Z7 (Nat.le_of_eq g10.symm)
  have ne_b3_b10 : b3 ≠ b10 := (Nat.ne_of_lt (Nat.lt_of_lt_of_le E_b3_7.lt (Nat.le_of_eq g10.symm)))
  have ne_c5_b10 : c5 ≠ b10 := (Nat.ne_of_lt (Nat.lt_of_lt_of_le E_c5_7.lt (Nat.le_of_eq g10.symm)))
  have ne_c6_b10 : c6 ≠ b10 := (Nat.ne_of_lt (Nat.lt_of_lt_of_le E_c6_7.lt (Nat.le_of_eq g10.symm)))
  have ne_c7_b10 : c7 ≠ b10 := (Nat.ne_of_lt (Nat.lt_of_lt_of_le Ev7.lt (Nat.le_of_eq g10.symm)))
  have E_b3_10 := E_b3_7.ext E10
  have F_b3_parent_10 := F_b3_parent_7.ext E10
  have F_b3_libraries_10 := F_b3_libraries_7.ext E10
  have E_c5_10 := E_c5_7.ext E10
  have F_c5_parent_10 := F_c5_parent_7.ext E10
  have F_c5_libraries_10 := F_c5_libraries_7.ext E10
  have E_c6_10 := E_c6_7.ext E10
  have F_c6_parent_10 := F_c6_parent_7.ext E10
  have F_c6_libraries_10 := F_c6_libraries_7.ext E10
  have E_c7_10 := Ev7.ext E10
  have F_c7_parent_10 := Fp7.ext E10
  have F_c7_libraries_10 := Fl7.ext E10
  have Z10 : n0 ≤ h10.size := Nat.le_trans Z7 E10.1
  have F_b10_parent_10 : Fld Z h10 b10 "com/example/roteiro/roteiro/lang/Scope" "parent" "Lcom/example/roteiro/roteiro/lang/Scope;" .null := D10 (Or.inr (hw _ (List.mem_of_getElem? (i := 40) rfl))) (ty := (.object "com/example/roteiro/roteiro/lang/Scope")) (by decide)
  have F_b10_libraries_10 : Fld Z h10 b10 "com/example/roteiro/roteiro/lang/Scope" "libraries" "Lcom/example/roteiro/roteiro/lang/Libraries;" .null := D10 (Or.inr (hw _ (List.mem_of_getElem? (i := 42) rfl))) (ty := (.object "com/example/roteiro/roteiro/lang/Libraries")) (by decide)
  obtain ⟨_, _, ⟨T11, L11, k11, n11⟩, -, X11, ⟨Lc11, hQ11, l11, y11, z11⟩, st11⟩ := X10.specialBack hx (y := (⟨"com/example/roteiro/roteiro/lang/Scope", "<init>", "(Lcom/example/roteiro/roteiro/lang/Libraries;)V"⟩ : MethodName)) rfl hown (mvT hZ (hw _ (List.mem_of_getElem? (i := 32) rfl))) (mvT hZ (hw _ (List.mem_of_getElem? (i := 33) rfl))) (mvT hZ (hw _ (List.mem_of_getElem? (i := 34) rfl))) (by decide) (backOf (W := 1) (rmI1 l Z a0 hw [] b10 b1 _ _ h10 n0 Z10 A10 F_b10_parent_10 F_b10_libraries_10 gb10) hZ (hw _ (List.mem_of_getElem? (i := 34) rfl)) (hw _ (List.mem_of_getElem? (i := 31) rfl)) (by decide) (by decide)) (g := (mkF m 117 #[.val (.int p1), .val (.int p2), .val (.ref b1), .val (.ref b3), .val (.ref c5), .val (.ref c6), .val (.ref c7), .val (.int (1 : Int32)), .val (.ref c5), .val (.ref b3), .val (.int (1 : Int32)), .unset, .unset, .unset, .unset] [(.ref b1), (.ref b10), (.ref b10)])) rfl (by rw [hml]; rfl) (Steps.refl _) (a := b10) (argsL := [(.ref b1)]) (rest := [(.ref b10)]) (lenOf pd_0_1 rfl) rfl (by show 2 * 0 + _ ≤ _; exact Nat.le_of_eq rfl) (hb hby at_117) (fun _ _ => ⟨rfl, e10, (by decide : 8 + 0 ≤ _), (by decide : 33 + 0 ≤ _)⟩)
  dsimp only [Pt.U, Pt.locs, Pt.cells, Pt.slots] at X11 l11 y11 z11 st11 hQ11
  subst l11 y11 z11
  obtain ⟨rfl, N11q, K11, Fp11, Fl11⟩ := hQ11
  have N11 := Fr.app N9 N11q
  have E_b3_11 := E_b3_10.keep K11
  have F_b3_parent_11 := F_b3_parent_10.keep K11 (ninS ne_b3_b10 nin0)
  have F_b3_libraries_11 := F_b3_libraries_10.keep K11 (ninS ne_b3_b10 nin0)
  have E_c5_11 := E_c5_10.keep K11
  have F_c5_parent_11 := F_c5_parent_10.keep K11 (ninS ne_c5_b10 nin0)
  have F_c5_libraries_11 := F_c5_libraries_10.keep K11 (ninS ne_c5_b10 nin0)
  have E_c6_11 := E_c6_10.keep K11
  have F_c6_parent_11 := F_c6_parent_10.keep K11 (ninS ne_c6_b10 nin0)
  have F_c6_libraries_11 := F_c6_libraries_10.keep K11 (ninS ne_c6_b10 nin0)
  have E_c7_11 := E_c7_10.keep K11
  have F_c7_parent_11 := F_c7_parent_10.keep K11 (ninS ne_c7_b10 nin0)
  have F_c7_libraries_11 := F_c7_libraries_10.keep K11 (ninS ne_c7_b10 nin0)
  have E_b10_11 := A10.keep K11
  have Z11 : n0 ≤ T11.heap.size := Nat.le_trans Z10 K11.1
  obtain ⟨cq12, kq12, q12a, q12b, q12c⟩ := isOf hZ rfl E_b10_11
  obtain ⟨_, _, ⟨T12, L12, k12, n12⟩, -, X12, ⟨Lc12, hQ12, l12, y12, z12⟩, st12⟩ := X11.virtualBack hx (y := (⟨"com/example/roteiro/roteiro/lang/Scope", "root", "()Lcom/example/roteiro/roteiro/lang/Scope;"⟩ : MethodName)) (z := (⟨"com/example/roteiro/roteiro/lang/Scope", "root", "()Lcom/example/roteiro/roteiro/lang/Scope;"⟩ : MethodName)) hown (mvT hZ (hw _ (List.mem_of_getElem? (i := 49) rfl))) (mvT hZ (hw _ (List.mem_of_getElem? (i := 50) rfl))) (notFace_of_selects (args := #[]) (mvT hZ (hw _ (List.mem_of_getElem? (i := 52) rfl)))) (mvT hZ (hw _ (List.mem_of_getElem? (i := 52) rfl))) (mvT hZ (hw _ (List.mem_of_getElem? (i := 51) rfl))) (by decide) (backOf (W := 0) (rmRo0 l Z a0 hw [] b10 T11.heap n0 Z11 Fp11) hZ (hw _ (List.mem_of_getElem? (i := 53) rfl)) (hw _ (List.mem_of_getElem? (i := 31) rfl)) (by decide) (by decide)) q12a q12c (g := (mkF m 142 #[.val (.int p1), .val (.int p2), .val (.ref b1), .val (.ref b3), .val (.ref c5), .val (.ref c6), .val (.ref c7), .val (.int (1 : Int32)), .val (.ref c5), .val (.ref b3), .val (.int (1 : Int32)), .val (.ref b10), .val (.ref b10), .unset, .unset] [(.ref b10)])) rfl (by rw [hml]; rfl) (Steps.refl _) (argsL := []) (rest := []) (lenOf pd_0_2 rfl) rfl (by show 2 * 0 + _ ≤ _; exact Nat.le_of_eq rfl) (hb hby at_142) (fun _ _ => ⟨rfl, rfl, (by decide : 8 + 0 ≤ _), (by decide : 33 + 0 ≤ _)⟩)
  dsimp only [Pt.U, Pt.locs, Pt.cells, Pt.slots] at X12 l12 y12 z12 st12 hQ12
  subst l12 y12 z12
  obtain ⟨rfl, N12q, eh12⟩ := hQ12
  have N12 := Fr.app N11 N12q
  obtain ⟨fs, hr, hrun, hended, hW, hsame⟩ := X12.leave (v := some (.int (1 : Int32))) (fun h => by rw [Bd.returns] at h; cases h)
  refine ⟨_, _, pre0 _ ?_, hrun, hended, _, _, rfl, ?_, ⟨_, rfl⟩, hW, hsame.mono (by decide) (by decide)⟩
  · show Steps p.tables e below (s₁.setTop (mkF m 0 #[.val (.int p1), .val (.int p2), .unset, .unset, .unset, .unset, .unset, .unset, .unset, .unset, .unset, .unset, .unset, .unset, .unset] [])) _
    refine st1 _ ?_
    show Steps p.tables e below (T1.setTop (mkF m 3 #[.val (.int p1), .val (.int p2), .unset, .unset, .unset, .unset, .unset, .unset, .unset, .unset, .unset, .unset, .unset, .unset, .unset] [(.ref b1)])) _
    refine XS.dup X1.here hx rfl (hb hby at_3) rfl rfl ?_
    show Steps p.tables e below (T1.setTop (mkF m 4 #[.val (.int p1), .val (.int p2), .unset, .unset, .unset, .unset, .unset, .unset, .unset, .unset, .unset, .unset, .unset, .unset, .unset] [(.ref b1), (.ref b1)])) _
    refine st2.trans ?_
    show Steps p.tables e below (T2.setTop (mkF m 7 #[.val (.int p1), .val (.int p2), .unset, .unset, .unset, .unset, .unset, .unset, .unset, .unset, .unset, .unset, .unset, .unset, .unset] [(.ref b1)])) _
    refine XS.astoreN X2.here hx rfl (hb hby at_7) rfl rfl (l' := #[.val (.int p1), .val (.int p2), .val (.ref b1), .unset, .unset, .unset, .unset, .unset, .unset, .unset, .unset, .unset, .unset, .unset, .unset]) rfl ?_
    show Steps p.tables e below (T2.setTop (mkF m 8 #[.val (.int p1), .val (.int p2), .val (.ref b1), .unset, .unset, .unset, .unset, .unset, .unset, .unset, .unset, .unset, .unset, .unset, .unset] [])) _
    refine st3 _ ?_
    show Steps p.tables e below (T3.setTop (mkF m 11 #[.val (.int p1), .val (.int p2), .val (.ref b1), .unset, .unset, .unset, .unset, .unset, .unset, .unset, .unset, .unset, .unset, .unset, .unset] [(.ref b3)])) _
    refine XS.dup X3.here hx rfl (hb hby at_11) rfl rfl ?_
    show Steps p.tables e below (T3.setTop (mkF m 12 #[.val (.int p1), .val (.int p2), .val (.ref b1), .unset, .unset, .unset, .unset, .unset, .unset, .unset, .unset, .unset, .unset, .unset, .unset] [(.ref b3), (.ref b3)])) _
    refine XS.aloadN X3.here hx rfl (hb hby at_12) rfl rfl ?_
    show Steps p.tables e below (T3.setTop (mkF m 13 #[.val (.int p1), .val (.int p2), .val (.ref b1), .unset, .unset, .unset, .unset, .unset, .unset, .unset, .unset, .unset, .unset, .unset, .unset] [(.ref b1), (.ref b3), (.ref b3)])) _
    refine st4.trans ?_
    show Steps p.tables e below (T4.setTop (mkF m 16 #[.val (.int p1), .val (.int p2), .val (.ref b1), .unset, .unset, .unset, .unset, .unset, .unset, .unset, .unset, .unset, .unset, .unset, .unset] [(.ref b3)])) _
    refine XS.astoreN X4.here hx rfl (hb hby at_16) rfl rfl (l' := #[.val (.int p1), .val (.int p2), .val (.ref b1), .val (.ref b3), .unset, .unset, .unset, .unset, .unset, .unset, .unset, .unset, .unset, .unset, .unset]) rfl ?_
    show Steps p.tables e below (T4.setTop (mkF m 17 #[.val (.int p1), .val (.int p2), .val (.ref b1), .val (.ref b3), .unset, .unset, .unset, .unset, .unset, .unset, .unset, .unset, .unset, .unset, .unset] [])) _
    refine XS.aloadN X4.here hx rfl (hb hby at_17) rfl rfl ?_
    show Steps p.tables e below (T4.setTop (mkF m 18 #[.val (.int p1), .val (.int p2), .val (.ref b1), .val (.ref b3), .unset, .unset, .unset, .unset, .unset, .unset, .unset, .unset, .unset, .unset, .unset] [(.ref b3)])) _
    refine st5.trans ?_
    show Steps p.tables e below (T5.setTop (mkF m 21 #[.val (.int p1), .val (.int p2), .val (.ref b1), .val (.ref b3), .unset, .unset, .unset, .unset, .unset, .unset, .unset, .unset, .unset, .unset, .unset] [(.ref c5)])) _
    refine XS.astore X5.here hx rfl (hb hby at_21) rfl rfl (l' := #[.val (.int p1), .val (.int p2), .val (.ref b1), .val (.ref b3), .val (.ref c5), .unset, .unset, .unset, .unset, .unset, .unset, .unset, .unset, .unset, .unset]) rfl ?_
    show Steps p.tables e below (T5.setTop (mkF m 23 #[.val (.int p1), .val (.int p2), .val (.ref b1), .val (.ref b3), .val (.ref c5), .unset, .unset, .unset, .unset, .unset, .unset, .unset, .unset, .unset, .unset] [])) _
    refine XS.aload X5.here hx rfl (hb hby at_23) rfl rfl ?_
    show Steps p.tables e below (T5.setTop (mkF m 25 #[.val (.int p1), .val (.int p2), .val (.ref b1), .val (.ref b3), .val (.ref c5), .unset, .unset, .unset, .unset, .unset, .unset, .unset, .unset, .unset, .unset] [(.ref c5)])) _
    refine st6.trans ?_
    show Steps p.tables e below (T6.setTop (mkF m 28 #[.val (.int p1), .val (.int p2), .val (.ref b1), .val (.ref b3), .val (.ref c5), .unset, .unset, .unset, .unset, .unset, .unset, .unset, .unset, .unset, .unset] [(.ref c6)])) _
    refine XS.astore X6.here hx rfl (hb hby at_28) rfl rfl (l' := #[.val (.int p1), .val (.int p2), .val (.ref b1), .val (.ref b3), .val (.ref c5), .val (.ref c6), .unset, .unset, .unset, .unset, .unset, .unset, .unset, .unset, .unset]) rfl ?_
    show Steps p.tables e below (T6.setTop (mkF m 30 #[.val (.int p1), .val (.int p2), .val (.ref b1), .val (.ref b3), .val (.ref c5), .val (.ref c6), .unset, .unset, .unset, .unset, .unset, .unset, .unset, .unset, .unset] [])) _
    refine XS.aload X6.here hx rfl (hb hby at_30) rfl rfl ?_
    show Steps p.tables e below (T6.setTop (mkF m 32 #[.val (.int p1), .val (.int p2), .val (.ref b1), .val (.ref b3), .val (.ref c5), .val (.ref c6), .unset, .unset, .unset, .unset, .unset, .unset, .unset, .unset, .unset] [(.ref c6)])) _
    refine st7.trans ?_
    show Steps p.tables e below (T7.setTop (mkF m 35 #[.val (.int p1), .val (.int p2), .val (.ref b1), .val (.ref b3), .val (.ref c5), .val (.ref c6), .unset, .unset, .unset, .unset, .unset, .unset, .unset, .unset, .unset] [(.ref c7)])) _
    refine XS.astore X7.here hx rfl (hb hby at_35) rfl rfl (l' := #[.val (.int p1), .val (.int p2), .val (.ref b1), .val (.ref b3), .val (.ref c5), .val (.ref c6), .val (.ref c7), .unset, .unset, .unset, .unset, .unset, .unset, .unset, .unset]) rfl ?_
    show Steps p.tables e below (T7.setTop (mkF m 37 #[.val (.int p1), .val (.int p2), .val (.ref b1), .val (.ref b3), .val (.ref c5), .val (.ref c6), .val (.ref c7), .unset, .unset, .unset, .unset, .unset, .unset, .unset, .unset] [])) _
    refine XS.iloadN X7.here hx rfl (hb hby at_37) rfl ?_
    show Steps p.tables e below (T7.setTop (mkF m 38 #[.val (.int p1), .val (.int p2), .val (.ref b1), .val (.ref b3), .val (.ref c5), .val (.ref c6), .val (.ref c7), .unset, .unset, .unset, .unset, .unset, .unset, .unset, .unset] [(.int p1)])) _
    refine XS.iconst X7.here hx rfl (hb hby at_38) ?_
    show Steps p.tables e below (T7.setTop (mkF m 39 #[.val (.int p1), .val (.int p2), .val (.ref b1), .val (.ref b3), .val (.ref c5), .val (.ref c6), .val (.ref c7), .unset, .unset, .unset, .unset, .unset, .unset, .unset, .unset] [(.int (3 : Int32)), (.int p1)])) _
    refine XS.iand X7.here hx rfl (hb hby at_39) rfl ?_
    show Steps p.tables e below (T7.setTop (mkF m 40 #[.val (.int p1), .val (.int p2), .val (.ref b1), .val (.ref b3), .val (.ref c5), .val (.ref c6), .val (.ref c7), .unset, .unset, .unset, .unset, .unset, .unset, .unset, .unset] [(.int (p1 &&& (3 : Int32)))])) _
    rw [hd]
    show Steps p.tables e below (T7.setTop (mkF m 40 #[.val (.int p1), .val (.int p2), .val (.ref b1), .val (.ref b3), .val (.ref c5), .val (.ref c6), .val (.ref c7), .unset, .unset, .unset, .unset, .unset, .unset, .unset, .unset] [(.int (1 : Int32))])) _
    refine XS.istore X7.here hx rfl (hb hby at_40) rfl (l' := #[.val (.int p1), .val (.int p2), .val (.ref b1), .val (.ref b3), .val (.ref c5), .val (.ref c6), .val (.ref c7), .val (.int (1 : Int32)), .unset, .unset, .unset, .unset, .unset, .unset, .unset]) rfl ?_
    show Steps p.tables e below (T7.setTop (mkF m 42 #[.val (.int p1), .val (.int p2), .val (.ref b1), .val (.ref b3), .val (.ref c5), .val (.ref c6), .val (.ref c7), .val (.int (1 : Int32)), .unset, .unset, .unset, .unset, .unset, .unset, .unset] [])) _
    refine XS.iload X7.here hx rfl (hb hby at_42) rfl ?_
    show Steps p.tables e below (T7.setTop (mkF m 44 #[.val (.int p1), .val (.int p2), .val (.ref b1), .val (.ref b3), .val (.ref c5), .val (.ref c6), .val (.ref c7), .val (.int (1 : Int32)), .unset, .unset, .unset, .unset, .unset, .unset, .unset] [(.int (1 : Int32))])) _
    refine XS.ifYes X7.here hx rfl (pc0 := 44) (pc' := 53) rfl (hb hby at_44) rfl ((if0 _ _).trans (feq ((by decide) : ¬ ((1 : Int32) = (0 : Int32)))).2) (by decide) (by decide) ?_
    show Steps p.tables e below (T7.setTop (mkF m 53 #[.val (.int p1), .val (.int p2), .val (.ref b1), .val (.ref b3), .val (.ref c5), .val (.ref c6), .val (.ref c7), .val (.int (1 : Int32)), .unset, .unset, .unset, .unset, .unset, .unset, .unset] [])) _
    refine XS.iload X7.here hx rfl (hb hby at_53) rfl ?_
    show Steps p.tables e below (T7.setTop (mkF m 55 #[.val (.int p1), .val (.int p2), .val (.ref b1), .val (.ref b3), .val (.ref c5), .val (.ref c6), .val (.ref c7), .val (.int (1 : Int32)), .unset, .unset, .unset, .unset, .unset, .unset, .unset] [(.int (1 : Int32))])) _
    refine XS.iconst X7.here hx rfl (hb hby at_55) ?_
    show Steps p.tables e below (T7.setTop (mkF m 56 #[.val (.int p1), .val (.int p2), .val (.ref b1), .val (.ref b3), .val (.ref c5), .val (.ref c6), .val (.ref c7), .val (.int (1 : Int32)), .unset, .unset, .unset, .unset, .unset, .unset, .unset] [(.int (1 : Int32)), (.int (1 : Int32))])) _
    refine XS.icmpNo X7.here hx rfl (hb hby at_56) rfl (teq ((by decide) : (1 : Int32) = (1 : Int32))).2 ?_
    show Steps p.tables e below (T7.setTop (mkF m 59 #[.val (.int p1), .val (.int p2), .val (.ref b1), .val (.ref b3), .val (.ref c5), .val (.ref c6), .val (.ref c7), .val (.int (1 : Int32)), .unset, .unset, .unset, .unset, .unset, .unset, .unset] [])) _
    refine XS.aload X7.here hx rfl (hb hby at_59) rfl rfl ?_
    show Steps p.tables e below (T7.setTop (mkF m 61 #[.val (.int p1), .val (.int p2), .val (.ref b1), .val (.ref b3), .val (.ref c5), .val (.ref c6), .val (.ref c7), .val (.int (1 : Int32)), .unset, .unset, .unset, .unset, .unset, .unset, .unset] [(.ref c5)])) _
    refine XS.astore X7.here hx rfl (hb hby at_61) rfl rfl (l' := #[.val (.int p1), .val (.int p2), .val (.ref b1), .val (.ref b3), .val (.ref c5), .val (.ref c6), .val (.ref c7), .val (.int (1 : Int32)), .val (.ref c5), .unset, .unset, .unset, .unset, .unset, .unset]) rfl ?_
    show Steps p.tables e below (T7.setTop (mkF m 63 #[.val (.int p1), .val (.int p2), .val (.ref b1), .val (.ref b3), .val (.ref c5), .val (.ref c6), .val (.ref c7), .val (.int (1 : Int32)), .val (.ref c5), .unset, .unset, .unset, .unset, .unset, .unset] [])) _
    refine XS.goto X7.here hx rfl (pc0 := 63) (pc' := 83) rfl (hb hby at_63) (by decide) (by decide) ?_
    show Steps p.tables e below (T7.setTop (mkF m 83 #[.val (.int p1), .val (.int p2), .val (.ref b1), .val (.ref b3), .val (.ref c5), .val (.ref c6), .val (.ref c7), .val (.int (1 : Int32)), .val (.ref c5), .unset, .unset, .unset, .unset, .unset, .unset] [])) _
    refine XS.aload X7.here hx rfl (hb hby at_83) rfl rfl ?_
    show Steps p.tables e below (T7.setTop (mkF m 85 #[.val (.int p1), .val (.int p2), .val (.ref b1), .val (.ref b3), .val (.ref c5), .val (.ref c6), .val (.ref c7), .val (.int (1 : Int32)), .val (.ref c5), .unset, .unset, .unset, .unset, .unset, .unset] [(.ref c5)])) _
    refine st8.trans ?_
    show Steps p.tables e below (T8.setTop (mkF m 88 #[.val (.int p1), .val (.int p2), .val (.ref b1), .val (.ref b3), .val (.ref c5), .val (.ref c6), .val (.ref c7), .val (.int (1 : Int32)), .val (.ref c5), .unset, .unset, .unset, .unset, .unset, .unset] [(.ref b3)])) _
    refine XS.astore X8.here hx rfl (hb hby at_88) rfl rfl (l' := #[.val (.int p1), .val (.int p2), .val (.ref b1), .val (.ref b3), .val (.ref c5), .val (.ref c6), .val (.ref c7), .val (.int (1 : Int32)), .val (.ref c5), .val (.ref b3), .unset, .unset, .unset, .unset, .unset]) rfl ?_
    show Steps p.tables e below (T8.setTop (mkF m 90 #[.val (.int p1), .val (.int p2), .val (.ref b1), .val (.ref b3), .val (.ref c5), .val (.ref c6), .val (.ref c7), .val (.int (1 : Int32)), .val (.ref c5), .val (.ref b3), .unset, .unset, .unset, .unset, .unset] [])) _
    refine XS.aload X8.here hx rfl (hb hby at_90) rfl rfl ?_
    show Steps p.tables e below (T8.setTop (mkF m 92 #[.val (.int p1), .val (.int p2), .val (.ref b1), .val (.ref b3), .val (.ref c5), .val (.ref c6), .val (.ref c7), .val (.int (1 : Int32)), .val (.ref c5), .val (.ref b3), .unset, .unset, .unset, .unset, .unset] [(.ref b3)])) _
    refine XS.aloadN X8.here hx rfl (hb hby at_92) rfl rfl ?_
    show Steps p.tables e below (T8.setTop (mkF m 93 #[.val (.int p1), .val (.int p2), .val (.ref b1), .val (.ref b3), .val (.ref c5), .val (.ref c6), .val (.ref c7), .val (.int (1 : Int32)), .val (.ref c5), .val (.ref b3), .unset, .unset, .unset, .unset, .unset] [(.ref b3), (.ref b3)])) _
    refine Jvm.RoadKit.acmp (g := (mkF m 93 #[.val (.int p1), .val (.int p2), .val (.ref b1), .val (.ref b3), .val (.ref c5), .val (.ref c6), .val (.ref c7), .val (.int (1 : Int32)), .val (.ref c5), .val (.ref b3), .unset, .unset, .unset, .unset, .unset] [(.ref b3), (.ref b3)])) X8 hx rfl rfl rfl (pc0 := 93) (pc' := 96) (same := true) rfl (hb hby at_93) rfl (decide_eq_true rfl) (by decide) (by decide) ?_
    show Steps p.tables e below (T8.setTop (mkF m 96 #[.val (.int p1), .val (.int p2), .val (.ref b1), .val (.ref b3), .val (.ref c5), .val (.ref c6), .val (.ref c7), .val (.int (1 : Int32)), .val (.ref c5), .val (.ref b3), .unset, .unset, .unset, .unset, .unset] [])) _
    refine XS.aload X8.here hx rfl (hb hby at_96) rfl rfl ?_
    show Steps p.tables e below (T8.setTop (mkF m 98 #[.val (.int p1), .val (.int p2), .val (.ref b1), .val (.ref b3), .val (.ref c5), .val (.ref c6), .val (.ref c7), .val (.int (1 : Int32)), .val (.ref c5), .val (.ref b3), .unset, .unset, .unset, .unset, .unset] [(.ref b3)])) _
    refine st9.trans ?_
    show Steps p.tables e below (T9.setTop (mkF m 101 #[.val (.int p1), .val (.int p2), .val (.ref b1), .val (.ref b3), .val (.ref c5), .val (.ref c6), .val (.ref c7), .val (.int (1 : Int32)), .val (.ref c5), .val (.ref b3), .unset, .unset, .unset, .unset, .unset] [(.ref b3)])) _
    refine XS.aloadN X9.here hx rfl (hb hby at_101) rfl rfl ?_
    show Steps p.tables e below (T9.setTop (mkF m 102 #[.val (.int p1), .val (.int p2), .val (.ref b1), .val (.ref b3), .val (.ref c5), .val (.ref c6), .val (.ref c7), .val (.int (1 : Int32)), .val (.ref c5), .val (.ref b3), .unset, .unset, .unset, .unset, .unset] [(.ref b3), (.ref b3)])) _
    refine Jvm.RoadKit.acmp (g := (mkF m 102 #[.val (.int p1), .val (.int p2), .val (.ref b1), .val (.ref b3), .val (.ref c5), .val (.ref c6), .val (.ref c7), .val (.int (1 : Int32)), .val (.ref c5), .val (.ref b3), .unset, .unset, .unset, .unset, .unset] [(.ref b3), (.ref b3)])) X9 hx rfl rfl rfl (pc0 := 102) (pc' := 105) (same := true) rfl (hb hby at_102) rfl (decide_eq_true rfl) (by decide) (by decide) ?_
    show Steps p.tables e below (T9.setTop (mkF m 105 #[.val (.int p1), .val (.int p2), .val (.ref b1), .val (.ref b3), .val (.ref c5), .val (.ref c6), .val (.ref c7), .val (.int (1 : Int32)), .val (.ref c5), .val (.ref b3), .unset, .unset, .unset, .unset, .unset] [])) _
    refine XS.iconst X9.here hx rfl (hb hby at_105) ?_
    show Steps p.tables e below (T9.setTop (mkF m 106 #[.val (.int p1), .val (.int p2), .val (.ref b1), .val (.ref b3), .val (.ref c5), .val (.ref c6), .val (.ref c7), .val (.int (1 : Int32)), .val (.ref c5), .val (.ref b3), .unset, .unset, .unset, .unset, .unset] [(.int (1 : Int32))])) _
    refine XS.goto X9.here hx rfl (pc0 := 106) (pc' := 110) rfl (hb hby at_106) (by decide) (by decide) ?_
    show Steps p.tables e below (T9.setTop (mkF m 110 #[.val (.int p1), .val (.int p2), .val (.ref b1), .val (.ref b3), .val (.ref c5), .val (.ref c6), .val (.ref c7), .val (.int (1 : Int32)), .val (.ref c5), .val (.ref b3), .unset, .unset, .unset, .unset, .unset] [(.int (1 : Int32))])) _
    refine XS.istore X9.here hx rfl (hb hby at_110) rfl (l' := #[.val (.int p1), .val (.int p2), .val (.ref b1), .val (.ref b3), .val (.ref c5), .val (.ref c6), .val (.ref c7), .val (.int (1 : Int32)), .val (.ref c5), .val (.ref b3), .val (.int (1 : Int32)), .unset, .unset, .unset, .unset]) rfl ?_
    show Steps p.tables e below (T9.setTop (mkF m 112 #[.val (.int p1), .val (.int p2), .val (.ref b1), .val (.ref b3), .val (.ref c5), .val (.ref c6), .val (.ref c7), .val (.int (1 : Int32)), .val (.ref c5), .val (.ref b3), .val (.int (1 : Int32)), .unset, .unset, .unset, .unset] [])) _
    refine st10 _ ?_
    show Steps p.tables e below (T10.setTop (mkF m 115 #[.val (.int p1), .val (.int p2), .val (.ref b1), .val (.ref b3), .val (.ref c5), .val (.ref c6), .val (.ref c7), .val (.int (1 : Int32)), .val (.ref c5), .val (.ref b3), .val (.int (1 : Int32)), .unset, .unset, .unset, .unset] [(.ref b10)])) _
    refine XS.dup X10.here hx rfl (hb hby at_115) rfl rfl ?_
    show Steps p.tables e below (T10.setTop (mkF m 116 #[.val (.int p1), .val (.int p2), .val (.ref b1), .val (.ref b3), .val (.ref c5), .val (.ref c6), .val (.ref c7), .val (.int (1 : Int32)), .val (.ref c5), .val (.ref b3), .val (.int (1 : Int32)), .unset, .unset, .unset, .unset] [(.ref b10), (.ref b10)])) _
    refine XS.aloadN X10.here hx rfl (hb hby at_116) rfl rfl ?_
    show Steps p.tables e below (T10.setTop (mkF m 117 #[.val (.int p1), .val (.int p2), .val (.ref b1), .val (.ref b3), .val (.ref c5), .val (.ref c6), .val (.ref c7), .val (.int (1 : Int32)), .val (.ref c5), .val (.ref b3), .val (.int (1 : Int32)), .unset, .unset, .unset, .unset] [(.ref b1), (.ref b10), (.ref b10)])) _
    refine st11.trans ?_
    show Steps p.tables e below (T11.setTop (mkF m 120 #[.val (.int p1), .val (.int p2), .val (.ref b1), .val (.ref b3), .val (.ref c5), .val (.ref c6), .val (.ref c7), .val (.int (1 : Int32)), .val (.ref c5), .val (.ref b3), .val (.int (1 : Int32)), .unset, .unset, .unset, .unset] [(.ref b10)])) _
    refine XS.astore X11.here hx rfl (hb hby at_120) rfl rfl (l' := #[.val (.int p1), .val (.int p2), .val (.ref b1), .val (.ref b3), .val (.ref c5), .val (.ref c6), .val (.ref c7), .val (.int (1 : Int32)), .val (.ref c5), .val (.ref b3), .val (.int (1 : Int32)), .val (.ref b10), .unset, .unset, .unset]) rfl ?_
    show Steps p.tables e below (T11.setTop (mkF m 122 #[.val (.int p1), .val (.int p2), .val (.ref b1), .val (.ref b3), .val (.ref c5), .val (.ref c6), .val (.ref c7), .val (.int (1 : Int32)), .val (.ref c5), .val (.ref b3), .val (.int (1 : Int32)), .val (.ref b10), .unset, .unset, .unset] [])) _
    refine XS.iloadN X11.here hx rfl (hb hby at_122) rfl ?_
    show Steps p.tables e below (T11.setTop (mkF m 123 #[.val (.int p1), .val (.int p2), .val (.ref b1), .val (.ref b3), .val (.ref c5), .val (.ref c6), .val (.ref c7), .val (.int (1 : Int32)), .val (.ref c5), .val (.ref b3), .val (.int (1 : Int32)), .val (.ref b10), .unset, .unset, .unset] [(.int p2)])) _
    refine XS.iconst X11.here hx rfl (hb hby at_123) ?_
    show Steps p.tables e below (T11.setTop (mkF m 124 #[.val (.int p1), .val (.int p2), .val (.ref b1), .val (.ref b3), .val (.ref c5), .val (.ref c6), .val (.ref c7), .val (.int (1 : Int32)), .val (.ref c5), .val (.ref b3), .val (.int (1 : Int32)), .val (.ref b10), .unset, .unset, .unset] [(.int (1 : Int32)), (.int p2)])) _
    refine XS.iand X11.here hx rfl (hb hby at_124) rfl ?_
    show Steps p.tables e below (T11.setTop (mkF m 125 #[.val (.int p1), .val (.int p2), .val (.ref b1), .val (.ref b3), .val (.ref c5), .val (.ref c6), .val (.ref c7), .val (.int (1 : Int32)), .val (.ref c5), .val (.ref b3), .val (.int (1 : Int32)), .val (.ref b10), .unset, .unset, .unset] [(.int (p2 &&& (1 : Int32)))])) _
    refine XS.ifYes X11.here hx rfl (pc0 := 125) (pc' := 136) rfl (hb hby at_125) rfl ((if0 _ _).trans (teq (hc125 : (p2 &&& (1 : Int32)) = (0 : Int32))).1) (by decide) (by decide) ?_
    show Steps p.tables e below (T11.setTop (mkF m 136 #[.val (.int p1), .val (.int p2), .val (.ref b1), .val (.ref b3), .val (.ref c5), .val (.ref c6), .val (.ref c7), .val (.int (1 : Int32)), .val (.ref c5), .val (.ref b3), .val (.int (1 : Int32)), .val (.ref b10), .unset, .unset, .unset] [])) _
    refine XS.aload X11.here hx rfl (hb hby at_136) rfl rfl ?_
    show Steps p.tables e below (T11.setTop (mkF m 138 #[.val (.int p1), .val (.int p2), .val (.ref b1), .val (.ref b3), .val (.ref c5), .val (.ref c6), .val (.ref c7), .val (.int (1 : Int32)), .val (.ref c5), .val (.ref b3), .val (.int (1 : Int32)), .val (.ref b10), .unset, .unset, .unset] [(.ref b10)])) _
    refine XS.astore X11.here hx rfl (hb hby at_138) rfl rfl (l' := #[.val (.int p1), .val (.int p2), .val (.ref b1), .val (.ref b3), .val (.ref c5), .val (.ref c6), .val (.ref c7), .val (.int (1 : Int32)), .val (.ref c5), .val (.ref b3), .val (.int (1 : Int32)), .val (.ref b10), .val (.ref b10), .unset, .unset]) rfl ?_
    show Steps p.tables e below (T11.setTop (mkF m 140 #[.val (.int p1), .val (.int p2), .val (.ref b1), .val (.ref b3), .val (.ref c5), .val (.ref c6), .val (.ref c7), .val (.int (1 : Int32)), .val (.ref c5), .val (.ref b3), .val (.int (1 : Int32)), .val (.ref b10), .val (.ref b10), .unset, .unset] [])) _
    refine XS.aload X11.here hx rfl (hb hby at_140) rfl rfl ?_
    show Steps p.tables e below (T11.setTop (mkF m 142 #[.val (.int p1), .val (.int p2), .val (.ref b1), .val (.ref b3), .val (.ref c5), .val (.ref c6), .val (.ref c7), .val (.int (1 : Int32)), .val (.ref c5), .val (.ref b3), .val (.int (1 : Int32)), .val (.ref b10), .val (.ref b10), .unset, .unset] [(.ref b10)])) _
    refine st12.trans ?_
    show Steps p.tables e below (T12.setTop (mkF m 145 #[.val (.int p1), .val (.int p2), .val (.ref b1), .val (.ref b3), .val (.ref c5), .val (.ref c6), .val (.ref c7), .val (.int (1 : Int32)), .val (.ref c5), .val (.ref b3), .val (.int (1 : Int32)), .val (.ref b10), .val (.ref b10), .unset, .unset] [(.ref b10)])) _
    refine XS.astore X12.here hx rfl (hb hby at_145) rfl rfl (l' := #[.val (.int p1), .val (.int p2), .val (.ref b1), .val (.ref b3), .val (.ref c5), .val (.ref c6), .val (.ref c7), .val (.int (1 : Int32)), .val (.ref c5), .val (.ref b3), .val (.int (1 : Int32)), .val (.ref b10), .val (.ref b10), .val (.ref b10), .unset]) rfl ?_
    show Steps p.tables e below (T12.setTop (mkF m 147 #[.val (.int p1), .val (.int p2), .val (.ref b1), .val (.ref b3), .val (.ref c5), .val (.ref c6), .val (.ref c7), .val (.int (1 : Int32)), .val (.ref c5), .val (.ref b3), .val (.int (1 : Int32)), .val (.ref b10), .val (.ref b10), .val (.ref b10), .unset] [])) _
    refine XS.aload X12.here hx rfl (hb hby at_147) rfl rfl ?_
    show Steps p.tables e below (T12.setTop (mkF m 149 #[.val (.int p1), .val (.int p2), .val (.ref b1), .val (.ref b3), .val (.ref c5), .val (.ref c6), .val (.ref c7), .val (.int (1 : Int32)), .val (.ref c5), .val (.ref b3), .val (.int (1 : Int32)), .val (.ref b10), .val (.ref b10), .val (.ref b10), .unset] [(.ref b10)])) _
    refine XS.aload X12.here hx rfl (hb hby at_149) rfl rfl ?_
    show Steps p.tables e below (T12.setTop (mkF m 151 #[.val (.int p1), .val (.int p2), .val (.ref b1), .val (.ref b3), .val (.ref c5), .val (.ref c6), .val (.ref c7), .val (.int (1 : Int32)), .val (.ref c5), .val (.ref b3), .val (.int (1 : Int32)), .val (.ref b10), .val (.ref b10), .val (.ref b10), .unset] [(.ref b10), (.ref b10)])) _
    refine Jvm.RoadKit.acmp (g := (mkF m 151 #[.val (.int p1), .val (.int p2), .val (.ref b1), .val (.ref b3), .val (.ref c5), .val (.ref c6), .val (.ref c7), .val (.int (1 : Int32)), .val (.ref c5), .val (.ref b3), .val (.int (1 : Int32)), .val (.ref b10), .val (.ref b10), .val (.ref b10), .unset] [(.ref b10), (.ref b10)])) X12 hx rfl rfl rfl (pc0 := 151) (pc' := 154) (same := true) rfl (hb hby at_151) rfl (decide_eq_true rfl) (by decide) (by decide) ?_
    show Steps p.tables e below (T12.setTop (mkF m 154 #[.val (.int p1), .val (.int p2), .val (.ref b1), .val (.ref b3), .val (.ref c5), .val (.ref c6), .val (.ref c7), .val (.int (1 : Int32)), .val (.ref c5), .val (.ref b3), .val (.int (1 : Int32)), .val (.ref b10), .val (.ref b10), .val (.ref b10), .unset] [])) _
    refine XS.aload X12.here hx rfl (hb hby at_154) rfl rfl ?_
    show Steps p.tables e below (T12.setTop (mkF m 156 #[.val (.int p1), .val (.int p2), .val (.ref b1), .val (.ref b3), .val (.ref c5), .val (.ref c6), .val (.ref c7), .val (.int (1 : Int32)), .val (.ref c5), .val (.ref b3), .val (.int (1 : Int32)), .val (.ref b10), .val (.ref b10), .val (.ref b10), .unset] [(.ref b10)])) _
    refine XS.aloadN X12.here hx rfl (hb hby at_156) rfl rfl ?_
    show Steps p.tables e below (T12.setTop (mkF m 157 #[.val (.int p1), .val (.int p2), .val (.ref b1), .val (.ref b3), .val (.ref c5), .val (.ref c6), .val (.ref c7), .val (.int (1 : Int32)), .val (.ref c5), .val (.ref b3), .val (.int (1 : Int32)), .val (.ref b10), .val (.ref b10), .val (.ref b10), .unset] [(.ref b3), (.ref b10)])) _
    refine Jvm.RoadKit.acmp (g := (mkF m 157 #[.val (.int p1), .val (.int p2), .val (.ref b1), .val (.ref b3), .val (.ref c5), .val (.ref c6), .val (.ref c7), .val (.int (1 : Int32)), .val (.ref c5), .val (.ref b3), .val (.int (1 : Int32)), .val (.ref b10), .val (.ref b10), .val (.ref b10), .unset] [(.ref b3), (.ref b10)])) X12 hx rfl rfl rfl (pc0 := 157) (pc' := 160) (same := false) rfl (hb hby at_157) rfl (decide_eq_false fun q => absurd (Value.ref.inj q) (Ne.symm ne_b3_b10)) (by decide) (by decide) ?_
    show Steps p.tables e below (T12.setTop (mkF m 160 #[.val (.int p1), .val (.int p2), .val (.ref b1), .val (.ref b3), .val (.ref c5), .val (.ref c6), .val (.ref c7), .val (.int (1 : Int32)), .val (.ref c5), .val (.ref b3), .val (.int (1 : Int32)), .val (.ref b10), .val (.ref b10), .val (.ref b10), .unset] [])) _
    refine XS.iconst X12.here hx rfl (hb hby at_160) ?_
    show Steps p.tables e below (T12.setTop (mkF m 161 #[.val (.int p1), .val (.int p2), .val (.ref b1), .val (.ref b3), .val (.ref c5), .val (.ref c6), .val (.ref c7), .val (.int (1 : Int32)), .val (.ref c5), .val (.ref b3), .val (.int (1 : Int32)), .val (.ref b10), .val (.ref b10), .val (.ref b10), .unset] [(.int (1 : Int32))])) _
    refine XS.goto X12.here hx rfl (pc0 := 161) (pc' := 165) rfl (hb hby at_161) (by decide) (by decide) ?_
    show Steps p.tables e below (T12.setTop (mkF m 165 #[.val (.int p1), .val (.int p2), .val (.ref b1), .val (.ref b3), .val (.ref c5), .val (.ref c6), .val (.ref c7), .val (.int (1 : Int32)), .val (.ref c5), .val (.ref b3), .val (.int (1 : Int32)), .val (.ref b10), .val (.ref b10), .val (.ref b10), .unset] [(.int (1 : Int32))])) _
    refine XS.istore X12.here hx rfl (hb hby at_165) rfl (l' := #[.val (.int p1), .val (.int p2), .val (.ref b1), .val (.ref b3), .val (.ref c5), .val (.ref c6), .val (.ref c7), .val (.int (1 : Int32)), .val (.ref c5), .val (.ref b3), .val (.int (1 : Int32)), .val (.ref b10), .val (.ref b10), .val (.ref b10), .val (.int (1 : Int32))]) rfl ?_
    show Steps p.tables e below (T12.setTop (mkF m 167 #[.val (.int p1), .val (.int p2), .val (.ref b1), .val (.ref b3), .val (.ref c5), .val (.ref c6), .val (.ref c7), .val (.int (1 : Int32)), .val (.ref c5), .val (.ref b3), .val (.int (1 : Int32)), .val (.ref b10), .val (.ref b10), .val (.ref b10), .val (.int (1 : Int32))] [])) _
    refine XS.iload X12.here hx rfl (hb hby at_167) rfl ?_
    show Steps p.tables e below (T12.setTop (mkF m 169 #[.val (.int p1), .val (.int p2), .val (.ref b1), .val (.ref b3), .val (.ref c5), .val (.ref c6), .val (.ref c7), .val (.int (1 : Int32)), .val (.ref c5), .val (.ref b3), .val (.int (1 : Int32)), .val (.ref b10), .val (.ref b10), .val (.ref b10), .val (.int (1 : Int32))] [(.int (1 : Int32))])) _
    refine XS.ifNo X12.here hx rfl (hb hby at_169) rfl ((if0 _ _).trans (feq ((by decide) : ¬ ((1 : Int32) = (0 : Int32)))).1) ?_
    show Steps p.tables e below (T12.setTop (mkF m 172 #[.val (.int p1), .val (.int p2), .val (.ref b1), .val (.ref b3), .val (.ref c5), .val (.ref c6), .val (.ref c7), .val (.int (1 : Int32)), .val (.ref c5), .val (.ref b3), .val (.int (1 : Int32)), .val (.ref b10), .val (.ref b10), .val (.ref b10), .val (.int (1 : Int32))] [])) _
    refine XS.iload X12.here hx rfl (hb hby at_172) rfl ?_
    show Steps p.tables e below (T12.setTop (mkF m 174 #[.val (.int p1), .val (.int p2), .val (.ref b1), .val (.ref b3), .val (.ref c5), .val (.ref c6), .val (.ref c7), .val (.int (1 : Int32)), .val (.ref c5), .val (.ref b3), .val (.int (1 : Int32)), .val (.ref b10), .val (.ref b10), .val (.ref b10), .val (.int (1 : Int32))] [(.int (1 : Int32))])) _
    refine XS.ifNo X12.here hx rfl (hb hby at_174) rfl ((if0 _ _).trans (feq ((by decide) : ¬ ((1 : Int32) = (0 : Int32)))).1) ?_
    show Steps p.tables e below (T12.setTop (mkF m 177 #[.val (.int p1), .val (.int p2), .val (.ref b1), .val (.ref b3), .val (.ref c5), .val (.ref c6), .val (.ref c7), .val (.int (1 : Int32)), .val (.ref c5), .val (.ref b3), .val (.int (1 : Int32)), .val (.ref b10), .val (.ref b10), .val (.ref b10), .val (.int (1 : Int32))] [])) _
    refine XS.iconst X12.here hx rfl (hb hby at_177) ?_
    show Steps p.tables e below (T12.setTop (mkF m 178 #[.val (.int p1), .val (.int p2), .val (.ref b1), .val (.ref b3), .val (.ref c5), .val (.ref c6), .val (.ref c7), .val (.int (1 : Int32)), .val (.ref c5), .val (.ref b3), .val (.int (1 : Int32)), .val (.ref b10), .val (.ref b10), .val (.ref b10), .val (.int (1 : Int32))] [(.int (1 : Int32))])) _
    refine XS.goto X12.here hx rfl (pc0 := 178) (pc' := 182) rfl (hb hby at_178) (by decide) (by decide) ?_
    show Steps p.tables e below (T12.setTop (mkF m 182 #[.val (.int p1), .val (.int p2), .val (.ref b1), .val (.ref b3), .val (.ref c5), .val (.ref c6), .val (.ref c7), .val (.int (1 : Int32)), .val (.ref c5), .val (.ref b3), .val (.int (1 : Int32)), .val (.ref b10), .val (.ref b10), .val (.ref b10), .val (.int (1 : Int32))] [(.int (1 : Int32))])) _
    exact retN X12 hx (t := .boolean) Bd.returns (by simp) (hb hby at_182) hr
  · show Q0 Z p1 p2 h0 n0 _ T12.heap _
    rw [eh12]
    exact ⟨rfl, N12⟩
set_option maxRecDepth 65536 in
set_option maxHeartbeats 40000000 in
theorem rm0_1f (l : Launch) (Z : State) (a0 : Array Value) (hw : ∀ d ∈ tables_1, d.before a0 Z = true) (ws : List Jvm.Cond) (p1 p2 : Int32) (h0 : Heap) (n0 : Nat) (Z0 : n0 ≤ h0.size) (hd : (p1 &&& (3 : Int32)) = (1 : Int32)) (hc125 : ¬ ((p2 &&& (1 : Int32)) = (0 : Int32))) :
    MetFree l x (head1 (Jvm.Cond.code x code maxLocals ret :: ws) room_1) (fun a U => a = #[(.int p1), (.int p2)] ∧ Z.Warmed39 U.vm ∧ U.heap = h0) (fun _ _ _ _ _ => True) (fun _ U o U' => ∃ v L, o = .returned v ∧ Q0 Z p1 p2 h0 n0 v U'.heap L ∧ FrameEnd U o U' L room_1.cells room_1.slots) := by
  refine MetFree.of_bodySF (plainFor_of_name pn_0) hisR ?_
  intro p e s m args below meth c s₁ Bd hml0 hP hK
  obtain ⟨rfl, hZ, hh⟩ := hP
  have hx := Bd.exec
  have hby := Bd.bytes
  have hml : c.maxLocals = 15 := hml0
  have hown : s.vm.findClass "com/example/roteiro/roteiro/lang/ScopeRootPinLaw" = some m.cls := findClass_of_methodNamed Bd.named
  have hnm := (name_of_methodNamed Bd.named Bd.method).1
  have X0 : Stand p l e room_1 s m #[(.int p1), (.int p2)] below meth c s₁ [] 0 0 := Stand.of_body Bd
  have e0 : s₁.heap = h0 := by rw [← hh, Bd.state]; rfl
  have N0 := Fr.nil n0
  have pre0 : ∀ t, Steps p.tables e below (s₁.setTop (mkF m 0 #[.val (.int p1), .val (.int p2), .unset, .unset, .unset, .unset, .unset, .unset, .unset, .unset, .unset, .unset, .unset, .unset, .unset] [])) t → Steps p.tables e below (s₁.setTop (entryFrame m #[(.int p1), (.int p2)] maxLocals)) t := fun t k => castTop (ef_0 m p1 p2) k
  obtain ⟨T1, h1, X1, e1, E1, A1, D1, -, st1⟩ := newO X0 hx hZ hown (hw _ (List.mem_of_getElem? (i := 0) rfl)) (hw _ (List.mem_of_getElem? (i := 1) rfl)) (hw _ (List.mem_of_getElem? (i := 2) rfl)) e0 (g := (mkF m 0 #[.val (.int p1), .val (.int p2), .unset, .unset, .unset, .unset, .unset, .unset, .unset, .unset, .unset, .unset, .unset, .unset, .unset] [])) rfl (hb hby at_0) (by decide) (by decide)
  obtain ⟨b1, g1⟩ : ∃ z, z = h0.size := ⟨_, rfl⟩
  rw [← g1] at A1 D1 st1
  have gb1 : n0 ≤ b1 := Nat.le_trans Z0 (Nat.le_of_eq g1.symm)
  have Z1 : n0 ≤ h1.size := Nat.le_trans Z0 E1.1
  have F_b1_elements_1 : Fld Z h1 b1 "com/example/roteiro/roteiro/lang/Libraries" "elements" "Ljava/util/Map;" .null := D1 (Or.inr (hw _ (List.mem_of_getElem? (i := 26) rfl))) (ty := (.object "java/util/Map")) (by decide)
  have F_b1_bareNames_1 : Fld Z h1 b1 "com/example/roteiro/roteiro/lang/Libraries" "bareNames" "Ljava/util/Map;" .null := D1 (Or.inr (hw _ (List.mem_of_getElem? (i := 28) rfl))) (ty := (.object "java/util/Map")) (by decide)
  obtain ⟨_, _, ⟨T2, L2, k2, n2⟩, -, X2, ⟨Lc2, hQ2, l2, y2, z2⟩, st2⟩ := X1.specialBack hx (y := (⟨"com/example/roteiro/roteiro/lang/Libraries", "<init>", "()V"⟩ : MethodName)) rfl hown (mvT hZ (hw _ (List.mem_of_getElem? (i := 3) rfl))) (mvT hZ (hw _ (List.mem_of_getElem? (i := 4) rfl))) (mvT hZ (hw _ (List.mem_of_getElem? (i := 5) rfl))) (by decide) (backOf (W := 1) (rmLb l Z a0 hw [] b1 _ _ h1 n0 Z1 A1 F_b1_elements_1 F_b1_bareNames_1 gb1) hZ (hw _ (List.mem_of_getElem? (i := 5) rfl)) (hw _ (List.mem_of_getElem? (i := 2) rfl)) (by decide) (by decide)) (g := (mkF m 4 #[.val (.int p1), .val (.int p2), .unset, .unset, .unset, .unset, .unset, .unset, .unset, .unset, .unset, .unset, .unset, .unset, .unset] [(.ref b1), (.ref b1)])) rfl (by rw [hml]; rfl) (Steps.refl _) (a := b1) (argsL := []) (rest := [(.ref b1)]) (lenOf pd_0_0 rfl) rfl (by show 2 * 0 + _ ≤ _; exact Nat.le_of_eq rfl) (hb hby at_4) (fun _ _ => ⟨rfl, e1, (by decide : 1 + 2 ≤ _), (by decide : 2 + 16 ≤ _)⟩)
  dsimp only [Pt.U, Pt.locs, Pt.cells, Pt.slots] at X2 l2 y2 z2 st2 hQ2
  subst l2 y2 z2
  obtain ⟨rfl, N2q, K2⟩ := hQ2
  have N2 := Fr.app N0 N2q
  have E_b1_2 := A1.keep K2
  have Z2 : n0 ≤ T2.heap.size := Nat.le_trans Z1 K2.1
  obtain ⟨T3, h3, X3, e3, E3, A3, D3, -, st3⟩ := newO X2 hx hZ hown (hw _ (List.mem_of_getElem? (i := 29) rfl)) (hw _ (List.mem_of_getElem? (i := 30) rfl)) (hw _ (List.mem_of_getElem? (i := 31) rfl)) rfl (g := (mkF m 8 #[.val (.int p1), .val (.int p2), .val (.ref b1), .unset, .unset, .unset, .unset, .unset, .unset, .unset, .unset, .unset, .unset, .unset, .unset] [])) rfl (hb hby at_8) (by decide) (by decide)
  obtain ⟨b3, g3⟩ : ∃ z, z = T2.heap.size := ⟨_, rfl⟩
  rw [← g3] at A3 D3 st3
  have gb3 : n0 ≤ b3 := Nat.le_trans Z2 (Nat.le_of_eq g3.symm)
  have Z3 : n0 ≤ h3.size := Nat.le_trans Z2 E3.1
  have F_b3_parent_3 : Fld Z h3 b3 "com/example/roteiro/roteiro/lang/Scope" "parent" "Lcom/example/roteiro/roteiro/lang/Scope;" .null := D3 (Or.inr (hw _ (List.mem_of_getElem? (i := 40) rfl))) (ty := (.object "com/example/roteiro/roteiro/lang/Scope")) (by decide)
  have F_b3_libraries_3 : Fld Z h3 b3 "com/example/roteiro/roteiro/lang/Scope" "libraries" "Lcom/example/roteiro/roteiro/lang/Libraries;" .null := D3 (Or.inr (hw _ (List.mem_of_getElem? (i := 42) rfl))) (ty := (.object "com/example/roteiro/roteiro/lang/Libraries")) (by decide)
  obtain ⟨_, _, ⟨T4, L4, k4, n4⟩, -, X4, ⟨Lc4, hQ4, l4, y4, z4⟩, st4⟩ := X3.specialBack hx (y := (⟨"com/example/roteiro/roteiro/lang/Scope", "<init>", "(Lcom/example/roteiro/roteiro/lang/Libraries;)V"⟩ : MethodName)) rfl hown (mvT hZ (hw _ (List.mem_of_getElem? (i := 32) rfl))) (mvT hZ (hw _ (List.mem_of_getElem? (i := 33) rfl))) (mvT hZ (hw _ (List.mem_of_getElem? (i := 34) rfl))) (by decide) (backOf (W := 1) (rmI1 l Z a0 hw [] b3 b1 _ _ h3 n0 Z3 A3 F_b3_parent_3 F_b3_libraries_3 gb3) hZ (hw _ (List.mem_of_getElem? (i := 34) rfl)) (hw _ (List.mem_of_getElem? (i := 31) rfl)) (by decide) (by decide)) (g := (mkF m 13 #[.val (.int p1), .val (.int p2), .val (.ref b1), .unset, .unset, .unset, .unset, .unset, .unset, .unset, .unset, .unset, .unset, .unset, .unset] [(.ref b1), (.ref b3), (.ref b3)])) rfl (by rw [hml]; rfl) (Steps.refl _) (a := b3) (argsL := [(.ref b1)]) (rest := [(.ref b3)]) (lenOf pd_0_1 rfl) rfl (by show 2 * 0 + _ ≤ _; exact Nat.le_of_eq rfl) (hb hby at_13) (fun _ _ => ⟨rfl, e3, (by decide : 4 + 0 ≤ _), (by decide : 21 + 0 ≤ _)⟩)
  dsimp only [Pt.U, Pt.locs, Pt.cells, Pt.slots] at X4 l4 y4 z4 st4 hQ4
  subst l4 y4 z4
  obtain ⟨rfl, N4q, K4, Fp4, Fl4⟩ := hQ4
  have N4 := Fr.app N2 N4q
  have E_b3_4 := A3.keep K4
  have Z4 : n0 ≤ T4.heap.size := Nat.le_trans Z3 K4.1
  obtain ⟨cq5, kq5, q5a, q5b, q5c⟩ := isOf hZ rfl E_b3_4
  obtain ⟨_, _, ⟨T5, L5, k5, n5⟩, -, X5, ⟨Lc5, hQ5, l5, y5, z5⟩, st5⟩ := X4.virtualBack hx (y := (⟨"com/example/roteiro/roteiro/lang/Scope", "child", "()Lcom/example/roteiro/roteiro/lang/Scope;"⟩ : MethodName)) (z := (⟨"com/example/roteiro/roteiro/lang/Scope", "child", "()Lcom/example/roteiro/roteiro/lang/Scope;"⟩ : MethodName)) hown (mvT hZ (hw _ (List.mem_of_getElem? (i := 43) rfl))) (mvT hZ (hw _ (List.mem_of_getElem? (i := 44) rfl))) (notFace_of_selects (args := #[]) (mvT hZ (hw _ (List.mem_of_getElem? (i := 46) rfl)))) (mvT hZ (hw _ (List.mem_of_getElem? (i := 46) rfl))) (mvT hZ (hw _ (List.mem_of_getElem? (i := 45) rfl))) (by decide) (backOf (W := 0) (rmCh l Z a0 hw [] b3 b1 T4.heap n0 Z4 Fl4) hZ (hw _ (List.mem_of_getElem? (i := 47) rfl)) (hw _ (List.mem_of_getElem? (i := 31) rfl)) (by decide) (by decide)) q5a q5c (g := (mkF m 18 #[.val (.int p1), .val (.int p2), .val (.ref b1), .val (.ref b3), .unset, .unset, .unset, .unset, .unset, .unset, .unset, .unset, .unset, .unset, .unset] [(.ref b3)])) rfl (by rw [hml]; rfl) (Steps.refl _) (argsL := []) (rest := []) (lenOf pd_0_2 rfl) rfl (by show 2 * 0 + _ ≤ _; exact Nat.le_of_eq rfl) (hb hby at_18) (fun _ _ => ⟨rfl, rfl, (by decide : 4 + 1 ≤ _), (by decide : 21 + 3 ≤ _)⟩)
  dsimp only [Pt.U, Pt.locs, Pt.cells, Pt.slots] at X5 l5 y5 z5 st5 hQ5
  subst l5 y5 z5
  obtain ⟨rfl, N5q, K5, Ev5, Fp5, Fl5⟩ := hQ5
  have N5 := Fr.app N4 N5q
  have E_b3_5 := E_b3_4.keep K5
  have F_b3_parent_5 := Fp4.keep K5 nin0
  have F_b3_libraries_5 := Fl4.keep K5 nin0
  have Z5 : n0 ≤ T5.heap.size := Nat.le_trans Z4 K5.1
  obtain ⟨c5, gc5⟩ : ∃ z, z = T4.heap.size := ⟨_, rfl⟩
  rw [← gc5] at st5 Ev5 Fp5 Fl5
  obtain ⟨cq6, kq6, q6a, q6b, q6c⟩ := isOf hZ rfl Ev5
  obtain ⟨_, _, ⟨T6, L6, k6, n6⟩, -, X6, ⟨Lc6, hQ6, l6, y6, z6⟩, st6⟩ := X5.virtualBack hx (y := (⟨"com/example/roteiro/roteiro/lang/Scope", "child", "()Lcom/example/roteiro/roteiro/lang/Scope;"⟩ : MethodName)) (z := (⟨"com/example/roteiro/roteiro/lang/Scope", "child", "()Lcom/example/roteiro/roteiro/lang/Scope;"⟩ : MethodName)) hown (mvT hZ (hw _ (List.mem_of_getElem? (i := 43) rfl))) (mvT hZ (hw _ (List.mem_of_getElem? (i := 44) rfl))) (notFace_of_selects (args := #[]) (mvT hZ (hw _ (List.mem_of_getElem? (i := 46) rfl)))) (mvT hZ (hw _ (List.mem_of_getElem? (i := 46) rfl))) (mvT hZ (hw _ (List.mem_of_getElem? (i := 45) rfl))) (by decide) (backOf (W := 0) (rmCh l Z a0 hw [] c5 b1 T5.heap n0 Z5 Fl5) hZ (hw _ (List.mem_of_getElem? (i := 47) rfl)) (hw _ (List.mem_of_getElem? (i := 31) rfl)) (by decide) (by decide)) q6a q6c (g := (mkF m 25 #[.val (.int p1), .val (.int p2), .val (.ref b1), .val (.ref b3), .val (.ref c5), .unset, .unset, .unset, .unset, .unset, .unset, .unset, .unset, .unset, .unset] [(.ref c5)])) rfl (by rw [hml]; rfl) (Steps.refl _) (argsL := []) (rest := []) (lenOf pd_0_2 rfl) rfl (by show 2 * 0 + _ ≤ _; exact Nat.le_of_eq rfl) (hb hby at_25) (fun _ _ => ⟨rfl, rfl, (by decide : 5 + 1 ≤ _), (by decide : 24 + 3 ≤ _)⟩)
  dsimp only [Pt.U, Pt.locs, Pt.cells, Pt.slots] at X6 l6 y6 z6 st6 hQ6
  subst l6 y6 z6
  obtain ⟨rfl, N6q, K6, Ev6, Fp6, Fl6⟩ := hQ6
  have N6 := Fr.app N5 N6q
  have E_b3_6 := E_b3_5.keep K6
  have F_b3_parent_6 := F_b3_parent_5.keep K6 nin0
  have F_b3_libraries_6 := F_b3_libraries_5.keep K6 nin0
  have E_c5_6 := Ev5.keep K6
  have F_c5_parent_6 := Fp5.keep K6 nin0
  have F_c5_libraries_6 := Fl5.keep K6 nin0
  have Z6 : n0 ≤ T6.heap.size := Nat.le_trans Z5 K6.1
  obtain ⟨c6, gc6⟩ : ∃ z, z = T5.heap.size := ⟨_, rfl⟩
  rw [← gc6] at st6 Ev6 Fp6 Fl6
  obtain ⟨cq7, kq7, q7a, q7b, q7c⟩ := isOf hZ rfl Ev6
  obtain ⟨_, _, ⟨T7, L7, k7, n7⟩, -, X7, ⟨Lc7, hQ7, l7, y7, z7⟩, st7⟩ := X6.virtualBack hx (y := (⟨"com/example/roteiro/roteiro/lang/Scope", "child", "()Lcom/example/roteiro/roteiro/lang/Scope;"⟩ : MethodName)) (z := (⟨"com/example/roteiro/roteiro/lang/Scope", "child", "()Lcom/example/roteiro/roteiro/lang/Scope;"⟩ : MethodName)) hown (mvT hZ (hw _ (List.mem_of_getElem? (i := 43) rfl))) (mvT hZ (hw _ (List.mem_of_getElem? (i := 44) rfl))) (notFace_of_selects (args := #[]) (mvT hZ (hw _ (List.mem_of_getElem? (i := 46) rfl)))) (mvT hZ (hw _ (List.mem_of_getElem? (i := 46) rfl))) (mvT hZ (hw _ (List.mem_of_getElem? (i := 45) rfl))) (by decide) (backOf (W := 0) (rmCh l Z a0 hw [] c6 b1 T6.heap n0 Z6 Fl6) hZ (hw _ (List.mem_of_getElem? (i := 47) rfl)) (hw _ (List.mem_of_getElem? (i := 31) rfl)) (by decide) (by decide)) q7a q7c (g := (mkF m 32 #[.val (.int p1), .val (.int p2), .val (.ref b1), .val (.ref b3), .val (.ref c5), .val (.ref c6), .unset, .unset, .unset, .unset, .unset, .unset, .unset, .unset, .unset] [(.ref c6)])) rfl (by rw [hml]; rfl) (Steps.refl _) (argsL := []) (rest := []) (lenOf pd_0_2 rfl) rfl (by show 2 * 0 + _ ≤ _; exact Nat.le_of_eq rfl) (hb hby at_32) (fun _ _ => ⟨rfl, rfl, (by decide : 6 + 1 ≤ _), (by decide : 27 + 3 ≤ _)⟩)
  dsimp only [Pt.U, Pt.locs, Pt.cells, Pt.slots] at X7 l7 y7 z7 st7 hQ7
  subst l7 y7 z7
  obtain ⟨rfl, N7q, K7, Ev7, Fp7, Fl7⟩ := hQ7
  have N7 := Fr.app N6 N7q
  have E_b3_7 := E_b3_6.keep K7
  have F_b3_parent_7 := F_b3_parent_6.keep K7 nin0
  have F_b3_libraries_7 := F_b3_libraries_6.keep K7 nin0
  have E_c5_7 := E_c5_6.keep K7
  have F_c5_parent_7 := F_c5_parent_6.keep K7 nin0
  have F_c5_libraries_7 := F_c5_libraries_6.keep K7 nin0
  have E_c6_7 := Ev6.keep K7
  have F_c6_parent_7 := Fp6.keep K7 nin0
  have F_c6_libraries_7 := Fl6.keep K7 nin0
  have Z7 : n0 ≤ T7.heap.size := Nat.le_trans Z6 K7.1
  obtain ⟨c7, gc7⟩ : ∃ z, z = T6.heap.size := ⟨_, rfl⟩
  rw [← gc7] at st7 Ev7 Fp7 Fl7
  obtain ⟨cq8, kq8, q8a, q8b, q8c⟩ := isOf hZ rfl E_c5_7
  obtain ⟨_, _, ⟨T8, L8, k8, n8⟩, -, X8, ⟨Lc8, hQ8, l8, y8, z8⟩, st8⟩ := X7.virtualBack hx (y := (⟨"com/example/roteiro/roteiro/lang/Scope", "root", "()Lcom/example/roteiro/roteiro/lang/Scope;"⟩ : MethodName)) (z := (⟨"com/example/roteiro/roteiro/lang/Scope", "root", "()Lcom/example/roteiro/roteiro/lang/Scope;"⟩ : MethodName)) hown (mvT hZ (hw _ (List.mem_of_getElem? (i := 49) rfl))) (mvT hZ (hw _ (List.mem_of_getElem? (i := 50) rfl))) (notFace_of_selects (args := #[]) (mvT hZ (hw _ (List.mem_of_getElem? (i := 52) rfl)))) (mvT hZ (hw _ (List.mem_of_getElem? (i := 52) rfl))) (mvT hZ (hw _ (List.mem_of_getElem? (i := 51) rfl))) (by decide) (backOf (W := 0) (rmRo1 l Z a0 hw [] c5 b3 T7.heap n0 Z7 F_c5_parent_7 F_b3_parent_7) hZ (hw _ (List.mem_of_getElem? (i := 53) rfl)) (hw _ (List.mem_of_getElem? (i := 31) rfl)) (by decide) (by decide)) q8a q8c (g := (mkF m 85 #[.val (.int p1), .val (.int p2), .val (.ref b1), .val (.ref b3), .val (.ref c5), .val (.ref c6), .val (.ref c7), .val (.int (1 : Int32)), .val (.ref c5), .unset, .unset, .unset, .unset, .unset, .unset] [(.ref c5)])) rfl (by rw [hml]; rfl) (Steps.refl _) (argsL := []) (rest := []) (lenOf pd_0_2 rfl) rfl (by show 2 * 0 + _ ≤ _; exact Nat.le_of_eq rfl) (hb hby at_85) (fun _ _ => ⟨rfl, rfl, (by decide : 7 + 0 ≤ _), (by decide : 30 + 0 ≤ _)⟩)
  dsimp only [Pt.U, Pt.locs, Pt.cells, Pt.slots] at X8 l8 y8 z8 st8 hQ8
  subst l8 y8 z8
  obtain ⟨rfl, N8q, eh8⟩ := hQ8
  have N8 := Fr.app N7 N8q
  obtain ⟨cq9, kq9, q9a, q9b, q9c⟩ := isOf hZ eh8 E_b3_7
  obtain ⟨_, _, ⟨T9, L9, k9, n9⟩, -, X9, ⟨Lc9, hQ9, l9, y9, z9⟩, st9⟩ := X8.virtualBack hx (y := (⟨"com/example/roteiro/roteiro/lang/Scope", "root", "()Lcom/example/roteiro/roteiro/lang/Scope;"⟩ : MethodName)) (z := (⟨"com/example/roteiro/roteiro/lang/Scope", "root", "()Lcom/example/roteiro/roteiro/lang/Scope;"⟩ : MethodName)) hown (mvT hZ (hw _ (List.mem_of_getElem? (i := 49) rfl))) (mvT hZ (hw _ (List.mem_of_getElem? (i := 50) rfl))) (notFace_of_selects (args := #[]) (mvT hZ (hw _ (List.mem_of_getElem? (i := 52) rfl)))) (mvT hZ (hw _ (List.mem_of_getElem? (i := 52) rfl))) (mvT hZ (hw _ (List.mem_of_getElem? (i := 51) rfl))) (by decide) (backOf (W := 0) (rmRo0 l Z a0 hw [] b3 T7.heap n0 Z7 F_b3_parent_7) hZ (hw _ (List.mem_of_getElem? (i := 53) rfl)) (hw _ (List.mem_of_getElem? (i := 31) rfl)) (by decide) (by decide)) q9a q9c (g := (mkF m 98 #[.val (.int p1), .val (.int p2), .val (.ref b1), .val (.ref b3), .val (.ref c5), .val (.ref c6), .val (.ref c7), .val (.int (1 : Int32)), .val (.ref c5), .val (.ref b3), .unset, .unset, .unset, .unset, .unset] [(.ref b3)])) rfl (by rw [hml]; rfl) (Steps.refl _) (argsL := []) (rest := []) (lenOf pd_0_2 rfl) rfl (by show 2 * 0 + _ ≤ _; exact Nat.le_of_eq rfl) (hb hby at_98) (fun _ _ => ⟨rfl, eh8, (by decide : 7 + 0 ≤ _), (by decide : 30 + 0 ≤ _)⟩)
  dsimp only [Pt.U, Pt.locs, Pt.cells, Pt.slots] at X9 l9 y9 z9 st9 hQ9
  subst l9 y9 z9
  obtain ⟨rfl, N9q, eh9⟩ := hQ9
  have N9 := Fr.app N8 N9q
  obtain ⟨T10, h10, X10, e10, E10, A10, D10, -, st10⟩ := newO X9 hx hZ hown (hw _ (List.mem_of_getElem? (i := 29) rfl)) (hw _ (List.mem_of_getElem? (i := 30) rfl)) (hw _ (List.mem_of_getElem? (i := 31) rfl)) eh9 (g := (mkF m 112 #[.val (.int p1), .val (.int p2), .val (.ref b1), .val (.ref b3), .val (.ref c5), .val (.ref c6), .val (.ref c7), .val (.int (1 : Int32)), .val (.ref c5), .val (.ref b3), .val (.int (1 : Int32)), .unset, .unset, .unset, .unset] [])) rfl (hb hby at_112) (by decide) (by decide)
  obtain ⟨b10, g10⟩ : ∃ z, z = T7.heap.size := ⟨_, rfl⟩
  rw [← g10] at A10 D10 st10
  have gb10 : n0 ≤ b10 := Nat.le_trans Z7 (Nat.le_of_eq g10.symm)
  have ne_b3_b10 : b3 ≠ b10 := (Nat.ne_of_lt (Nat.lt_of_lt_of_le E_b3_7.lt (Nat.le_of_eq g10.symm)))
  have ne_c5_b10 : c5 ≠ b10 := (Nat.ne_of_lt (Nat.lt_of_lt_of_le E_c5_7.lt (Nat.le_of_eq g10.symm)))
  have ne_c6_b10 : c6 ≠ b10 := (Nat.ne_of_lt (Nat.lt_of_lt_of_le E_c6_7.lt (Nat.le_of_eq g10.symm)))
  have ne_c7_b10 : c7 ≠ b10 := (Nat.ne_of_lt (Nat.lt_of_lt_of_le Ev7.lt (Nat.le_of_eq g10.symm)))
  have E_b3_10 := E_b3_7.ext E10
  have F_b3_parent_10 := F_b3_parent_7.ext E10
  have F_b3_libraries_10 := F_b3_libraries_7.ext E10
  have E_c5_10 := E_c5_7.ext E10
  have F_c5_parent_10 := F_c5_parent_7.ext E10
  have F_c5_libraries_10 := F_c5_libraries_7.ext E10
  have E_c6_10 := E_c6_7.ext E10
  have F_c6_parent_10 := F_c6_parent_7.ext E10
  have F_c6_libraries_10 := F_c6_libraries_7.ext E10
  have E_c7_10 := Ev7.ext E10
  have F_c7_parent_10 := Fp7.ext E10
  have F_c7_libraries_10 := Fl7.ext E10
  have Z10 : n0 ≤ h10.size := Nat.le_trans Z7 E10.1
  have F_b10_parent_10 : Fld Z h10 b10 "com/example/roteiro/roteiro/lang/Scope" "parent" "Lcom/example/roteiro/roteiro/lang/Scope;" .null := D10 (Or.inr (hw _ (List.mem_of_getElem? (i := 40) rfl))) (ty := (.object "com/example/roteiro/roteiro/lang/Scope")) (by decide)
  have F_b10_libraries_10 : Fld Z h10 b10 "com/example/roteiro/roteiro/lang/Scope" "libraries" "Lcom/example/roteiro/roteiro/lang/Libraries;" .null := D10 (Or.inr (hw _ (List.mem_of_getElem? (i := 42) rfl))) (ty := (.object "com/example/roteiro/roteiro/lang/Libraries")) (by decide)
  obtain ⟨_, _, ⟨T11, L11, k11, n11⟩, -, X11, ⟨Lc11, hQ11, l11, y11, z11⟩, st11⟩ := X10.specialBack hx (y := (⟨"com/example/roteiro/roteiro/lang/Scope", "<init>", "(Lcom/example/roteiro/roteiro/lang/Libraries;)V"⟩ : MethodName)) rfl hown (mvT hZ (hw _ (List.mem_of_getElem? (i := 32) rfl))) (mvT hZ (hw _ (List.mem_of_getElem? (i := 33) rfl))) (mvT hZ (hw _ (List.mem_of_getElem? (i := 34) rfl))) (by decide) (backOf (W := 1) (rmI1 l Z a0 hw [] b10 b1 _ _ h10 n0 Z10 A10 F_b10_parent_10 F_b10_libraries_10 gb10) hZ (hw _ (List.mem_of_getElem? (i := 34) rfl)) (hw _ (List.mem_of_getElem? (i := 31) rfl)) (by decide) (by decide)) (g := (mkF m 117 #[.val (.int p1), .val (.int p2), .val (.ref b1), .val (.ref b3), .val (.ref c5), .val (.ref c6), .val (.ref c7), .val (.int (1 : Int32)), .val (.ref c5), .val (.ref b3), .val (.int (1 : Int32)), .unset, .unset, .unset, .unset] [(.ref b1), (.ref b10), (.ref b10)])) rfl (by rw [hml]; rfl) (Steps.refl _) (a := b10) (argsL := [(.ref b1)]) (rest := [(.ref b10)]) (lenOf pd_0_1 rfl) rfl (by show 2 * 0 + _ ≤ _; exact Nat.le_of_eq rfl) (hb hby at_117) (fun _ _ => ⟨rfl, e10, (by decide : 8 + 0 ≤ _), (by decide : 33 + 0 ≤ _)⟩)
  dsimp only [Pt.U, Pt.locs, Pt.cells, Pt.slots] at X11 l11 y11 z11 st11 hQ11
  subst l11 y11 z11
  obtain ⟨rfl, N11q, K11, Fp11, Fl11⟩ := hQ11
  have N11 := Fr.app N9 N11q
  have E_b3_11 := E_b3_10.keep K11
  have F_b3_parent_11 := F_b3_parent_10.keep K11 (ninS ne_b3_b10 nin0)
  have F_b3_libraries_11 := F_b3_libraries_10.keep K11 (ninS ne_b3_b10 nin0)
  have E_c5_11 := E_c5_10.keep K11
  have F_c5_parent_11 := F_c5_parent_10.keep K11 (ninS ne_c5_b10 nin0)
  have F_c5_libraries_11 := F_c5_libraries_10.keep K11 (ninS ne_c5_b10 nin0)
  have E_c6_11 := E_c6_10.keep K11
  have F_c6_parent_11 := F_c6_parent_10.keep K11 (ninS ne_c6_b10 nin0)
  have F_c6_libraries_11 := F_c6_libraries_10.keep K11 (ninS ne_c6_b10 nin0)
  have E_c7_11 := E_c7_10.keep K11
  have F_c7_parent_11 := F_c7_parent_10.keep K11 (ninS ne_c7_b10 nin0)
  have F_c7_libraries_11 := F_c7_libraries_10.keep K11 (ninS ne_c7_b10 nin0)
  have E_b10_11 := A10.keep K11
  have Z11 : n0 ≤ T11.heap.size := Nat.le_trans Z10 K11.1
  obtain ⟨cq12, kq12, q12a, q12b, q12c⟩ := isOf hZ rfl E_b10_11
  obtain ⟨_, _, ⟨T12, L12, k12, n12⟩, -, X12, ⟨Lc12, hQ12, l12, y12, z12⟩, st12⟩ := X11.virtualBack hx (y := (⟨"com/example/roteiro/roteiro/lang/Scope", "child", "()Lcom/example/roteiro/roteiro/lang/Scope;"⟩ : MethodName)) (z := (⟨"com/example/roteiro/roteiro/lang/Scope", "child", "()Lcom/example/roteiro/roteiro/lang/Scope;"⟩ : MethodName)) hown (mvT hZ (hw _ (List.mem_of_getElem? (i := 43) rfl))) (mvT hZ (hw _ (List.mem_of_getElem? (i := 44) rfl))) (notFace_of_selects (args := #[]) (mvT hZ (hw _ (List.mem_of_getElem? (i := 46) rfl)))) (mvT hZ (hw _ (List.mem_of_getElem? (i := 46) rfl))) (mvT hZ (hw _ (List.mem_of_getElem? (i := 45) rfl))) (by decide) (backOf (W := 0) (rmCh l Z a0 hw [] b10 b1 T11.heap n0 Z11 Fl11) hZ (hw _ (List.mem_of_getElem? (i := 47) rfl)) (hw _ (List.mem_of_getElem? (i := 31) rfl)) (by decide) (by decide)) q12a q12c (g := (mkF m 130 #[.val (.int p1), .val (.int p2), .val (.ref b1), .val (.ref b3), .val (.ref c5), .val (.ref c6), .val (.ref c7), .val (.int (1 : Int32)), .val (.ref c5), .val (.ref b3), .val (.int (1 : Int32)), .val (.ref b10), .unset, .unset, .unset] [(.ref b10)])) rfl (by rw [hml]; rfl) (Steps.refl _) (argsL := []) (rest := []) (lenOf pd_0_2 rfl) rfl (by show 2 * 0 + _ ≤ _; exact Nat.le_of_eq rfl) (hb hby at_130) (fun _ _ => ⟨rfl, rfl, (by decide : 8 + 1 ≤ _), (by decide : 33 + 3 ≤ _)⟩)
  dsimp only [Pt.U, Pt.locs, Pt.cells, Pt.slots] at X12 l12 y12 z12 st12 hQ12
  subst l12 y12 z12
  obtain ⟨rfl, N12q, K12, Ev12, Fp12, Fl12⟩ := hQ12
  have N12 := Fr.app N11 N12q
  have E_b3_12 := E_b3_11.keep K12
  have F_b3_parent_12 := F_b3_parent_11.keep K12 nin0
  have F_b3_libraries_12 := F_b3_libraries_11.keep K12 nin0
  have E_c5_12 := E_c5_11.keep K12
  have F_c5_parent_12 := F_c5_parent_11.keep K12 nin0
  have F_c5_libraries_12 := F_c5_libraries_11.keep K12 nin0
  have E_c6_12 := E_c6_11.keep K12
  have F_c6_parent_12 := F_c6_parent_11.keep K12 nin0
  have F_c6_libraries_12 := F_c6_libraries_11.keep K12 nin0
  have E_c7_12 := E_c7_11.keep K12
  have F_c7_parent_12 := F_c7_parent_11.keep K12 nin0
  have F_c7_libraries_12 := F_c7_libraries_11.keep K12 nin0
  have E_b10_12 := E_b10_11.keep K12
  have F_b10_parent_12 := Fp11.keep K12 nin0
  have F_b10_libraries_12 := Fl11.keep K12 nin0
  have Z12 : n0 ≤ T12.heap.size := Nat.le_trans Z11 K12.1
  obtain ⟨c12, gc12⟩ : ∃ z, z = T11.heap.size := ⟨_, rfl⟩
  rw [← gc12] at st12 Ev12 Fp12 Fl12
  obtain ⟨cq13, kq13, q13a, q13b, q13c⟩ := isOf hZ rfl Ev12
  obtain ⟨_, _, ⟨T13, L13, k13, n13⟩, -, X13, ⟨Lc13, hQ13, l13, y13, z13⟩, st13⟩ := X12.virtualBack hx (y := (⟨"com/example/roteiro/roteiro/lang/Scope", "root", "()Lcom/example/roteiro/roteiro/lang/Scope;"⟩ : MethodName)) (z := (⟨"com/example/roteiro/roteiro/lang/Scope", "root", "()Lcom/example/roteiro/roteiro/lang/Scope;"⟩ : MethodName)) hown (mvT hZ (hw _ (List.mem_of_getElem? (i := 49) rfl))) (mvT hZ (hw _ (List.mem_of_getElem? (i := 50) rfl))) (notFace_of_selects (args := #[]) (mvT hZ (hw _ (List.mem_of_getElem? (i := 52) rfl)))) (mvT hZ (hw _ (List.mem_of_getElem? (i := 52) rfl))) (mvT hZ (hw _ (List.mem_of_getElem? (i := 51) rfl))) (by decide) (backOf (W := 0) (rmRo1 l Z a0 hw [] c12 b10 T12.heap n0 Z12 Fp12 F_b10_parent_12) hZ (hw _ (List.mem_of_getElem? (i := 53) rfl)) (hw _ (List.mem_of_getElem? (i := 31) rfl)) (by decide) (by decide)) q13a q13c (g := (mkF m 142 #[.val (.int p1), .val (.int p2), .val (.ref b1), .val (.ref b3), .val (.ref c5), .val (.ref c6), .val (.ref c7), .val (.int (1 : Int32)), .val (.ref c5), .val (.ref b3), .val (.int (1 : Int32)), .val (.ref b10), .val (.ref c12), .unset, .unset] [(.ref c12)])) rfl (by rw [hml]; rfl) (Steps.refl _) (argsL := []) (rest := []) (lenOf pd_0_2 rfl) rfl (by show 2 * 0 + _ ≤ _; exact Nat.le_of_eq rfl) (hb hby at_142) (fun _ _ => ⟨rfl, rfl, (by decide : 9 + 0 ≤ _), (by decide : 36 + 0 ≤ _)⟩)
  dsimp only [Pt.U, Pt.locs, Pt.cells, Pt.slots] at X13 l13 y13 z13 st13 hQ13
  subst l13 y13 z13
  obtain ⟨rfl, N13q, eh13⟩ := hQ13
  have N13 := Fr.app N12 N13q
  obtain ⟨fs, hr, hrun, hended, hW, hsame⟩ := X13.leave (v := some (.int (1 : Int32))) (fun h => by rw [Bd.returns] at h; cases h)
  refine ⟨_, _, pre0 _ ?_, hrun, hended, _, _, rfl, ?_, ⟨_, rfl⟩, hW, hsame.mono (by decide) (by decide)⟩
  · show Steps p.tables e below (s₁.setTop (mkF m 0 #[.val (.int p1), .val (.int p2), .unset, .unset, .unset, .unset, .unset, .unset, .unset, .unset, .unset, .unset, .unset, .unset, .unset] [])) _
    refine st1 _ ?_
    show Steps p.tables e below (T1.setTop (mkF m 3 #[.val (.int p1), .val (.int p2), .unset, .unset, .unset, .unset, .unset, .unset, .unset, .unset, .unset, .unset, .unset, .unset, .unset] [(.ref b1)])) _
    refine XS.dup X1.here hx rfl (hb hby at_3) rfl rfl ?_
    show Steps p.tables e below (T1.setTop (mkF m 4 #[.val (.int p1), .val (.int p2), .unset, .unset, .unset, .unset, .unset, .unset, .unset, .unset, .unset, .unset, .unset, .unset, .unset] [(.ref b1), (.ref b1)])) _
    refine st2.trans ?_
    show Steps p.tables e below (T2.setTop (mkF m 7 #[.val (.int p1), .val (.int p2), .unset, .unset, .unset, .unset, .unset, .unset, .unset, .unset, .unset, .unset, .unset, .unset, .unset] [(.ref b1)])) _
    refine XS.astoreN X2.here hx rfl (hb hby at_7) rfl rfl (l' := #[.val (.int p1), .val (.int p2), .val (.ref b1), .unset, .unset, .unset, .unset, .unset, .unset, .unset, .unset, .unset, .unset, .unset, .unset]) rfl ?_
    show Steps p.tables e below (T2.setTop (mkF m 8 #[.val (.int p1), .val (.int p2), .val (.ref b1), .unset, .unset, .unset, .unset, .unset, .unset, .unset, .unset, .unset, .unset, .unset, .unset] [])) _
    refine st3 _ ?_
    show Steps p.tables e below (T3.setTop (mkF m 11 #[.val (.int p1), .val (.int p2), .val (.ref b1), .unset, .unset, .unset, .unset, .unset, .unset, .unset, .unset, .unset, .unset, .unset, .unset] [(.ref b3)])) _
    refine XS.dup X3.here hx rfl (hb hby at_11) rfl rfl ?_
    show Steps p.tables e below (T3.setTop (mkF m 12 #[.val (.int p1), .val (.int p2), .val (.ref b1), .unset, .unset, .unset, .unset, .unset, .unset, .unset, .unset, .unset, .unset, .unset, .unset] [(.ref b3), (.ref b3)])) _
    refine XS.aloadN X3.here hx rfl (hb hby at_12) rfl rfl ?_
    show Steps p.tables e below (T3.setTop (mkF m 13 #[.val (.int p1), .val (.int p2), .val (.ref b1), .unset, .unset, .unset, .unset, .unset, .unset, .unset, .unset, .unset, .unset, .unset, .unset] [(.ref b1), (.ref b3), (.ref b3)])) _
    refine st4.trans ?_
    show Steps p.tables e below (T4.setTop (mkF m 16 #[.val (.int p1), .val (.int p2), .val (.ref b1), .unset, .unset, .unset, .unset, .unset, .unset, .unset, .unset, .unset, .unset, .unset, .unset] [(.ref b3)])) _
    refine XS.astoreN X4.here hx rfl (hb hby at_16) rfl rfl (l' := #[.val (.int p1), .val (.int p2), .val (.ref b1), .val (.ref b3), .unset, .unset, .unset, .unset, .unset, .unset, .unset, .unset, .unset, .unset, .unset]) rfl ?_
    show Steps p.tables e below (T4.setTop (mkF m 17 #[.val (.int p1), .val (.int p2), .val (.ref b1), .val (.ref b3), .unset, .unset, .unset, .unset, .unset, .unset, .unset, .unset, .unset, .unset, .unset] [])) _
    refine XS.aloadN X4.here hx rfl (hb hby at_17) rfl rfl ?_
    show Steps p.tables e below (T4.setTop (mkF m 18 #[.val (.int p1), .val (.int p2), .val (.ref b1), .val (.ref b3), .unset, .unset, .unset, .unset, .unset, .unset, .unset, .unset, .unset, .unset, .unset] [(.ref b3)])) _
    refine st5.trans ?_
    show Steps p.tables e below (T5.setTop (mkF m 21 #[.val (.int p1), .val (.int p2), .val (.ref b1), .val (.ref b3), .unset, .unset, .unset, .unset, .unset, .unset, .unset, .unset, .unset, .unset, .unset] [(.ref c5)])) _
    refine XS.astore X5.here hx rfl (hb hby at_21) rfl rfl (l' := #[.val (.int p1), .val (.int p2), .val (.ref b1), .val (.ref b3), .val (.ref c5), .unset, .unset, .unset, .unset, .unset, .unset, .unset, .unset, .unset, .unset]) rfl ?_
    show Steps p.tables e below (T5.setTop (mkF m 23 #[.val (.int p1), .val (.int p2), .val (.ref b1), .val (.ref b3), .val (.ref c5), .unset, .unset, .unset, .unset, .unset, .unset, .unset, .unset, .unset, .unset] [])) _
    refine XS.aload X5.here hx rfl (hb hby at_23) rfl rfl ?_
    show Steps p.tables e below (T5.setTop (mkF m 25 #[.val (.int p1), .val (.int p2), .val (.ref b1), .val (.ref b3), .val (.ref c5), .unset, .unset, .unset, .unset, .unset, .unset, .unset, .unset, .unset, .unset] [(.ref c5)])) _
    refine st6.trans ?_
    show Steps p.tables e below (T6.setTop (mkF m 28 #[.val (.int p1), .val (.int p2), .val (.ref b1), .val (.ref b3), .val (.ref c5), .unset, .unset, .unset, .unset, .unset, .unset, .unset, .unset, .unset, .unset] [(.ref c6)])) _
    refine XS.astore X6.here hx rfl (hb hby at_28) rfl rfl (l' := #[.val (.int p1), .val (.int p2), .val (.ref b1), .val (.ref b3), .val (.ref c5), .val (.ref c6), .unset, .unset, .unset, .unset, .unset, .unset, .unset, .unset, .unset]) rfl ?_
    show Steps p.tables e below (T6.setTop (mkF m 30 #[.val (.int p1), .val (.int p2), .val (.ref b1), .val (.ref b3), .val (.ref c5), .val (.ref c6), .unset, .unset, .unset, .unset, .unset, .unset, .unset, .unset, .unset] [])) _
    refine XS.aload X6.here hx rfl (hb hby at_30) rfl rfl ?_
    show Steps p.tables e below (T6.setTop (mkF m 32 #[.val (.int p1), .val (.int p2), .val (.ref b1), .val (.ref b3), .val (.ref c5), .val (.ref c6), .unset, .unset, .unset, .unset, .unset, .unset, .unset, .unset, .unset] [(.ref c6)])) _
    refine st7.trans ?_
    show Steps p.tables e below (T7.setTop (mkF m 35 #[.val (.int p1), .val (.int p2), .val (.ref b1), .val (.ref b3), .val (.ref c5), .val (.ref c6), .unset, .unset, .unset, .unset, .unset, .unset, .unset, .unset, .unset] [(.ref c7)])) _
    refine XS.astore X7.here hx rfl (hb hby at_35) rfl rfl (l' := #[.val (.int p1), .val (.int p2), .val (.ref b1), .val (.ref b3), .val (.ref c5), .val (.ref c6), .val (.ref c7), .unset, .unset, .unset, .unset, .unset, .unset, .unset, .unset]) rfl ?_
    show Steps p.tables e below (T7.setTop (mkF m 37 #[.val (.int p1), .val (.int p2), .val (.ref b1), .val (.ref b3), .val (.ref c5), .val (.ref c6), .val (.ref c7), .unset, .unset, .unset, .unset, .unset, .unset, .unset, .unset] [])) _
    refine XS.iloadN X7.here hx rfl (hb hby at_37) rfl ?_
    show Steps p.tables e below (T7.setTop (mkF m 38 #[.val (.int p1), .val (.int p2), .val (.ref b1), .val (.ref b3), .val (.ref c5), .val (.ref c6), .val (.ref c7), .unset, .unset, .unset, .unset, .unset, .unset, .unset, .unset] [(.int p1)])) _
    refine XS.iconst X7.here hx rfl (hb hby at_38) ?_
    show Steps p.tables e below (T7.setTop (mkF m 39 #[.val (.int p1), .val (.int p2), .val (.ref b1), .val (.ref b3), .val (.ref c5), .val (.ref c6), .val (.ref c7), .unset, .unset, .unset, .unset, .unset, .unset, .unset, .unset] [(.int (3 : Int32)), (.int p1)])) _
    refine XS.iand X7.here hx rfl (hb hby at_39) rfl ?_
    show Steps p.tables e below (T7.setTop (mkF m 40 #[.val (.int p1), .val (.int p2), .val (.ref b1), .val (.ref b3), .val (.ref c5), .val (.ref c6), .val (.ref c7), .unset, .unset, .unset, .unset, .unset, .unset, .unset, .unset] [(.int (p1 &&& (3 : Int32)))])) _
    rw [hd]
    show Steps p.tables e below (T7.setTop (mkF m 40 #[.val (.int p1), .val (.int p2), .val (.ref b1), .val (.ref b3), .val (.ref c5), .val (.ref c6), .val (.ref c7), .unset, .unset, .unset, .unset, .unset, .unset, .unset, .unset] [(.int (1 : Int32))])) _
    refine XS.istore X7.here hx rfl (hb hby at_40) rfl (l' := #[.val (.int p1), .val (.int p2), .val (.ref b1), .val (.ref b3), .val (.ref c5), .val (.ref c6), .val (.ref c7), .val (.int (1 : Int32)), .unset, .unset, .unset, .unset, .unset, .unset, .unset]) rfl ?_
    show Steps p.tables e below (T7.setTop (mkF m 42 #[.val (.int p1), .val (.int p2), .val (.ref b1), .val (.ref b3), .val (.ref c5), .val (.ref c6), .val (.ref c7), .val (.int (1 : Int32)), .unset, .unset, .unset, .unset, .unset, .unset, .unset] [])) _
    refine XS.iload X7.here hx rfl (hb hby at_42) rfl ?_
    show Steps p.tables e below (T7.setTop (mkF m 44 #[.val (.int p1), .val (.int p2), .val (.ref b1), .val (.ref b3), .val (.ref c5), .val (.ref c6), .val (.ref c7), .val (.int (1 : Int32)), .unset, .unset, .unset, .unset, .unset, .unset, .unset] [(.int (1 : Int32))])) _
    refine XS.ifYes X7.here hx rfl (pc0 := 44) (pc' := 53) rfl (hb hby at_44) rfl ((if0 _ _).trans (feq ((by decide) : ¬ ((1 : Int32) = (0 : Int32)))).2) (by decide) (by decide) ?_
    show Steps p.tables e below (T7.setTop (mkF m 53 #[.val (.int p1), .val (.int p2), .val (.ref b1), .val (.ref b3), .val (.ref c5), .val (.ref c6), .val (.ref c7), .val (.int (1 : Int32)), .unset, .unset, .unset, .unset, .unset, .unset, .unset] [])) _
    refine XS.iload X7.here hx rfl (hb hby at_53) rfl ?_
    show Steps p.tables e below (T7.setTop (mkF m 55 #[.val (.int p1), .val (.int p2), .val (.ref b1), .val (.ref b3), .val (.ref c5), .val (.ref c6), .val (.ref c7), .val (.int (1 : Int32)), .unset, .unset, .unset, .unset, .unset, .unset, .unset] [(.int (1 : Int32))])) _
    refine XS.iconst X7.here hx rfl (hb hby at_55) ?_
    show Steps p.tables e below (T7.setTop (mkF m 56 #[.val (.int p1), .val (.int p2), .val (.ref b1), .val (.ref b3), .val (.ref c5), .val (.ref c6), .val (.ref c7), .val (.int (1 : Int32)), .unset, .unset, .unset, .unset, .unset, .unset, .unset] [(.int (1 : Int32)), (.int (1 : Int32))])) _
    refine XS.icmpNo X7.here hx rfl (hb hby at_56) rfl (teq ((by decide) : (1 : Int32) = (1 : Int32))).2 ?_
    show Steps p.tables e below (T7.setTop (mkF m 59 #[.val (.int p1), .val (.int p2), .val (.ref b1), .val (.ref b3), .val (.ref c5), .val (.ref c6), .val (.ref c7), .val (.int (1 : Int32)), .unset, .unset, .unset, .unset, .unset, .unset, .unset] [])) _
    refine XS.aload X7.here hx rfl (hb hby at_59) rfl rfl ?_
    show Steps p.tables e below (T7.setTop (mkF m 61 #[.val (.int p1), .val (.int p2), .val (.ref b1), .val (.ref b3), .val (.ref c5), .val (.ref c6), .val (.ref c7), .val (.int (1 : Int32)), .unset, .unset, .unset, .unset, .unset, .unset, .unset] [(.ref c5)])) _
    refine XS.astore X7.here hx rfl (hb hby at_61) rfl rfl (l' := #[.val (.int p1), .val (.int p2), .val (.ref b1), .val (.ref b3), .val (.ref c5), .val (.ref c6), .val (.ref c7), .val (.int (1 : Int32)), .val (.ref c5), .unset, .unset, .unset, .unset, .unset, .unset]) rfl ?_
    show Steps p.tables e below (T7.setTop (mkF m 63 #[.val (.int p1), .val (.int p2), .val (.ref b1), .val (.ref b3), .val (.ref c5), .val (.ref c6), .val (.ref c7), .val (.int (1 : Int32)), .val (.ref c5), .unset, .unset, .unset, .unset, .unset, .unset] [])) _
    refine XS.goto X7.here hx rfl (pc0 := 63) (pc' := 83) rfl (hb hby at_63) (by decide) (by decide) ?_
    show Steps p.tables e below (T7.setTop (mkF m 83 #[.val (.int p1), .val (.int p2), .val (.ref b1), .val (.ref b3), .val (.ref c5), .val (.ref c6), .val (.ref c7), .val (.int (1 : Int32)), .val (.ref c5), .unset, .unset, .unset, .unset, .unset, .unset] [])) _
    refine XS.aload X7.here hx rfl (hb hby at_83) rfl rfl ?_
    show Steps p.tables e below (T7.setTop (mkF m 85 #[.val (.int p1), .val (.int p2), .val (.ref b1), .val (.ref b3), .val (.ref c5), .val (.ref c6), .val (.ref c7), .val (.int (1 : Int32)), .val (.ref c5), .unset, .unset, .unset, .unset, .unset, .unset] [(.ref c5)])) _
    refine st8.trans ?_
    show Steps p.tables e below (T8.setTop (mkF m 88 #[.val (.int p1), .val (.int p2), .val (.ref b1), .val (.ref b3), .val (.ref c5), .val (.ref c6), .val (.ref c7), .val (.int (1 : Int32)), .val (.ref c5), .unset, .unset, .unset, .unset, .unset, .unset] [(.ref b3)])) _
    refine XS.astore X8.here hx rfl (hb hby at_88) rfl rfl (l' := #[.val (.int p1), .val (.int p2), .val (.ref b1), .val (.ref b3), .val (.ref c5), .val (.ref c6), .val (.ref c7), .val (.int (1 : Int32)), .val (.ref c5), .val (.ref b3), .unset, .unset, .unset, .unset, .unset]) rfl ?_
    show Steps p.tables e below (T8.setTop (mkF m 90 #[.val (.int p1), .val (.int p2), .val (.ref b1), .val (.ref b3), .val (.ref c5), .val (.ref c6), .val (.ref c7), .val (.int (1 : Int32)), .val (.ref c5), .val (.ref b3), .unset, .unset, .unset, .unset, .unset] [])) _
    refine XS.aload X8.here hx rfl (hb hby at_90) rfl rfl ?_
    show Steps p.tables e below (T8.setTop (mkF m 92 #[.val (.int p1), .val (.int p2), .val (.ref b1), .val (.ref b3), .val (.ref c5), .val (.ref c6), .val (.ref c7), .val (.int (1 : Int32)), .val (.ref c5), .val (.ref b3), .unset, .unset, .unset, .unset, .unset] [(.ref b3)])) _
    refine XS.aloadN X8.here hx rfl (hb hby at_92) rfl rfl ?_
    show Steps p.tables e below (T8.setTop (mkF m 93 #[.val (.int p1), .val (.int p2), .val (.ref b1), .val (.ref b3), .val (.ref c5), .val (.ref c6), .val (.ref c7), .val (.int (1 : Int32)), .val (.ref c5), .val (.ref b3), .unset, .unset, .unset, .unset, .unset] [(.ref b3), (.ref b3)])) _
    refine Jvm.RoadKit.acmp (g := (mkF m 93 #[.val (.int p1), .val (.int p2), .val (.ref b1), .val (.ref b3), .val (.ref c5), .val (.ref c6), .val (.ref c7), .val (.int (1 : Int32)), .val (.ref c5), .val (.ref b3), .unset, .unset, .unset, .unset, .unset] [(.ref b3), (.ref b3)])) X8 hx rfl rfl rfl (pc0 := 93) (pc' := 96) (same := true) rfl (hb hby at_93) rfl (decide_eq_true rfl) (by decide) (by decide) ?_
    show Steps p.tables e below (T8.setTop (mkF m 96 #[.val (.int p1), .val (.int p2), .val (.ref b1), .val (.ref b3), .val (.ref c5), .val (.ref c6), .val (.ref c7), .val (.int (1 : Int32)), .val (.ref c5), .val (.ref b3), .unset, .unset, .unset, .unset, .unset] [])) _
    refine XS.aload X8.here hx rfl (hb hby at_96) rfl rfl ?_
    show Steps p.tables e below (T8.setTop (mkF m 98 #[.val (.int p1), .val (.int p2), .val (.ref b1), .val (.ref b3), .val (.ref c5), .val (.ref c6), .val (.ref c7), .val (.int (1 : Int32)), .val (.ref c5), .val (.ref b3), .unset, .unset, .unset, .unset, .unset] [(.ref b3)])) _
    refine st9.trans ?_
    show Steps p.tables e below (T9.setTop (mkF m 101 #[.val (.int p1), .val (.int p2), .val (.ref b1), .val (.ref b3), .val (.ref c5), .val (.ref c6), .val (.ref c7), .val (.int (1 : Int32)), .val (.ref c5), .val (.ref b3), .unset, .unset, .unset, .unset, .unset] [(.ref b3)])) _
    refine XS.aloadN X9.here hx rfl (hb hby at_101) rfl rfl ?_
    show Steps p.tables e below (T9.setTop (mkF m 102 #[.val (.int p1), .val (.int p2), .val (.ref b1), .val (.ref b3), .val (.ref c5), .val (.ref c6), .val (.ref c7), .val (.int (1 : Int32)), .val (.ref c5), .val (.ref b3), .unset, .unset, .unset, .unset, .unset] [(.ref b3), (.ref b3)])) _
    refine Jvm.RoadKit.acmp (g := (mkF m 102 #[.val (.int p1), .val (.int p2), .val (.ref b1), .val (.ref b3), .val (.ref c5), .val (.ref c6), .val (.ref c7), .val (.int (1 : Int32)), .val (.ref c5), .val (.ref b3), .unset, .unset, .unset, .unset, .unset] [(.ref b3), (.ref b3)])) X9 hx rfl rfl rfl (pc0 := 102) (pc' := 105) (same := true) rfl (hb hby at_102) rfl (decide_eq_true rfl) (by decide) (by decide) ?_
    show Steps p.tables e below (T9.setTop (mkF m 105 #[.val (.int p1), .val (.int p2), .val (.ref b1), .val (.ref b3), .val (.ref c5), .val (.ref c6), .val (.ref c7), .val (.int (1 : Int32)), .val (.ref c5), .val (.ref b3), .unset, .unset, .unset, .unset, .unset] [])) _
    refine XS.iconst X9.here hx rfl (hb hby at_105) ?_
    show Steps p.tables e below (T9.setTop (mkF m 106 #[.val (.int p1), .val (.int p2), .val (.ref b1), .val (.ref b3), .val (.ref c5), .val (.ref c6), .val (.ref c7), .val (.int (1 : Int32)), .val (.ref c5), .val (.ref b3), .unset, .unset, .unset, .unset, .unset] [(.int (1 : Int32))])) _
    refine XS.goto X9.here hx rfl (pc0 := 106) (pc' := 110) rfl (hb hby at_106) (by decide) (by decide) ?_
    show Steps p.tables e below (T9.setTop (mkF m 110 #[.val (.int p1), .val (.int p2), .val (.ref b1), .val (.ref b3), .val (.ref c5), .val (.ref c6), .val (.ref c7), .val (.int (1 : Int32)), .val (.ref c5), .val (.ref b3), .unset, .unset, .unset, .unset, .unset] [(.int (1 : Int32))])) _
    refine XS.istore X9.here hx rfl (hb hby at_110) rfl (l' := #[.val (.int p1), .val (.int p2), .val (.ref b1), .val (.ref b3), .val (.ref c5), .val (.ref c6), .val (.ref c7), .val (.int (1 : Int32)), .val (.ref c5), .val (.ref b3), .val (.int (1 : Int32)), .unset, .unset, .unset, .unset]) rfl ?_
    show Steps p.tables e below (T9.setTop (mkF m 112 #[.val (.int p1), .val (.int p2), .val (.ref b1), .val (.ref b3), .val (.ref c5), .val (.ref c6), .val (.ref c7), .val (.int (1 : Int32)), .val (.ref c5), .val (.ref b3), .val (.int (1 : Int32)), .unset, .unset, .unset, .unset] [])) _
    refine st10 _ ?_
    show Steps p.tables e below (T10.setTop (mkF m 115 #[.val (.int p1), .val (.int p2), .val (.ref b1), .val (.ref b3), .val (.ref c5), .val (.ref c6), .val (.ref c7), .val (.int (1 : Int32)), .val (.ref c5), .val (.ref b3), .val (.int (1 : Int32)), .unset, .unset, .unset, .unset] [(.ref b10)])) _
    refine XS.dup X10.here hx rfl (hb hby at_115) rfl rfl ?_
    show Steps p.tables e below (T10.setTop (mkF m 116 #[.val (.int p1), .val (.int p2), .val (.ref b1), .val (.ref b3), .val (.ref c5), .val (.ref c6), .val (.ref c7), .val (.int (1 : Int32)), .val (.ref c5), .val (.ref b3), .val (.int (1 : Int32)), .unset, .unset, .unset, .unset] [(.ref b10), (.ref b10)])) _
    refine XS.aloadN X10.here hx rfl (hb hby at_116) rfl rfl ?_
    show Steps p.tables e below (T10.setTop (mkF m 117 #[.val (.int p1), .val (.int p2), .val (.ref b1), .val (.ref b3), .val (.ref c5), .val (.ref c6), .val (.ref c7), .val (.int (1 : Int32)), .val (.ref c5), .val (.ref b3), .val (.int (1 : Int32)), .unset, .unset, .unset, .unset] [(.ref b1), (.ref b10), (.ref b10)])) _
    refine st11.trans ?_
    show Steps p.tables e below (T11.setTop (mkF m 120 #[.val (.int p1), .val (.int p2), .val (.ref b1), .val (.ref b3), .val (.ref c5), .val (.ref c6), .val (.ref c7), .val (.int (1 : Int32)), .val (.ref c5), .val (.ref b3), .val (.int (1 : Int32)), .unset, .unset, .unset, .unset] [(.ref b10)])) _
    refine XS.astore X11.here hx rfl (hb hby at_120) rfl rfl (l' := #[.val (.int p1), .val (.int p2), .val (.ref b1), .val (.ref b3), .val (.ref c5), .val (.ref c6), .val (.ref c7), .val (.int (1 : Int32)), .val (.ref c5), .val (.ref b3), .val (.int (1 : Int32)), .val (.ref b10), .unset, .unset, .unset]) rfl ?_
    show Steps p.tables e below (T11.setTop (mkF m 122 #[.val (.int p1), .val (.int p2), .val (.ref b1), .val (.ref b3), .val (.ref c5), .val (.ref c6), .val (.ref c7), .val (.int (1 : Int32)), .val (.ref c5), .val (.ref b3), .val (.int (1 : Int32)), .val (.ref b10), .unset, .unset, .unset] [])) _
    refine XS.iloadN X11.here hx rfl (hb hby at_122) rfl ?_
    show Steps p.tables e below (T11.setTop (mkF m 123 #[.val (.int p1), .val (.int p2), .val (.ref b1), .val (.ref b3), .val (.ref c5), .val (.ref c6), .val (.ref c7), .val (.int (1 : Int32)), .val (.ref c5), .val (.ref b3), .val (.int (1 : Int32)), .val (.ref b10), .unset, .unset, .unset] [(.int p2)])) _
    refine XS.iconst X11.here hx rfl (hb hby at_123) ?_
    show Steps p.tables e below (T11.setTop (mkF m 124 #[.val (.int p1), .val (.int p2), .val (.ref b1), .val (.ref b3), .val (.ref c5), .val (.ref c6), .val (.ref c7), .val (.int (1 : Int32)), .val (.ref c5), .val (.ref b3), .val (.int (1 : Int32)), .val (.ref b10), .unset, .unset, .unset] [(.int (1 : Int32)), (.int p2)])) _
    refine XS.iand X11.here hx rfl (hb hby at_124) rfl ?_
    show Steps p.tables e below (T11.setTop (mkF m 125 #[.val (.int p1), .val (.int p2), .val (.ref b1), .val (.ref b3), .val (.ref c5), .val (.ref c6), .val (.ref c7), .val (.int (1 : Int32)), .val (.ref c5), .val (.ref b3), .val (.int (1 : Int32)), .val (.ref b10), .unset, .unset, .unset] [(.int (p2 &&& (1 : Int32)))])) _
    refine XS.ifNo X11.here hx rfl (hb hby at_125) rfl ((if0 _ _).trans (feq (hc125 : ¬ ((p2 &&& (1 : Int32)) = (0 : Int32)))).1) ?_
    show Steps p.tables e below (T11.setTop (mkF m 128 #[.val (.int p1), .val (.int p2), .val (.ref b1), .val (.ref b3), .val (.ref c5), .val (.ref c6), .val (.ref c7), .val (.int (1 : Int32)), .val (.ref c5), .val (.ref b3), .val (.int (1 : Int32)), .val (.ref b10), .unset, .unset, .unset] [])) _
    refine XS.aload X11.here hx rfl (hb hby at_128) rfl rfl ?_
    show Steps p.tables e below (T11.setTop (mkF m 130 #[.val (.int p1), .val (.int p2), .val (.ref b1), .val (.ref b3), .val (.ref c5), .val (.ref c6), .val (.ref c7), .val (.int (1 : Int32)), .val (.ref c5), .val (.ref b3), .val (.int (1 : Int32)), .val (.ref b10), .unset, .unset, .unset] [(.ref b10)])) _
    refine st12.trans ?_
    show Steps p.tables e below (T12.setTop (mkF m 133 #[.val (.int p1), .val (.int p2), .val (.ref b1), .val (.ref b3), .val (.ref c5), .val (.ref c6), .val (.ref c7), .val (.int (1 : Int32)), .val (.ref c5), .val (.ref b3), .val (.int (1 : Int32)), .val (.ref b10), .unset, .unset, .unset] [(.ref c12)])) _
    refine XS.goto X12.here hx rfl (pc0 := 133) (pc' := 138) rfl (hb hby at_133) (by decide) (by decide) ?_
    show Steps p.tables e below (T12.setTop (mkF m 138 #[.val (.int p1), .val (.int p2), .val (.ref b1), .val (.ref b3), .val (.ref c5), .val (.ref c6), .val (.ref c7), .val (.int (1 : Int32)), .val (.ref c5), .val (.ref b3), .val (.int (1 : Int32)), .val (.ref b10), .unset, .unset, .unset] [(.ref c12)])) _
    refine XS.astore X12.here hx rfl (hb hby at_138) rfl rfl (l' := #[.val (.int p1), .val (.int p2), .val (.ref b1), .val (.ref b3), .val (.ref c5), .val (.ref c6), .val (.ref c7), .val (.int (1 : Int32)), .val (.ref c5), .val (.ref b3), .val (.int (1 : Int32)), .val (.ref b10), .val (.ref c12), .unset, .unset]) rfl ?_
    show Steps p.tables e below (T12.setTop (mkF m 140 #[.val (.int p1), .val (.int p2), .val (.ref b1), .val (.ref b3), .val (.ref c5), .val (.ref c6), .val (.ref c7), .val (.int (1 : Int32)), .val (.ref c5), .val (.ref b3), .val (.int (1 : Int32)), .val (.ref b10), .val (.ref c12), .unset, .unset] [])) _
    refine XS.aload X12.here hx rfl (hb hby at_140) rfl rfl ?_
    show Steps p.tables e below (T12.setTop (mkF m 142 #[.val (.int p1), .val (.int p2), .val (.ref b1), .val (.ref b3), .val (.ref c5), .val (.ref c6), .val (.ref c7), .val (.int (1 : Int32)), .val (.ref c5), .val (.ref b3), .val (.int (1 : Int32)), .val (.ref b10), .val (.ref c12), .unset, .unset] [(.ref c12)])) _
    refine st13.trans ?_
    show Steps p.tables e below (T13.setTop (mkF m 145 #[.val (.int p1), .val (.int p2), .val (.ref b1), .val (.ref b3), .val (.ref c5), .val (.ref c6), .val (.ref c7), .val (.int (1 : Int32)), .val (.ref c5), .val (.ref b3), .val (.int (1 : Int32)), .val (.ref b10), .val (.ref c12), .unset, .unset] [(.ref b10)])) _
    refine XS.astore X13.here hx rfl (hb hby at_145) rfl rfl (l' := #[.val (.int p1), .val (.int p2), .val (.ref b1), .val (.ref b3), .val (.ref c5), .val (.ref c6), .val (.ref c7), .val (.int (1 : Int32)), .val (.ref c5), .val (.ref b3), .val (.int (1 : Int32)), .val (.ref b10), .val (.ref c12), .val (.ref b10), .unset]) rfl ?_
    show Steps p.tables e below (T13.setTop (mkF m 147 #[.val (.int p1), .val (.int p2), .val (.ref b1), .val (.ref b3), .val (.ref c5), .val (.ref c6), .val (.ref c7), .val (.int (1 : Int32)), .val (.ref c5), .val (.ref b3), .val (.int (1 : Int32)), .val (.ref b10), .val (.ref c12), .val (.ref b10), .unset] [])) _
    refine XS.aload X13.here hx rfl (hb hby at_147) rfl rfl ?_
    show Steps p.tables e below (T13.setTop (mkF m 149 #[.val (.int p1), .val (.int p2), .val (.ref b1), .val (.ref b3), .val (.ref c5), .val (.ref c6), .val (.ref c7), .val (.int (1 : Int32)), .val (.ref c5), .val (.ref b3), .val (.int (1 : Int32)), .val (.ref b10), .val (.ref c12), .val (.ref b10), .unset] [(.ref b10)])) _
    refine XS.aload X13.here hx rfl (hb hby at_149) rfl rfl ?_
    show Steps p.tables e below (T13.setTop (mkF m 151 #[.val (.int p1), .val (.int p2), .val (.ref b1), .val (.ref b3), .val (.ref c5), .val (.ref c6), .val (.ref c7), .val (.int (1 : Int32)), .val (.ref c5), .val (.ref b3), .val (.int (1 : Int32)), .val (.ref b10), .val (.ref c12), .val (.ref b10), .unset] [(.ref b10), (.ref b10)])) _
    refine Jvm.RoadKit.acmp (g := (mkF m 151 #[.val (.int p1), .val (.int p2), .val (.ref b1), .val (.ref b3), .val (.ref c5), .val (.ref c6), .val (.ref c7), .val (.int (1 : Int32)), .val (.ref c5), .val (.ref b3), .val (.int (1 : Int32)), .val (.ref b10), .val (.ref c12), .val (.ref b10), .unset] [(.ref b10), (.ref b10)])) X13 hx rfl rfl rfl (pc0 := 151) (pc' := 154) (same := true) rfl (hb hby at_151) rfl (decide_eq_true rfl) (by decide) (by decide) ?_
    show Steps p.tables e below (T13.setTop (mkF m 154 #[.val (.int p1), .val (.int p2), .val (.ref b1), .val (.ref b3), .val (.ref c5), .val (.ref c6), .val (.ref c7), .val (.int (1 : Int32)), .val (.ref c5), .val (.ref b3), .val (.int (1 : Int32)), .val (.ref b10), .val (.ref c12), .val (.ref b10), .unset] [])) _
    refine XS.aload X13.here hx rfl (hb hby at_154) rfl rfl ?_
    show Steps p.tables e below (T13.setTop (mkF m 156 #[.val (.int p1), .val (.int p2), .val (.ref b1), .val (.ref b3), .val (.ref c5), .val (.ref c6), .val (.ref c7), .val (.int (1 : Int32)), .val (.ref c5), .val (.ref b3), .val (.int (1 : Int32)), .val (.ref b10), .val (.ref c12), .val (.ref b10), .unset] [(.ref b10)])) _
    refine XS.aloadN X13.here hx rfl (hb hby at_156) rfl rfl ?_
    show Steps p.tables e below (T13.setTop (mkF m 157 #[.val (.int p1), .val (.int p2), .val (.ref b1), .val (.ref b3), .val (.ref c5), .val (.ref c6), .val (.ref c7), .val (.int (1 : Int32)), .val (.ref c5), .val (.ref b3), .val (.int (1 : Int32)), .val (.ref b10), .val (.ref c12), .val (.ref b10), .unset] [(.ref b3), (.ref b10)])) _
    refine Jvm.RoadKit.acmp (g := (mkF m 157 #[.val (.int p1), .val (.int p2), .val (.ref b1), .val (.ref b3), .val (.ref c5), .val (.ref c6), .val (.ref c7), .val (.int (1 : Int32)), .val (.ref c5), .val (.ref b3), .val (.int (1 : Int32)), .val (.ref b10), .val (.ref c12), .val (.ref b10), .unset] [(.ref b3), (.ref b10)])) X13 hx rfl rfl rfl (pc0 := 157) (pc' := 160) (same := false) rfl (hb hby at_157) rfl (decide_eq_false fun q => absurd (Value.ref.inj q) (Ne.symm ne_b3_b10)) (by decide) (by decide) ?_
    show Steps p.tables e below (T13.setTop (mkF m 160 #[.val (.int p1), .val (.int p2), .val (.ref b1), .val (.ref b3), .val (.ref c5), .val (.ref c6), .val (.ref c7), .val (.int (1 : Int32)), .val (.ref c5), .val (.ref b3), .val (.int (1 : Int32)), .val (.ref b10), .val (.ref c12), .val (.ref b10), .unset] [])) _
    refine XS.iconst X13.here hx rfl (hb hby at_160) ?_
    show Steps p.tables e below (T13.setTop (mkF m 161 #[.val (.int p1), .val (.int p2), .val (.ref b1), .val (.ref b3), .val (.ref c5), .val (.ref c6), .val (.ref c7), .val (.int (1 : Int32)), .val (.ref c5), .val (.ref b3), .val (.int (1 : Int32)), .val (.ref b10), .val (.ref c12), .val (.ref b10), .unset] [(.int (1 : Int32))])) _
    refine XS.goto X13.here hx rfl (pc0 := 161) (pc' := 165) rfl (hb hby at_161) (by decide) (by decide) ?_
    show Steps p.tables e below (T13.setTop (mkF m 165 #[.val (.int p1), .val (.int p2), .val (.ref b1), .val (.ref b3), .val (.ref c5), .val (.ref c6), .val (.ref c7), .val (.int (1 : Int32)), .val (.ref c5), .val (.ref b3), .val (.int (1 : Int32)), .val (.ref b10), .val (.ref c12), .val (.ref b10), .unset] [(.int (1 : Int32))])) _
    refine XS.istore X13.here hx rfl (hb hby at_165) rfl (l' := #[.val (.int p1), .val (.int p2), .val (.ref b1), .val (.ref b3), .val (.ref c5), .val (.ref c6), .val (.ref c7), .val (.int (1 : Int32)), .val (.ref c5), .val (.ref b3), .val (.int (1 : Int32)), .val (.ref b10), .val (.ref c12), .val (.ref b10), .val (.int (1 : Int32))]) rfl ?_
    show Steps p.tables e below (T13.setTop (mkF m 167 #[.val (.int p1), .val (.int p2), .val (.ref b1), .val (.ref b3), .val (.ref c5), .val (.ref c6), .val (.ref c7), .val (.int (1 : Int32)), .val (.ref c5), .val (.ref b3), .val (.int (1 : Int32)), .val (.ref b10), .val (.ref c12), .val (.ref b10), .val (.int (1 : Int32))] [])) _
    refine XS.iload X13.here hx rfl (hb hby at_167) rfl ?_
    show Steps p.tables e below (T13.setTop (mkF m 169 #[.val (.int p1), .val (.int p2), .val (.ref b1), .val (.ref b3), .val (.ref c5), .val (.ref c6), .val (.ref c7), .val (.int (1 : Int32)), .val (.ref c5), .val (.ref b3), .val (.int (1 : Int32)), .val (.ref b10), .val (.ref c12), .val (.ref b10), .val (.int (1 : Int32))] [(.int (1 : Int32))])) _
    refine XS.ifNo X13.here hx rfl (hb hby at_169) rfl ((if0 _ _).trans (feq ((by decide) : ¬ ((1 : Int32) = (0 : Int32)))).1) ?_
    show Steps p.tables e below (T13.setTop (mkF m 172 #[.val (.int p1), .val (.int p2), .val (.ref b1), .val (.ref b3), .val (.ref c5), .val (.ref c6), .val (.ref c7), .val (.int (1 : Int32)), .val (.ref c5), .val (.ref b3), .val (.int (1 : Int32)), .val (.ref b10), .val (.ref c12), .val (.ref b10), .val (.int (1 : Int32))] [])) _
    refine XS.iload X13.here hx rfl (hb hby at_172) rfl ?_
    show Steps p.tables e below (T13.setTop (mkF m 174 #[.val (.int p1), .val (.int p2), .val (.ref b1), .val (.ref b3), .val (.ref c5), .val (.ref c6), .val (.ref c7), .val (.int (1 : Int32)), .val (.ref c5), .val (.ref b3), .val (.int (1 : Int32)), .val (.ref b10), .val (.ref c12), .val (.ref b10), .val (.int (1 : Int32))] [(.int (1 : Int32))])) _
    refine XS.ifNo X13.here hx rfl (hb hby at_174) rfl ((if0 _ _).trans (feq ((by decide) : ¬ ((1 : Int32) = (0 : Int32)))).1) ?_
    show Steps p.tables e below (T13.setTop (mkF m 177 #[.val (.int p1), .val (.int p2), .val (.ref b1), .val (.ref b3), .val (.ref c5), .val (.ref c6), .val (.ref c7), .val (.int (1 : Int32)), .val (.ref c5), .val (.ref b3), .val (.int (1 : Int32)), .val (.ref b10), .val (.ref c12), .val (.ref b10), .val (.int (1 : Int32))] [])) _
    refine XS.iconst X13.here hx rfl (hb hby at_177) ?_
    show Steps p.tables e below (T13.setTop (mkF m 178 #[.val (.int p1), .val (.int p2), .val (.ref b1), .val (.ref b3), .val (.ref c5), .val (.ref c6), .val (.ref c7), .val (.int (1 : Int32)), .val (.ref c5), .val (.ref b3), .val (.int (1 : Int32)), .val (.ref b10), .val (.ref c12), .val (.ref b10), .val (.int (1 : Int32))] [(.int (1 : Int32))])) _
    refine XS.goto X13.here hx rfl (pc0 := 178) (pc' := 182) rfl (hb hby at_178) (by decide) (by decide) ?_
    show Steps p.tables e below (T13.setTop (mkF m 182 #[.val (.int p1), .val (.int p2), .val (.ref b1), .val (.ref b3), .val (.ref c5), .val (.ref c6), .val (.ref c7), .val (.int (1 : Int32)), .val (.ref c5), .val (.ref b3), .val (.int (1 : Int32)), .val (.ref b10), .val (.ref c12), .val (.ref b10), .val (.int (1 : Int32))] [(.int (1 : Int32))])) _
    exact retN X13 hx (t := .boolean) Bd.returns (by simp) (hb hby at_182) hr
  · show Q0 Z p1 p2 h0 n0 _ T13.heap _
    rw [eh13]
    exact ⟨rfl, N13⟩
set_option maxRecDepth 65536 in
set_option maxHeartbeats 40000000 in
theorem rm0_2t (l : Launch) (Z : State) (a0 : Array Value) (hw : ∀ d ∈ tables_1, d.before a0 Z = true) (ws : List Jvm.Cond) (p1 p2 : Int32) (h0 : Heap) (n0 : Nat) (Z0 : n0 ≤ h0.size) (hd : (p1 &&& (3 : Int32)) = (2 : Int32)) (hc125 : (p2 &&& (1 : Int32)) = (0 : Int32)) :
    MetFree l x (head1 (Jvm.Cond.code x code maxLocals ret :: ws) room_1) (fun a U => a = #[(.int p1), (.int p2)] ∧ Z.Warmed39 U.vm ∧ U.heap = h0) (fun _ _ _ _ _ => True) (fun _ U o U' => ∃ v L, o = .returned v ∧ Q0 Z p1 p2 h0 n0 v U'.heap L ∧ FrameEnd U o U' L room_1.cells room_1.slots) := by
  refine MetFree.of_bodySF (plainFor_of_name pn_0) hisR ?_
  intro p e s m args below meth c s₁ Bd hml0 hP hK
  obtain ⟨rfl, hZ, hh⟩ := hP
  have hx := Bd.exec
  have hby := Bd.bytes
  have hml : c.maxLocals = 15 := hml0
  have hown : s.vm.findClass "com/example/roteiro/roteiro/lang/ScopeRootPinLaw" = some m.cls := findClass_of_methodNamed Bd.named
  have hnm := (name_of_methodNamed Bd.named Bd.method).1
  have X0 : Stand p l e room_1 s m #[(.int p1), (.int p2)] below meth c s₁ [] 0 0 := Stand.of_body Bd
  have e0 : s₁.heap = h0 := by rw [← hh, Bd.state]; rfl
  have N0 := Fr.nil n0
  have pre0 : ∀ t, Steps p.tables e below (s₁.setTop (mkF m 0 #[.val (.int p1), .val (.int p2), .unset, .unset, .unset, .unset, .unset, .unset, .unset, .unset, .unset, .unset, .unset, .unset, .unset] [])) t → Steps p.tables e below (s₁.setTop (entryFrame m #[(.int p1), (.int p2)] maxLocals)) t := fun t k => castTop (ef_0 m p1 p2) k
  obtain ⟨T1, h1, X1, e1, E1, A1, D1, -, st1⟩ := newO X0 hx hZ hown (hw _ (List.mem_of_getElem? (i := 0) rfl)) (hw _ (List.mem_of_getElem? (i := 1) rfl)) (hw _ (List.mem_of_getElem? (i := 2) rfl)) e0 (g := (mkF m 0 #[.val (.int p1), .val (.int p2), .unset, .unset, .unset, .unset, .unset, .unset, .unset, .unset, .unset, .unset, .unset, .unset, .unset] [])) rfl (hb hby at_0) (by decide) (by decide)
  obtain ⟨b1, g1⟩ : ∃ z, z = h0.size := ⟨_, rfl⟩
  rw [← g1] at A1 D1 st1
  have gb1 : n0 ≤ b1 := Nat.le_trans Z0 (Nat.le_of_eq g1.symm)
  have Z1 : n0 ≤ h1.size := Nat.le_trans Z0 E1.1
  have F_b1_elements_1 : Fld Z h1 b1 "com/example/roteiro/roteiro/lang/Libraries" "elements" "Ljava/util/Map;" .null := D1 (Or.inr (hw _ (List.mem_of_getElem? (i := 26) rfl))) (ty := (.object "java/util/Map")) (by decide)
  have F_b1_bareNames_1 : Fld Z h1 b1 "com/example/roteiro/roteiro/lang/Libraries" "bareNames" "Ljava/util/Map;" .null := D1 (Or.inr (hw _ (List.mem_of_getElem? (i := 28) rfl))) (ty := (.object "java/util/Map")) (by decide)
  obtain ⟨_, _, ⟨T2, L2, k2, n2⟩, -, X2, ⟨Lc2, hQ2, l2, y2, z2⟩, st2⟩ := X1.specialBack hx (y := (⟨"com/example/roteiro/roteiro/lang/Libraries", "<init>", "()V"⟩ : MethodName)) rfl hown (mvT hZ (hw _ (List.mem_of_getElem? (i := 3) rfl))) (mvT hZ (hw _ (List.mem_of_getElem? (i := 4) rfl))) (mvT hZ (hw _ (List.mem_of_getElem? (i := 5) rfl))) (by decide) (backOf (W := 1) (rmLb l Z a0 hw [] b1 _ _ h1 n0 Z1 A1 F_b1_elements_1 F_b1_bareNames_1 gb1) hZ (hw _ (List.mem_of_getElem? (i := 5) rfl)) (hw _ (List.mem_of_getElem? (i := 2) rfl)) (by decide) (by decide)) (g := (mkF m 4 #[.val (.int p1), .val (.int p2), .unset, .unset, .unset, .unset, .unset, .unset, .unset, .unset, .unset, .unset, .unset, .unset, .unset] [(.ref b1), (.ref b1)])) rfl (by rw [hml]; rfl) (Steps.refl _) (a := b1) (argsL := []) (rest := [(.ref b1)]) (lenOf pd_0_0 rfl) rfl (by show 2 * 0 + _ ≤ _; exact Nat.le_of_eq rfl) (hb hby at_4) (fun _ _ => ⟨rfl, e1, (by decide : 1 + 2 ≤ _), (by decide : 2 + 16 ≤ _)⟩)
  dsimp only [Pt.U, Pt.locs, Pt.cells, Pt.slots] at X2 l2 y2 z2 st2 hQ2
  subst l2 y2 z2
  obtain ⟨rfl, N2q, K2⟩ := hQ2
  have N2 := Fr.app N0 N2q
  have E_b1_2 := A1.keep K2
  have Z2 : n0 ≤ T2.heap.size := Nat.le_trans Z1 K2.1
  obtain ⟨T3, h3, X3, e3, E3, A3, D3, -, st3⟩ := newO X2 hx hZ hown (hw _ (List.mem_of_getElem? (i := 29) rfl)) (hw _ (List.mem_of_getElem? (i := 30) rfl)) (hw _ (List.mem_of_getElem? (i := 31) rfl)) rfl (g := (mkF m 8 #[.val (.int p1), .val (.int p2), .val (.ref b1), .unset, .unset, .unset, .unset, .unset, .unset, .unset, .unset, .unset, .unset, .unset, .unset] [])) rfl (hb hby at_8) (by decide) (by decide)
  obtain ⟨b3, g3⟩ : ∃ z, z = T2.heap.size := ⟨_, rfl⟩
  rw [← g3] at A3 D3 st3
  have gb3 : n0 ≤ b3 := Nat.le_trans Z2 (Nat.le_of_eq g3.symm)
  have Z3 : n0 ≤ h3.size := Nat.le_trans Z2 E3.1
  have F_b3_parent_3 : Fld Z h3 b3 "com/example/roteiro/roteiro/lang/Scope" "parent" "Lcom/example/roteiro/roteiro/lang/Scope;" .null := D3 (Or.inr (hw _ (List.mem_of_getElem? (i := 40) rfl))) (ty := (.object "com/example/roteiro/roteiro/lang/Scope")) (by decide)
  have F_b3_libraries_3 : Fld Z h3 b3 "com/example/roteiro/roteiro/lang/Scope" "libraries" "Lcom/example/roteiro/roteiro/lang/Libraries;" .null := D3 (Or.inr (hw _ (List.mem_of_getElem? (i := 42) rfl))) (ty := (.object "com/example/roteiro/roteiro/lang/Libraries")) (by decide)
  obtain ⟨_, _, ⟨T4, L4, k4, n4⟩, -, X4, ⟨Lc4, hQ4, l4, y4, z4⟩, st4⟩ := X3.specialBack hx (y := (⟨"com/example/roteiro/roteiro/lang/Scope", "<init>", "(Lcom/example/roteiro/roteiro/lang/Libraries;)V"⟩ : MethodName)) rfl hown (mvT hZ (hw _ (List.mem_of_getElem? (i := 32) rfl))) (mvT hZ (hw _ (List.mem_of_getElem? (i := 33) rfl))) (mvT hZ (hw _ (List.mem_of_getElem? (i := 34) rfl))) (by decide) (backOf (W := 1) (rmI1 l Z a0 hw [] b3 b1 _ _ h3 n0 Z3 A3 F_b3_parent_3 F_b3_libraries_3 gb3) hZ (hw _ (List.mem_of_getElem? (i := 34) rfl)) (hw _ (List.mem_of_getElem? (i := 31) rfl)) (by decide) (by decide)) (g := (mkF m 13 #[.val (.int p1), .val (.int p2), .val (.ref b1), .unset, .unset, .unset, .unset, .unset, .unset, .unset, .unset, .unset, .unset, .unset, .unset] [(.ref b1), (.ref b3), (.ref b3)])) rfl (by rw [hml]; rfl) (Steps.refl _) (a := b3) (argsL := [(.ref b1)]) (rest := [(.ref b3)]) (lenOf pd_0_1 rfl) rfl (by show 2 * 0 + _ ≤ _; exact Nat.le_of_eq rfl) (hb hby at_13) (fun _ _ => ⟨rfl, e3, (by decide : 4 + 0 ≤ _), (by decide : 21 + 0 ≤ _)⟩)
  dsimp only [Pt.U, Pt.locs, Pt.cells, Pt.slots] at X4 l4 y4 z4 st4 hQ4
  subst l4 y4 z4
  obtain ⟨rfl, N4q, K4, Fp4, Fl4⟩ := hQ4
  have N4 := Fr.app N2 N4q
  have E_b3_4 := A3.keep K4
  have Z4 : n0 ≤ T4.heap.size := Nat.le_trans Z3 K4.1
  obtain ⟨cq5, kq5, q5a, q5b, q5c⟩ := isOf hZ rfl E_b3_4
  obtain ⟨_, _, ⟨T5, L5, k5, n5⟩, -, X5, ⟨Lc5, hQ5, l5, y5, z5⟩, st5⟩ := X4.virtualBack hx (y := (⟨"com/example/roteiro/roteiro/lang/Scope", "child", "()Lcom/example/roteiro/roteiro/lang/Scope;"⟩ : MethodName)) (z := (⟨"com/example/roteiro/roteiro/lang/Scope", "child", "()Lcom/example/roteiro/roteiro/lang/Scope;"⟩ : MethodName)) hown (mvT hZ (hw _ (List.mem_of_getElem? (i := 43) rfl))) (mvT hZ (hw _ (List.mem_of_getElem? (i := 44) rfl))) (notFace_of_selects (args := #[]) (mvT hZ (hw _ (List.mem_of_getElem? (i := 46) rfl)))) (mvT hZ (hw _ (List.mem_of_getElem? (i := 46) rfl))) (mvT hZ (hw _ (List.mem_of_getElem? (i := 45) rfl))) (by decide) (backOf (W := 0) (rmCh l Z a0 hw [] b3 b1 T4.heap n0 Z4 Fl4) hZ (hw _ (List.mem_of_getElem? (i := 47) rfl)) (hw _ (List.mem_of_getElem? (i := 31) rfl)) (by decide) (by decide)) q5a q5c (g := (mkF m 18 #[.val (.int p1), .val (.int p2), .val (.ref b1), .val (.ref b3), .unset, .unset, .unset, .unset, .unset, .unset, .unset, .unset, .unset, .unset, .unset] [(.ref b3)])) rfl (by rw [hml]; rfl) (Steps.refl _) (argsL := []) (rest := []) (lenOf pd_0_2 rfl) rfl (by show 2 * 0 + _ ≤ _; exact Nat.le_of_eq rfl) (hb hby at_18) (fun _ _ => ⟨rfl, rfl, (by decide : 4 + 1 ≤ _), (by decide : 21 + 3 ≤ _)⟩)
  dsimp only [Pt.U, Pt.locs, Pt.cells, Pt.slots] at X5 l5 y5 z5 st5 hQ5
  subst l5 y5 z5
  obtain ⟨rfl, N5q, K5, Ev5, Fp5, Fl5⟩ := hQ5
  have N5 := Fr.app N4 N5q
  have E_b3_5 := E_b3_4.keep K5
  have F_b3_parent_5 := Fp4.keep K5 nin0
  have F_b3_libraries_5 := Fl4.keep K5 nin0
  have Z5 : n0 ≤ T5.heap.size := Nat.le_trans Z4 K5.1
  obtain ⟨c5, gc5⟩ : ∃ z, z = T4.heap.size := ⟨_, rfl⟩
  rw [← gc5] at st5 Ev5 Fp5 Fl5
  obtain ⟨cq6, kq6, q6a, q6b, q6c⟩ := isOf hZ rfl Ev5
  obtain ⟨_, _, ⟨T6, L6, k6, n6⟩, -, X6, ⟨Lc6, hQ6, l6, y6, z6⟩, st6⟩ := X5.virtualBack hx (y := (⟨"com/example/roteiro/roteiro/lang/Scope", "child", "()Lcom/example/roteiro/roteiro/lang/Scope;"⟩ : MethodName)) (z := (⟨"com/example/roteiro/roteiro/lang/Scope", "child", "()Lcom/example/roteiro/roteiro/lang/Scope;"⟩ : MethodName)) hown (mvT hZ (hw _ (List.mem_of_getElem? (i := 43) rfl))) (mvT hZ (hw _ (List.mem_of_getElem? (i := 44) rfl))) (notFace_of_selects (args := #[]) (mvT hZ (hw _ (List.mem_of_getElem? (i := 46) rfl)))) (mvT hZ (hw _ (List.mem_of_getElem? (i := 46) rfl))) (mvT hZ (hw _ (List.mem_of_getElem? (i := 45) rfl))) (by decide) (backOf (W := 0) (rmCh l Z a0 hw [] c5 b1 T5.heap n0 Z5 Fl5) hZ (hw _ (List.mem_of_getElem? (i := 47) rfl)) (hw _ (List.mem_of_getElem? (i := 31) rfl)) (by decide) (by decide)) q6a q6c (g := (mkF m 25 #[.val (.int p1), .val (.int p2), .val (.ref b1), .val (.ref b3), .val (.ref c5), .unset, .unset, .unset, .unset, .unset, .unset, .unset, .unset, .unset, .unset] [(.ref c5)])) rfl (by rw [hml]; rfl) (Steps.refl _) (argsL := []) (rest := []) (lenOf pd_0_2 rfl) rfl (by show 2 * 0 + _ ≤ _; exact Nat.le_of_eq rfl) (hb hby at_25) (fun _ _ => ⟨rfl, rfl, (by decide : 5 + 1 ≤ _), (by decide : 24 + 3 ≤ _)⟩)
  dsimp only [Pt.U, Pt.locs, Pt.cells, Pt.slots] at X6 l6 y6 z6 st6 hQ6
  subst l6 y6 z6
  obtain ⟨rfl, N6q, K6, Ev6, Fp6, Fl6⟩ := hQ6
  have N6 := Fr.app N5 N6q
  have E_b3_6 := E_b3_5.keep K6
  have F_b3_parent_6 := F_b3_parent_5.keep K6 nin0
  have F_b3_libraries_6 := F_b3_libraries_5.keep K6 nin0
  have E_c5_6 := Ev5.keep K6
  have F_c5_parent_6 := Fp5.keep K6 nin0
  have F_c5_libraries_6 := Fl5.keep K6 nin0
  have Z6 : n0 ≤ T6.heap.size := Nat.le_trans Z5 K6.1
  obtain ⟨c6, gc6⟩ : ∃ z, z = T5.heap.size := ⟨_, rfl⟩
  rw [← gc6] at st6 Ev6 Fp6 Fl6
  obtain ⟨cq7, kq7, q7a, q7b, q7c⟩ := isOf hZ rfl Ev6
  obtain ⟨_, _, ⟨T7, L7, k7, n7⟩, -, X7, ⟨Lc7, hQ7, l7, y7, z7⟩, st7⟩ := X6.virtualBack hx (y := (⟨"com/example/roteiro/roteiro/lang/Scope", "child", "()Lcom/example/roteiro/roteiro/lang/Scope;"⟩ : MethodName)) (z := (⟨"com/example/roteiro/roteiro/lang/Scope", "child", "()Lcom/example/roteiro/roteiro/lang/Scope;"⟩ : MethodName)) hown (mvT hZ (hw _ (List.mem_of_getElem? (i := 43) rfl))) (mvT hZ (hw _ (List.mem_of_getElem? (i := 44) rfl))) (notFace_of_selects (args := #[]) (mvT hZ (hw _ (List.mem_of_getElem? (i := 46) rfl)))) (mvT hZ (hw _ (List.mem_of_getElem? (i := 46) rfl))) (mvT hZ (hw _ (List.mem_of_getElem? (i := 45) rfl))) (by decide) (backOf (W := 0) (rmCh l Z a0 hw [] c6 b1 T6.heap n0 Z6 Fl6) hZ (hw _ (List.mem_of_getElem? (i := 47) rfl)) (hw _ (List.mem_of_getElem? (i := 31) rfl)) (by decide) (by decide)) q7a q7c (g := (mkF m 32 #[.val (.int p1), .val (.int p2), .val (.ref b1), .val (.ref b3), .val (.ref c5), .val (.ref c6), .unset, .unset, .unset, .unset, .unset, .unset, .unset, .unset, .unset] [(.ref c6)])) rfl (by rw [hml]; rfl) (Steps.refl _) (argsL := []) (rest := []) (lenOf pd_0_2 rfl) rfl (by show 2 * 0 + _ ≤ _; exact Nat.le_of_eq rfl) (hb hby at_32) (fun _ _ => ⟨rfl, rfl, (by decide : 6 + 1 ≤ _), (by decide : 27 + 3 ≤ _)⟩)
  dsimp only [Pt.U, Pt.locs, Pt.cells, Pt.slots] at X7 l7 y7 z7 st7 hQ7
  subst l7 y7 z7
  obtain ⟨rfl, N7q, K7, Ev7, Fp7, Fl7⟩ := hQ7
  have N7 := Fr.app N6 N7q
  have E_b3_7 := E_b3_6.keep K7
  have F_b3_parent_7 := F_b3_parent_6.keep K7 nin0
  have F_b3_libraries_7 := F_b3_libraries_6.keep K7 nin0
  have E_c5_7 := E_c5_6.keep K7
  have F_c5_parent_7 := F_c5_parent_6.keep K7 nin0
  have F_c5_libraries_7 := F_c5_libraries_6.keep K7 nin0
  have E_c6_7 := Ev6.keep K7
  have F_c6_parent_7 := Fp6.keep K7 nin0
  have F_c6_libraries_7 := Fl6.keep K7 nin0
  have Z7 : n0 ≤ T7.heap.size := Nat.le_trans Z6 K7.1
  obtain ⟨c7, gc7⟩ : ∃ z, z = T6.heap.size := ⟨_, rfl⟩
  rw [← gc7] at st7 Ev7 Fp7 Fl7
  obtain ⟨cq8, kq8, q8a, q8b, q8c⟩ := isOf hZ rfl E_c6_7
  obtain ⟨_, _, ⟨T8, L8, k8, n8⟩, -, X8, ⟨Lc8, hQ8, l8, y8, z8⟩, st8⟩ := X7.virtualBack hx (y := (⟨"com/example/roteiro/roteiro/lang/Scope", "root", "()Lcom/example/roteiro/roteiro/lang/Scope;"⟩ : MethodName)) (z := (⟨"com/example/roteiro/roteiro/lang/Scope", "root", "()Lcom/example/roteiro/roteiro/lang/Scope;"⟩ : MethodName)) hown (mvT hZ (hw _ (List.mem_of_getElem? (i := 49) rfl))) (mvT hZ (hw _ (List.mem_of_getElem? (i := 50) rfl))) (notFace_of_selects (args := #[]) (mvT hZ (hw _ (List.mem_of_getElem? (i := 52) rfl)))) (mvT hZ (hw _ (List.mem_of_getElem? (i := 52) rfl))) (mvT hZ (hw _ (List.mem_of_getElem? (i := 51) rfl))) (by decide) (backOf (W := 0) (rmRo2 l Z a0 hw [] c6 c5 b3 T7.heap n0 Z7 F_c6_parent_7 F_c5_parent_7 F_b3_parent_7) hZ (hw _ (List.mem_of_getElem? (i := 53) rfl)) (hw _ (List.mem_of_getElem? (i := 31) rfl)) (by decide) (by decide)) q8a q8c (g := (mkF m 85 #[.val (.int p1), .val (.int p2), .val (.ref b1), .val (.ref b3), .val (.ref c5), .val (.ref c6), .val (.ref c7), .val (.int (2 : Int32)), .val (.ref c6), .unset, .unset, .unset, .unset, .unset, .unset] [(.ref c6)])) rfl (by rw [hml]; rfl) (Steps.refl _) (argsL := []) (rest := []) (lenOf pd_0_2 rfl) rfl (by show 2 * 0 + _ ≤ _; exact Nat.le_of_eq rfl) (hb hby at_85) (fun _ _ => ⟨rfl, rfl, (by decide : 7 + 0 ≤ _), (by decide : 30 + 0 ≤ _)⟩)
  dsimp only [Pt.U, Pt.locs, Pt.cells, Pt.slots] at X8 l8 y8 z8 st8 hQ8
  subst l8 y8 z8
  obtain ⟨rfl, N8q, eh8⟩ := hQ8
  have N8 := Fr.app N7 N8q
  obtain ⟨cq9, kq9, q9a, q9b, q9c⟩ := isOf hZ eh8 E_b3_7
  obtain ⟨_, _, ⟨T9, L9, k9, n9⟩, -, X9, ⟨Lc9, hQ9, l9, y9, z9⟩, st9⟩ := X8.virtualBack hx (y := (⟨"com/example/roteiro/roteiro/lang/Scope", "root", "()Lcom/example/roteiro/roteiro/lang/Scope;"⟩ : MethodName)) (z := (⟨"com/example/roteiro/roteiro/lang/Scope", "root", "()Lcom/example/roteiro/roteiro/lang/Scope;"⟩ : MethodName)) hown (mvT hZ (hw _ (List.mem_of_getElem? (i := 49) rfl))) (mvT hZ (hw _ (List.mem_of_getElem? (i := 50) rfl))) (notFace_of_selects (args := #[]) (mvT hZ (hw _ (List.mem_of_getElem? (i := 52) rfl)))) (mvT hZ (hw _ (List.mem_of_getElem? (i := 52) rfl))) (mvT hZ (hw _ (List.mem_of_getElem? (i := 51) rfl))) (by decide) (backOf (W := 0) (rmRo0 l Z a0 hw [] b3 T7.heap n0 Z7 F_b3_parent_7) hZ (hw _ (List.mem_of_getElem? (i := 53) rfl)) (hw _ (List.mem_of_getElem? (i := 31) rfl)) (by decide) (by decide)) q9a q9c (g := (mkF m 98 #[.val (.int p1), .val (.int p2), .val (.ref b1), .val (.ref b3), .val (.ref c5), .val (.ref c6), .val (.ref c7), .val (.int (2 : Int32)), .val (.ref c6), .val (.ref b3), .unset, .unset, .unset, .unset, .unset] [(.ref b3)])) rfl (by rw [hml]; rfl) (Steps.refl _) (argsL := []) (rest := []) (lenOf pd_0_2 rfl) rfl (by show 2 * 0 + _ ≤ _; exact Nat.le_of_eq rfl) (hb hby at_98) (fun _ _ => ⟨rfl, eh8, (by decide : 7 + 0 ≤ _), (by decide : 30 + 0 ≤ _)⟩)
  dsimp only [Pt.U, Pt.locs, Pt.cells, Pt.slots] at X9 l9 y9 z9 st9 hQ9
  subst l9 y9 z9
  obtain ⟨rfl, N9q, eh9⟩ := hQ9
  have N9 := Fr.app N8 N9q
  obtain ⟨T10, h10, X10, e10, E10, A10, D10, -, st10⟩ := newO X9 hx hZ hown (hw _ (List.mem_of_getElem? (i := 29) rfl)) (hw _ (List.mem_of_getElem? (i := 30) rfl)) (hw _ (List.mem_of_getElem? (i := 31) rfl)) eh9 (g := (mkF m 112 #[.val (.int p1), .val (.int p2), .val (.ref b1), .val (.ref b3), .val (.ref c5), .val (.ref c6), .val (.ref c7), .val (.int (2 : Int32)), .val (.ref c6), .val (.ref b3), .val (.int (1 : Int32)), .unset, .unset, .unset, .unset] [])) rfl (hb hby at_112) (by decide) (by decide)
  obtain ⟨b10, g10⟩ : ∃ z, z = T7.heap.size := ⟨_, rfl⟩
  rw [← g10] at A10 D10 st10
  have gb10 : n0 ≤ b10 := Nat.le_trans Z7 (Nat.le_of_eq g10.symm)
  have ne_b3_b10 : b3 ≠ b10 := (Nat.ne_of_lt (Nat.lt_of_lt_of_le E_b3_7.lt (Nat.le_of_eq g10.symm)))
  have ne_c5_b10 : c5 ≠ b10 := (Nat.ne_of_lt (Nat.lt_of_lt_of_le E_c5_7.lt (Nat.le_of_eq g10.symm)))
  have ne_c6_b10 : c6 ≠ b10 := (Nat.ne_of_lt (Nat.lt_of_lt_of_le E_c6_7.lt (Nat.le_of_eq g10.symm)))
  have ne_c7_b10 : c7 ≠ b10 := (Nat.ne_of_lt (Nat.lt_of_lt_of_le Ev7.lt (Nat.le_of_eq g10.symm)))
  have E_b3_10 := E_b3_7.ext E10
  have F_b3_parent_10 := F_b3_parent_7.ext E10
  have F_b3_libraries_10 := F_b3_libraries_7.ext E10
  have E_c5_10 := E_c5_7.ext E10
  have F_c5_parent_10 := F_c5_parent_7.ext E10
  have F_c5_libraries_10 := F_c5_libraries_7.ext E10
  have E_c6_10 := E_c6_7.ext E10
  have F_c6_parent_10 := F_c6_parent_7.ext E10
  have F_c6_libraries_10 := F_c6_libraries_7.ext E10
  have E_c7_10 := Ev7.ext E10
  have F_c7_parent_10 := Fp7.ext E10
  have F_c7_libraries_10 := Fl7.ext E10
  have Z10 : n0 ≤ h10.size := Nat.le_trans Z7 E10.1
  have F_b10_parent_10 : Fld Z h10 b10 "com/example/roteiro/roteiro/lang/Scope" "parent" "Lcom/example/roteiro/roteiro/lang/Scope;" .null := D10 (Or.inr (hw _ (List.mem_of_getElem? (i := 40) rfl))) (ty := (.object "com/example/roteiro/roteiro/lang/Scope")) (by decide)
  have F_b10_libraries_10 : Fld Z h10 b10 "com/example/roteiro/roteiro/lang/Scope" "libraries" "Lcom/example/roteiro/roteiro/lang/Libraries;" .null := D10 (Or.inr (hw _ (List.mem_of_getElem? (i := 42) rfl))) (ty := (.object "com/example/roteiro/roteiro/lang/Libraries")) (by decide)
  obtain ⟨_, _, ⟨T11, L11, k11, n11⟩, -, X11, ⟨Lc11, hQ11, l11, y11, z11⟩, st11⟩ := X10.specialBack hx (y := (⟨"com/example/roteiro/roteiro/lang/Scope", "<init>", "(Lcom/example/roteiro/roteiro/lang/Libraries;)V"⟩ : MethodName)) rfl hown (mvT hZ (hw _ (List.mem_of_getElem? (i := 32) rfl))) (mvT hZ (hw _ (List.mem_of_getElem? (i := 33) rfl))) (mvT hZ (hw _ (List.mem_of_getElem? (i := 34) rfl))) (by decide) (backOf (W := 1) (rmI1 l Z a0 hw [] b10 b1 _ _ h10 n0 Z10 A10 F_b10_parent_10 F_b10_libraries_10 gb10) hZ (hw _ (List.mem_of_getElem? (i := 34) rfl)) (hw _ (List.mem_of_getElem? (i := 31) rfl)) (by decide) (by decide)) (g := (mkF m 117 #[.val (.int p1), .val (.int p2), .val (.ref b1), .val (.ref b3), .val (.ref c5), .val (.ref c6), .val (.ref c7), .val (.int (2 : Int32)), .val (.ref c6), .val (.ref b3), .val (.int (1 : Int32)), .unset, .unset, .unset, .unset] [(.ref b1), (.ref b10), (.ref b10)])) rfl (by rw [hml]; rfl) (Steps.refl _) (a := b10) (argsL := [(.ref b1)]) (rest := [(.ref b10)]) (lenOf pd_0_1 rfl) rfl (by show 2 * 0 + _ ≤ _; exact Nat.le_of_eq rfl) (hb hby at_117) (fun _ _ => ⟨rfl, e10, (by decide : 8 + 0 ≤ _), (by decide : 33 + 0 ≤ _)⟩)
  dsimp only [Pt.U, Pt.locs, Pt.cells, Pt.slots] at X11 l11 y11 z11 st11 hQ11
  subst l11 y11 z11
  obtain ⟨rfl, N11q, K11, Fp11, Fl11⟩ := hQ11
  have N11 := Fr.app N9 N11q
  have E_b3_11 := E_b3_10.keep K11
  have F_b3_parent_11 := F_b3_parent_10.keep K11 (ninS ne_b3_b10 nin0)
  have F_b3_libraries_11 := F_b3_libraries_10.keep K11 (ninS ne_b3_b10 nin0)
  have E_c5_11 := E_c5_10.keep K11
  have F_c5_parent_11 := F_c5_parent_10.keep K11 (ninS ne_c5_b10 nin0)
  have F_c5_libraries_11 := F_c5_libraries_10.keep K11 (ninS ne_c5_b10 nin0)
  have E_c6_11 := E_c6_10.keep K11
  have F_c6_parent_11 := F_c6_parent_10.keep K11 (ninS ne_c6_b10 nin0)
  have F_c6_libraries_11 := F_c6_libraries_10.keep K11 (ninS ne_c6_b10 nin0)
  have E_c7_11 := E_c7_10.keep K11
  have F_c7_parent_11 := F_c7_parent_10.keep K11 (ninS ne_c7_b10 nin0)
  have F_c7_libraries_11 := F_c7_libraries_10.keep K11 (ninS ne_c7_b10 nin0)
  have E_b10_11 := A10.keep K11
  have Z11 : n0 ≤ T11.heap.size := Nat.le_trans Z10 K11.1
  obtain ⟨cq12, kq12, q12a, q12b, q12c⟩ := isOf hZ rfl E_b10_11
  obtain ⟨_, _, ⟨T12, L12, k12, n12⟩, -, X12, ⟨Lc12, hQ12, l12, y12, z12⟩, st12⟩ := X11.virtualBack hx (y := (⟨"com/example/roteiro/roteiro/lang/Scope", "root", "()Lcom/example/roteiro/roteiro/lang/Scope;"⟩ : MethodName)) (z := (⟨"com/example/roteiro/roteiro/lang/Scope", "root", "()Lcom/example/roteiro/roteiro/lang/Scope;"⟩ : MethodName)) hown (mvT hZ (hw _ (List.mem_of_getElem? (i := 49) rfl))) (mvT hZ (hw _ (List.mem_of_getElem? (i := 50) rfl))) (notFace_of_selects (args := #[]) (mvT hZ (hw _ (List.mem_of_getElem? (i := 52) rfl)))) (mvT hZ (hw _ (List.mem_of_getElem? (i := 52) rfl))) (mvT hZ (hw _ (List.mem_of_getElem? (i := 51) rfl))) (by decide) (backOf (W := 0) (rmRo0 l Z a0 hw [] b10 T11.heap n0 Z11 Fp11) hZ (hw _ (List.mem_of_getElem? (i := 53) rfl)) (hw _ (List.mem_of_getElem? (i := 31) rfl)) (by decide) (by decide)) q12a q12c (g := (mkF m 142 #[.val (.int p1), .val (.int p2), .val (.ref b1), .val (.ref b3), .val (.ref c5), .val (.ref c6), .val (.ref c7), .val (.int (2 : Int32)), .val (.ref c6), .val (.ref b3), .val (.int (1 : Int32)), .val (.ref b10), .val (.ref b10), .unset, .unset] [(.ref b10)])) rfl (by rw [hml]; rfl) (Steps.refl _) (argsL := []) (rest := []) (lenOf pd_0_2 rfl) rfl (by show 2 * 0 + _ ≤ _; exact Nat.le_of_eq rfl) (hb hby at_142) (fun _ _ => ⟨rfl, rfl, (by decide : 8 + 0 ≤ _), (by decide : 33 + 0 ≤ _)⟩)
  dsimp only [Pt.U, Pt.locs, Pt.cells, Pt.slots] at X12 l12 y12 z12 st12 hQ12
  subst l12 y12 z12
  obtain ⟨rfl, N12q, eh12⟩ := hQ12
  have N12 := Fr.app N11 N12q
  obtain ⟨fs, hr, hrun, hended, hW, hsame⟩ := X12.leave (v := some (.int (1 : Int32))) (fun h => by rw [Bd.returns] at h; cases h)
  refine ⟨_, _, pre0 _ ?_, hrun, hended, _, _, rfl, ?_, ⟨_, rfl⟩, hW, hsame.mono (by decide) (by decide)⟩
  · show Steps p.tables e below (s₁.setTop (mkF m 0 #[.val (.int p1), .val (.int p2), .unset, .unset, .unset, .unset, .unset, .unset, .unset, .unset, .unset, .unset, .unset, .unset, .unset] [])) _
    refine st1 _ ?_
    show Steps p.tables e below (T1.setTop (mkF m 3 #[.val (.int p1), .val (.int p2), .unset, .unset, .unset, .unset, .unset, .unset, .unset, .unset, .unset, .unset, .unset, .unset, .unset] [(.ref b1)])) _
    refine XS.dup X1.here hx rfl (hb hby at_3) rfl rfl ?_
    show Steps p.tables e below (T1.setTop (mkF m 4 #[.val (.int p1), .val (.int p2), .unset, .unset, .unset, .unset, .unset, .unset, .unset, .unset, .unset, .unset, .unset, .unset, .unset] [(.ref b1), (.ref b1)])) _
    refine st2.trans ?_
    show Steps p.tables e below (T2.setTop (mkF m 7 #[.val (.int p1), .val (.int p2), .unset, .unset, .unset, .unset, .unset, .unset, .unset, .unset, .unset, .unset, .unset, .unset, .unset] [(.ref b1)])) _
    refine XS.astoreN X2.here hx rfl (hb hby at_7) rfl rfl (l' := #[.val (.int p1), .val (.int p2), .val (.ref b1), .unset, .unset, .unset, .unset, .unset, .unset, .unset, .unset, .unset, .unset, .unset, .unset]) rfl ?_
    show Steps p.tables e below (T2.setTop (mkF m 8 #[.val (.int p1), .val (.int p2), .val (.ref b1), .unset, .unset, .unset, .unset, .unset, .unset, .unset, .unset, .unset, .unset, .unset, .unset] [])) _
    refine st3 _ ?_
    show Steps p.tables e below (T3.setTop (mkF m 11 #[.val (.int p1), .val (.int p2), .val (.ref b1), .unset, .unset, .unset, .unset, .unset, .unset, .unset, .unset, .unset, .unset, .unset, .unset] [(.ref b3)])) _
    refine XS.dup X3.here hx rfl (hb hby at_11) rfl rfl ?_
    show Steps p.tables e below (T3.setTop (mkF m 12 #[.val (.int p1), .val (.int p2), .val (.ref b1), .unset, .unset, .unset, .unset, .unset, .unset, .unset, .unset, .unset, .unset, .unset, .unset] [(.ref b3), (.ref b3)])) _
    refine XS.aloadN X3.here hx rfl (hb hby at_12) rfl rfl ?_
    show Steps p.tables e below (T3.setTop (mkF m 13 #[.val (.int p1), .val (.int p2), .val (.ref b1), .unset, .unset, .unset, .unset, .unset, .unset, .unset, .unset, .unset, .unset, .unset, .unset] [(.ref b1), (.ref b3), (.ref b3)])) _
    refine st4.trans ?_
    show Steps p.tables e below (T4.setTop (mkF m 16 #[.val (.int p1), .val (.int p2), .val (.ref b1), .unset, .unset, .unset, .unset, .unset, .unset, .unset, .unset, .unset, .unset, .unset, .unset] [(.ref b3)])) _
    refine XS.astoreN X4.here hx rfl (hb hby at_16) rfl rfl (l' := #[.val (.int p1), .val (.int p2), .val (.ref b1), .val (.ref b3), .unset, .unset, .unset, .unset, .unset, .unset, .unset, .unset, .unset, .unset, .unset]) rfl ?_
    show Steps p.tables e below (T4.setTop (mkF m 17 #[.val (.int p1), .val (.int p2), .val (.ref b1), .val (.ref b3), .unset, .unset, .unset, .unset, .unset, .unset, .unset, .unset, .unset, .unset, .unset] [])) _
    refine XS.aloadN X4.here hx rfl (hb hby at_17) rfl rfl ?_
    show Steps p.tables e below (T4.setTop (mkF m 18 #[.val (.int p1), .val (.int p2), .val (.ref b1), .val (.ref b3), .unset, .unset, .unset, .unset, .unset, .unset, .unset, .unset, .unset, .unset, .unset] [(.ref b3)])) _
    refine st5.trans ?_
    show Steps p.tables e below (T5.setTop (mkF m 21 #[.val (.int p1), .val (.int p2), .val (.ref b1), .val (.ref b3), .unset, .unset, .unset, .unset, .unset, .unset, .unset, .unset, .unset, .unset, .unset] [(.ref c5)])) _
    refine XS.astore X5.here hx rfl (hb hby at_21) rfl rfl (l' := #[.val (.int p1), .val (.int p2), .val (.ref b1), .val (.ref b3), .val (.ref c5), .unset, .unset, .unset, .unset, .unset, .unset, .unset, .unset, .unset, .unset]) rfl ?_
    show Steps p.tables e below (T5.setTop (mkF m 23 #[.val (.int p1), .val (.int p2), .val (.ref b1), .val (.ref b3), .val (.ref c5), .unset, .unset, .unset, .unset, .unset, .unset, .unset, .unset, .unset, .unset] [])) _
    refine XS.aload X5.here hx rfl (hb hby at_23) rfl rfl ?_
    show Steps p.tables e below (T5.setTop (mkF m 25 #[.val (.int p1), .val (.int p2), .val (.ref b1), .val (.ref b3), .val (.ref c5), .unset, .unset, .unset, .unset, .unset, .unset, .unset, .unset, .unset, .unset] [(.ref c5)])) _
    refine st6.trans ?_
    show Steps p.tables e below (T6.setTop (mkF m 28 #[.val (.int p1), .val (.int p2), .val (.ref b1), .val (.ref b3), .val (.ref c5), .unset, .unset, .unset, .unset, .unset, .unset, .unset, .unset, .unset, .unset] [(.ref c6)])) _
    refine XS.astore X6.here hx rfl (hb hby at_28) rfl rfl (l' := #[.val (.int p1), .val (.int p2), .val (.ref b1), .val (.ref b3), .val (.ref c5), .val (.ref c6), .unset, .unset, .unset, .unset, .unset, .unset, .unset, .unset, .unset]) rfl ?_
    show Steps p.tables e below (T6.setTop (mkF m 30 #[.val (.int p1), .val (.int p2), .val (.ref b1), .val (.ref b3), .val (.ref c5), .val (.ref c6), .unset, .unset, .unset, .unset, .unset, .unset, .unset, .unset, .unset] [])) _
    refine XS.aload X6.here hx rfl (hb hby at_30) rfl rfl ?_
    show Steps p.tables e below (T6.setTop (mkF m 32 #[.val (.int p1), .val (.int p2), .val (.ref b1), .val (.ref b3), .val (.ref c5), .val (.ref c6), .unset, .unset, .unset, .unset, .unset, .unset, .unset, .unset, .unset] [(.ref c6)])) _
    refine st7.trans ?_
    show Steps p.tables e below (T7.setTop (mkF m 35 #[.val (.int p1), .val (.int p2), .val (.ref b1), .val (.ref b3), .val (.ref c5), .val (.ref c6), .unset, .unset, .unset, .unset, .unset, .unset, .unset, .unset, .unset] [(.ref c7)])) _
    refine XS.astore X7.here hx rfl (hb hby at_35) rfl rfl (l' := #[.val (.int p1), .val (.int p2), .val (.ref b1), .val (.ref b3), .val (.ref c5), .val (.ref c6), .val (.ref c7), .unset, .unset, .unset, .unset, .unset, .unset, .unset, .unset]) rfl ?_
    show Steps p.tables e below (T7.setTop (mkF m 37 #[.val (.int p1), .val (.int p2), .val (.ref b1), .val (.ref b3), .val (.ref c5), .val (.ref c6), .val (.ref c7), .unset, .unset, .unset, .unset, .unset, .unset, .unset, .unset] [])) _
    refine XS.iloadN X7.here hx rfl (hb hby at_37) rfl ?_
    show Steps p.tables e below (T7.setTop (mkF m 38 #[.val (.int p1), .val (.int p2), .val (.ref b1), .val (.ref b3), .val (.ref c5), .val (.ref c6), .val (.ref c7), .unset, .unset, .unset, .unset, .unset, .unset, .unset, .unset] [(.int p1)])) _
    refine XS.iconst X7.here hx rfl (hb hby at_38) ?_
    show Steps p.tables e below (T7.setTop (mkF m 39 #[.val (.int p1), .val (.int p2), .val (.ref b1), .val (.ref b3), .val (.ref c5), .val (.ref c6), .val (.ref c7), .unset, .unset, .unset, .unset, .unset, .unset, .unset, .unset] [(.int (3 : Int32)), (.int p1)])) _
    refine XS.iand X7.here hx rfl (hb hby at_39) rfl ?_
    show Steps p.tables e below (T7.setTop (mkF m 40 #[.val (.int p1), .val (.int p2), .val (.ref b1), .val (.ref b3), .val (.ref c5), .val (.ref c6), .val (.ref c7), .unset, .unset, .unset, .unset, .unset, .unset, .unset, .unset] [(.int (p1 &&& (3 : Int32)))])) _
    rw [hd]
    show Steps p.tables e below (T7.setTop (mkF m 40 #[.val (.int p1), .val (.int p2), .val (.ref b1), .val (.ref b3), .val (.ref c5), .val (.ref c6), .val (.ref c7), .unset, .unset, .unset, .unset, .unset, .unset, .unset, .unset] [(.int (2 : Int32))])) _
    refine XS.istore X7.here hx rfl (hb hby at_40) rfl (l' := #[.val (.int p1), .val (.int p2), .val (.ref b1), .val (.ref b3), .val (.ref c5), .val (.ref c6), .val (.ref c7), .val (.int (2 : Int32)), .unset, .unset, .unset, .unset, .unset, .unset, .unset]) rfl ?_
    show Steps p.tables e below (T7.setTop (mkF m 42 #[.val (.int p1), .val (.int p2), .val (.ref b1), .val (.ref b3), .val (.ref c5), .val (.ref c6), .val (.ref c7), .val (.int (2 : Int32)), .unset, .unset, .unset, .unset, .unset, .unset, .unset] [])) _
    refine XS.iload X7.here hx rfl (hb hby at_42) rfl ?_
    show Steps p.tables e below (T7.setTop (mkF m 44 #[.val (.int p1), .val (.int p2), .val (.ref b1), .val (.ref b3), .val (.ref c5), .val (.ref c6), .val (.ref c7), .val (.int (2 : Int32)), .unset, .unset, .unset, .unset, .unset, .unset, .unset] [(.int (2 : Int32))])) _
    refine XS.ifYes X7.here hx rfl (pc0 := 44) (pc' := 53) rfl (hb hby at_44) rfl ((if0 _ _).trans (feq ((by decide) : ¬ ((2 : Int32) = (0 : Int32)))).2) (by decide) (by decide) ?_
    show Steps p.tables e below (T7.setTop (mkF m 53 #[.val (.int p1), .val (.int p2), .val (.ref b1), .val (.ref b3), .val (.ref c5), .val (.ref c6), .val (.ref c7), .val (.int (2 : Int32)), .unset, .unset, .unset, .unset, .unset, .unset, .unset] [])) _
    refine XS.iload X7.here hx rfl (hb hby at_53) rfl ?_
    show Steps p.tables e below (T7.setTop (mkF m 55 #[.val (.int p1), .val (.int p2), .val (.ref b1), .val (.ref b3), .val (.ref c5), .val (.ref c6), .val (.ref c7), .val (.int (2 : Int32)), .unset, .unset, .unset, .unset, .unset, .unset, .unset] [(.int (2 : Int32))])) _
    refine XS.iconst X7.here hx rfl (hb hby at_55) ?_
    show Steps p.tables e below (T7.setTop (mkF m 56 #[.val (.int p1), .val (.int p2), .val (.ref b1), .val (.ref b3), .val (.ref c5), .val (.ref c6), .val (.ref c7), .val (.int (2 : Int32)), .unset, .unset, .unset, .unset, .unset, .unset, .unset] [(.int (1 : Int32)), (.int (2 : Int32))])) _
    refine XS.icmpYes X7.here hx rfl (pc0 := 56) (pc' := 66) rfl (hb hby at_56) rfl (feq ((by decide) : ¬ ((2 : Int32) = (1 : Int32)))).2 (by decide) (by decide) ?_
    show Steps p.tables e below (T7.setTop (mkF m 66 #[.val (.int p1), .val (.int p2), .val (.ref b1), .val (.ref b3), .val (.ref c5), .val (.ref c6), .val (.ref c7), .val (.int (2 : Int32)), .unset, .unset, .unset, .unset, .unset, .unset, .unset] [])) _
    refine XS.iload X7.here hx rfl (hb hby at_66) rfl ?_
    show Steps p.tables e below (T7.setTop (mkF m 68 #[.val (.int p1), .val (.int p2), .val (.ref b1), .val (.ref b3), .val (.ref c5), .val (.ref c6), .val (.ref c7), .val (.int (2 : Int32)), .unset, .unset, .unset, .unset, .unset, .unset, .unset] [(.int (2 : Int32))])) _
    refine XS.iconst X7.here hx rfl (hb hby at_68) ?_
    show Steps p.tables e below (T7.setTop (mkF m 69 #[.val (.int p1), .val (.int p2), .val (.ref b1), .val (.ref b3), .val (.ref c5), .val (.ref c6), .val (.ref c7), .val (.int (2 : Int32)), .unset, .unset, .unset, .unset, .unset, .unset, .unset] [(.int (2 : Int32)), (.int (2 : Int32))])) _
    refine XS.icmpNo X7.here hx rfl (hb hby at_69) rfl (teq ((by decide) : (2 : Int32) = (2 : Int32))).2 ?_
    show Steps p.tables e below (T7.setTop (mkF m 72 #[.val (.int p1), .val (.int p2), .val (.ref b1), .val (.ref b3), .val (.ref c5), .val (.ref c6), .val (.ref c7), .val (.int (2 : Int32)), .unset, .unset, .unset, .unset, .unset, .unset, .unset] [])) _
    refine XS.aload X7.here hx rfl (hb hby at_72) rfl rfl ?_
    show Steps p.tables e below (T7.setTop (mkF m 74 #[.val (.int p1), .val (.int p2), .val (.ref b1), .val (.ref b3), .val (.ref c5), .val (.ref c6), .val (.ref c7), .val (.int (2 : Int32)), .unset, .unset, .unset, .unset, .unset, .unset, .unset] [(.ref c6)])) _
    refine XS.astore X7.here hx rfl (hb hby at_74) rfl rfl (l' := #[.val (.int p1), .val (.int p2), .val (.ref b1), .val (.ref b3), .val (.ref c5), .val (.ref c6), .val (.ref c7), .val (.int (2 : Int32)), .val (.ref c6), .unset, .unset, .unset, .unset, .unset, .unset]) rfl ?_
    show Steps p.tables e below (T7.setTop (mkF m 76 #[.val (.int p1), .val (.int p2), .val (.ref b1), .val (.ref b3), .val (.ref c5), .val (.ref c6), .val (.ref c7), .val (.int (2 : Int32)), .val (.ref c6), .unset, .unset, .unset, .unset, .unset, .unset] [])) _
    refine XS.goto X7.here hx rfl (pc0 := 76) (pc' := 83) rfl (hb hby at_76) (by decide) (by decide) ?_
    show Steps p.tables e below (T7.setTop (mkF m 83 #[.val (.int p1), .val (.int p2), .val (.ref b1), .val (.ref b3), .val (.ref c5), .val (.ref c6), .val (.ref c7), .val (.int (2 : Int32)), .val (.ref c6), .unset, .unset, .unset, .unset, .unset, .unset] [])) _
    refine XS.aload X7.here hx rfl (hb hby at_83) rfl rfl ?_
    show Steps p.tables e below (T7.setTop (mkF m 85 #[.val (.int p1), .val (.int p2), .val (.ref b1), .val (.ref b3), .val (.ref c5), .val (.ref c6), .val (.ref c7), .val (.int (2 : Int32)), .val (.ref c6), .unset, .unset, .unset, .unset, .unset, .unset] [(.ref c6)])) _
    refine st8.trans ?_
    show Steps p.tables e below (T8.setTop (mkF m 88 #[.val (.int p1), .val (.int p2), .val (.ref b1), .val (.ref b3), .val (.ref c5), .val (.ref c6), .val (.ref c7), .val (.int (2 : Int32)), .val (.ref c6), .unset, .unset, .unset, .unset, .unset, .unset] [(.ref b3)])) _
    refine XS.astore X8.here hx rfl (hb hby at_88) rfl rfl (l' := #[.val (.int p1), .val (.int p2), .val (.ref b1), .val (.ref b3), .val (.ref c5), .val (.ref c6), .val (.ref c7), .val (.int (2 : Int32)), .val (.ref c6), .val (.ref b3), .unset, .unset, .unset, .unset, .unset]) rfl ?_
    show Steps p.tables e below (T8.setTop (mkF m 90 #[.val (.int p1), .val (.int p2), .val (.ref b1), .val (.ref b3), .val (.ref c5), .val (.ref c6), .val (.ref c7), .val (.int (2 : Int32)), .val (.ref c6), .val (.ref b3), .unset, .unset, .unset, .unset, .unset] [])) _
    refine XS.aload X8.here hx rfl (hb hby at_90) rfl rfl ?_
    show Steps p.tables e below (T8.setTop (mkF m 92 #[.val (.int p1), .val (.int p2), .val (.ref b1), .val (.ref b3), .val (.ref c5), .val (.ref c6), .val (.ref c7), .val (.int (2 : Int32)), .val (.ref c6), .val (.ref b3), .unset, .unset, .unset, .unset, .unset] [(.ref b3)])) _
    refine XS.aloadN X8.here hx rfl (hb hby at_92) rfl rfl ?_
    show Steps p.tables e below (T8.setTop (mkF m 93 #[.val (.int p1), .val (.int p2), .val (.ref b1), .val (.ref b3), .val (.ref c5), .val (.ref c6), .val (.ref c7), .val (.int (2 : Int32)), .val (.ref c6), .val (.ref b3), .unset, .unset, .unset, .unset, .unset] [(.ref b3), (.ref b3)])) _
    refine Jvm.RoadKit.acmp (g := (mkF m 93 #[.val (.int p1), .val (.int p2), .val (.ref b1), .val (.ref b3), .val (.ref c5), .val (.ref c6), .val (.ref c7), .val (.int (2 : Int32)), .val (.ref c6), .val (.ref b3), .unset, .unset, .unset, .unset, .unset] [(.ref b3), (.ref b3)])) X8 hx rfl rfl rfl (pc0 := 93) (pc' := 96) (same := true) rfl (hb hby at_93) rfl (decide_eq_true rfl) (by decide) (by decide) ?_
    show Steps p.tables e below (T8.setTop (mkF m 96 #[.val (.int p1), .val (.int p2), .val (.ref b1), .val (.ref b3), .val (.ref c5), .val (.ref c6), .val (.ref c7), .val (.int (2 : Int32)), .val (.ref c6), .val (.ref b3), .unset, .unset, .unset, .unset, .unset] [])) _
    refine XS.aload X8.here hx rfl (hb hby at_96) rfl rfl ?_
    show Steps p.tables e below (T8.setTop (mkF m 98 #[.val (.int p1), .val (.int p2), .val (.ref b1), .val (.ref b3), .val (.ref c5), .val (.ref c6), .val (.ref c7), .val (.int (2 : Int32)), .val (.ref c6), .val (.ref b3), .unset, .unset, .unset, .unset, .unset] [(.ref b3)])) _
    refine st9.trans ?_
    show Steps p.tables e below (T9.setTop (mkF m 101 #[.val (.int p1), .val (.int p2), .val (.ref b1), .val (.ref b3), .val (.ref c5), .val (.ref c6), .val (.ref c7), .val (.int (2 : Int32)), .val (.ref c6), .val (.ref b3), .unset, .unset, .unset, .unset, .unset] [(.ref b3)])) _
    refine XS.aloadN X9.here hx rfl (hb hby at_101) rfl rfl ?_
    show Steps p.tables e below (T9.setTop (mkF m 102 #[.val (.int p1), .val (.int p2), .val (.ref b1), .val (.ref b3), .val (.ref c5), .val (.ref c6), .val (.ref c7), .val (.int (2 : Int32)), .val (.ref c6), .val (.ref b3), .unset, .unset, .unset, .unset, .unset] [(.ref b3), (.ref b3)])) _
    refine Jvm.RoadKit.acmp (g := (mkF m 102 #[.val (.int p1), .val (.int p2), .val (.ref b1), .val (.ref b3), .val (.ref c5), .val (.ref c6), .val (.ref c7), .val (.int (2 : Int32)), .val (.ref c6), .val (.ref b3), .unset, .unset, .unset, .unset, .unset] [(.ref b3), (.ref b3)])) X9 hx rfl rfl rfl (pc0 := 102) (pc' := 105) (same := true) rfl (hb hby at_102) rfl (decide_eq_true rfl) (by decide) (by decide) ?_
    show Steps p.tables e below (T9.setTop (mkF m 105 #[.val (.int p1), .val (.int p2), .val (.ref b1), .val (.ref b3), .val (.ref c5), .val (.ref c6), .val (.ref c7), .val (.int (2 : Int32)), .val (.ref c6), .val (.ref b3), .unset, .unset, .unset, .unset, .unset] [])) _
    refine XS.iconst X9.here hx rfl (hb hby at_105) ?_
    show Steps p.tables e below (T9.setTop (mkF m 106 #[.val (.int p1), .val (.int p2), .val (.ref b1), .val (.ref b3), .val (.ref c5), .val (.ref c6), .val (.ref c7), .val (.int (2 : Int32)), .val (.ref c6), .val (.ref b3), .unset, .unset, .unset, .unset, .unset] [(.int (1 : Int32))])) _
    refine XS.goto X9.here hx rfl (pc0 := 106) (pc' := 110) rfl (hb hby at_106) (by decide) (by decide) ?_
    show Steps p.tables e below (T9.setTop (mkF m 110 #[.val (.int p1), .val (.int p2), .val (.ref b1), .val (.ref b3), .val (.ref c5), .val (.ref c6), .val (.ref c7), .val (.int (2 : Int32)), .val (.ref c6), .val (.ref b3), .unset, .unset, .unset, .unset, .unset] [(.int (1 : Int32))])) _
    refine XS.istore X9.here hx rfl (hb hby at_110) rfl (l' := #[.val (.int p1), .val (.int p2), .val (.ref b1), .val (.ref b3), .val (.ref c5), .val (.ref c6), .val (.ref c7), .val (.int (2 : Int32)), .val (.ref c6), .val (.ref b3), .val (.int (1 : Int32)), .unset, .unset, .unset, .unset]) rfl ?_
    show Steps p.tables e below (T9.setTop (mkF m 112 #[.val (.int p1), .val (.int p2), .val (.ref b1), .val (.ref b3), .val (.ref c5), .val (.ref c6), .val (.ref c7), .val (.int (2 : Int32)), .val (.ref c6), .val (.ref b3), .val (.int (1 : Int32)), .unset, .unset, .unset, .unset] [])) _
    refine st10 _ ?_
    show Steps p.tables e below (T10.setTop (mkF m 115 #[.val (.int p1), .val (.int p2), .val (.ref b1), .val (.ref b3), .val (.ref c5), .val (.ref c6), .val (.ref c7), .val (.int (2 : Int32)), .val (.ref c6), .val (.ref b3), .val (.int (1 : Int32)), .unset, .unset, .unset, .unset] [(.ref b10)])) _
    refine XS.dup X10.here hx rfl (hb hby at_115) rfl rfl ?_
    show Steps p.tables e below (T10.setTop (mkF m 116 #[.val (.int p1), .val (.int p2), .val (.ref b1), .val (.ref b3), .val (.ref c5), .val (.ref c6), .val (.ref c7), .val (.int (2 : Int32)), .val (.ref c6), .val (.ref b3), .val (.int (1 : Int32)), .unset, .unset, .unset, .unset] [(.ref b10), (.ref b10)])) _
    refine XS.aloadN X10.here hx rfl (hb hby at_116) rfl rfl ?_
    show Steps p.tables e below (T10.setTop (mkF m 117 #[.val (.int p1), .val (.int p2), .val (.ref b1), .val (.ref b3), .val (.ref c5), .val (.ref c6), .val (.ref c7), .val (.int (2 : Int32)), .val (.ref c6), .val (.ref b3), .val (.int (1 : Int32)), .unset, .unset, .unset, .unset] [(.ref b1), (.ref b10), (.ref b10)])) _
    refine st11.trans ?_
    show Steps p.tables e below (T11.setTop (mkF m 120 #[.val (.int p1), .val (.int p2), .val (.ref b1), .val (.ref b3), .val (.ref c5), .val (.ref c6), .val (.ref c7), .val (.int (2 : Int32)), .val (.ref c6), .val (.ref b3), .val (.int (1 : Int32)), .unset, .unset, .unset, .unset] [(.ref b10)])) _
    refine XS.astore X11.here hx rfl (hb hby at_120) rfl rfl (l' := #[.val (.int p1), .val (.int p2), .val (.ref b1), .val (.ref b3), .val (.ref c5), .val (.ref c6), .val (.ref c7), .val (.int (2 : Int32)), .val (.ref c6), .val (.ref b3), .val (.int (1 : Int32)), .val (.ref b10), .unset, .unset, .unset]) rfl ?_
    show Steps p.tables e below (T11.setTop (mkF m 122 #[.val (.int p1), .val (.int p2), .val (.ref b1), .val (.ref b3), .val (.ref c5), .val (.ref c6), .val (.ref c7), .val (.int (2 : Int32)), .val (.ref c6), .val (.ref b3), .val (.int (1 : Int32)), .val (.ref b10), .unset, .unset, .unset] [])) _
    refine XS.iloadN X11.here hx rfl (hb hby at_122) rfl ?_
    show Steps p.tables e below (T11.setTop (mkF m 123 #[.val (.int p1), .val (.int p2), .val (.ref b1), .val (.ref b3), .val (.ref c5), .val (.ref c6), .val (.ref c7), .val (.int (2 : Int32)), .val (.ref c6), .val (.ref b3), .val (.int (1 : Int32)), .val (.ref b10), .unset, .unset, .unset] [(.int p2)])) _
    refine XS.iconst X11.here hx rfl (hb hby at_123) ?_
    show Steps p.tables e below (T11.setTop (mkF m 124 #[.val (.int p1), .val (.int p2), .val (.ref b1), .val (.ref b3), .val (.ref c5), .val (.ref c6), .val (.ref c7), .val (.int (2 : Int32)), .val (.ref c6), .val (.ref b3), .val (.int (1 : Int32)), .val (.ref b10), .unset, .unset, .unset] [(.int (1 : Int32)), (.int p2)])) _
    refine XS.iand X11.here hx rfl (hb hby at_124) rfl ?_
    show Steps p.tables e below (T11.setTop (mkF m 125 #[.val (.int p1), .val (.int p2), .val (.ref b1), .val (.ref b3), .val (.ref c5), .val (.ref c6), .val (.ref c7), .val (.int (2 : Int32)), .val (.ref c6), .val (.ref b3), .val (.int (1 : Int32)), .val (.ref b10), .unset, .unset, .unset] [(.int (p2 &&& (1 : Int32)))])) _
    refine XS.ifYes X11.here hx rfl (pc0 := 125) (pc' := 136) rfl (hb hby at_125) rfl ((if0 _ _).trans (teq (hc125 : (p2 &&& (1 : Int32)) = (0 : Int32))).1) (by decide) (by decide) ?_
    show Steps p.tables e below (T11.setTop (mkF m 136 #[.val (.int p1), .val (.int p2), .val (.ref b1), .val (.ref b3), .val (.ref c5), .val (.ref c6), .val (.ref c7), .val (.int (2 : Int32)), .val (.ref c6), .val (.ref b3), .val (.int (1 : Int32)), .val (.ref b10), .unset, .unset, .unset] [])) _
    refine XS.aload X11.here hx rfl (hb hby at_136) rfl rfl ?_
    show Steps p.tables e below (T11.setTop (mkF m 138 #[.val (.int p1), .val (.int p2), .val (.ref b1), .val (.ref b3), .val (.ref c5), .val (.ref c6), .val (.ref c7), .val (.int (2 : Int32)), .val (.ref c6), .val (.ref b3), .val (.int (1 : Int32)), .val (.ref b10), .unset, .unset, .unset] [(.ref b10)])) _
    refine XS.astore X11.here hx rfl (hb hby at_138) rfl rfl (l' := #[.val (.int p1), .val (.int p2), .val (.ref b1), .val (.ref b3), .val (.ref c5), .val (.ref c6), .val (.ref c7), .val (.int (2 : Int32)), .val (.ref c6), .val (.ref b3), .val (.int (1 : Int32)), .val (.ref b10), .val (.ref b10), .unset, .unset]) rfl ?_
    show Steps p.tables e below (T11.setTop (mkF m 140 #[.val (.int p1), .val (.int p2), .val (.ref b1), .val (.ref b3), .val (.ref c5), .val (.ref c6), .val (.ref c7), .val (.int (2 : Int32)), .val (.ref c6), .val (.ref b3), .val (.int (1 : Int32)), .val (.ref b10), .val (.ref b10), .unset, .unset] [])) _
    refine XS.aload X11.here hx rfl (hb hby at_140) rfl rfl ?_
    show Steps p.tables e below (T11.setTop (mkF m 142 #[.val (.int p1), .val (.int p2), .val (.ref b1), .val (.ref b3), .val (.ref c5), .val (.ref c6), .val (.ref c7), .val (.int (2 : Int32)), .val (.ref c6), .val (.ref b3), .val (.int (1 : Int32)), .val (.ref b10), .val (.ref b10), .unset, .unset] [(.ref b10)])) _
    refine st12.trans ?_
    show Steps p.tables e below (T12.setTop (mkF m 145 #[.val (.int p1), .val (.int p2), .val (.ref b1), .val (.ref b3), .val (.ref c5), .val (.ref c6), .val (.ref c7), .val (.int (2 : Int32)), .val (.ref c6), .val (.ref b3), .val (.int (1 : Int32)), .val (.ref b10), .val (.ref b10), .unset, .unset] [(.ref b10)])) _
    refine XS.astore X12.here hx rfl (hb hby at_145) rfl rfl (l' := #[.val (.int p1), .val (.int p2), .val (.ref b1), .val (.ref b3), .val (.ref c5), .val (.ref c6), .val (.ref c7), .val (.int (2 : Int32)), .val (.ref c6), .val (.ref b3), .val (.int (1 : Int32)), .val (.ref b10), .val (.ref b10), .val (.ref b10), .unset]) rfl ?_
    show Steps p.tables e below (T12.setTop (mkF m 147 #[.val (.int p1), .val (.int p2), .val (.ref b1), .val (.ref b3), .val (.ref c5), .val (.ref c6), .val (.ref c7), .val (.int (2 : Int32)), .val (.ref c6), .val (.ref b3), .val (.int (1 : Int32)), .val (.ref b10), .val (.ref b10), .val (.ref b10), .unset] [])) _
    refine XS.aload X12.here hx rfl (hb hby at_147) rfl rfl ?_
    show Steps p.tables e below (T12.setTop (mkF m 149 #[.val (.int p1), .val (.int p2), .val (.ref b1), .val (.ref b3), .val (.ref c5), .val (.ref c6), .val (.ref c7), .val (.int (2 : Int32)), .val (.ref c6), .val (.ref b3), .val (.int (1 : Int32)), .val (.ref b10), .val (.ref b10), .val (.ref b10), .unset] [(.ref b10)])) _
    refine XS.aload X12.here hx rfl (hb hby at_149) rfl rfl ?_
    show Steps p.tables e below (T12.setTop (mkF m 151 #[.val (.int p1), .val (.int p2), .val (.ref b1), .val (.ref b3), .val (.ref c5), .val (.ref c6), .val (.ref c7), .val (.int (2 : Int32)), .val (.ref c6), .val (.ref b3), .val (.int (1 : Int32)), .val (.ref b10), .val (.ref b10), .val (.ref b10), .unset] [(.ref b10), (.ref b10)])) _
    refine Jvm.RoadKit.acmp (g := (mkF m 151 #[.val (.int p1), .val (.int p2), .val (.ref b1), .val (.ref b3), .val (.ref c5), .val (.ref c6), .val (.ref c7), .val (.int (2 : Int32)), .val (.ref c6), .val (.ref b3), .val (.int (1 : Int32)), .val (.ref b10), .val (.ref b10), .val (.ref b10), .unset] [(.ref b10), (.ref b10)])) X12 hx rfl rfl rfl (pc0 := 151) (pc' := 154) (same := true) rfl (hb hby at_151) rfl (decide_eq_true rfl) (by decide) (by decide) ?_
    show Steps p.tables e below (T12.setTop (mkF m 154 #[.val (.int p1), .val (.int p2), .val (.ref b1), .val (.ref b3), .val (.ref c5), .val (.ref c6), .val (.ref c7), .val (.int (2 : Int32)), .val (.ref c6), .val (.ref b3), .val (.int (1 : Int32)), .val (.ref b10), .val (.ref b10), .val (.ref b10), .unset] [])) _
    refine XS.aload X12.here hx rfl (hb hby at_154) rfl rfl ?_
    show Steps p.tables e below (T12.setTop (mkF m 156 #[.val (.int p1), .val (.int p2), .val (.ref b1), .val (.ref b3), .val (.ref c5), .val (.ref c6), .val (.ref c7), .val (.int (2 : Int32)), .val (.ref c6), .val (.ref b3), .val (.int (1 : Int32)), .val (.ref b10), .val (.ref b10), .val (.ref b10), .unset] [(.ref b10)])) _
    refine XS.aloadN X12.here hx rfl (hb hby at_156) rfl rfl ?_
    show Steps p.tables e below (T12.setTop (mkF m 157 #[.val (.int p1), .val (.int p2), .val (.ref b1), .val (.ref b3), .val (.ref c5), .val (.ref c6), .val (.ref c7), .val (.int (2 : Int32)), .val (.ref c6), .val (.ref b3), .val (.int (1 : Int32)), .val (.ref b10), .val (.ref b10), .val (.ref b10), .unset] [(.ref b3), (.ref b10)])) _
    refine Jvm.RoadKit.acmp (g := (mkF m 157 #[.val (.int p1), .val (.int p2), .val (.ref b1), .val (.ref b3), .val (.ref c5), .val (.ref c6), .val (.ref c7), .val (.int (2 : Int32)), .val (.ref c6), .val (.ref b3), .val (.int (1 : Int32)), .val (.ref b10), .val (.ref b10), .val (.ref b10), .unset] [(.ref b3), (.ref b10)])) X12 hx rfl rfl rfl (pc0 := 157) (pc' := 160) (same := false) rfl (hb hby at_157) rfl (decide_eq_false fun q => absurd (Value.ref.inj q) (Ne.symm ne_b3_b10)) (by decide) (by decide) ?_
    show Steps p.tables e below (T12.setTop (mkF m 160 #[.val (.int p1), .val (.int p2), .val (.ref b1), .val (.ref b3), .val (.ref c5), .val (.ref c6), .val (.ref c7), .val (.int (2 : Int32)), .val (.ref c6), .val (.ref b3), .val (.int (1 : Int32)), .val (.ref b10), .val (.ref b10), .val (.ref b10), .unset] [])) _
    refine XS.iconst X12.here hx rfl (hb hby at_160) ?_
    show Steps p.tables e below (T12.setTop (mkF m 161 #[.val (.int p1), .val (.int p2), .val (.ref b1), .val (.ref b3), .val (.ref c5), .val (.ref c6), .val (.ref c7), .val (.int (2 : Int32)), .val (.ref c6), .val (.ref b3), .val (.int (1 : Int32)), .val (.ref b10), .val (.ref b10), .val (.ref b10), .unset] [(.int (1 : Int32))])) _
    refine XS.goto X12.here hx rfl (pc0 := 161) (pc' := 165) rfl (hb hby at_161) (by decide) (by decide) ?_
    show Steps p.tables e below (T12.setTop (mkF m 165 #[.val (.int p1), .val (.int p2), .val (.ref b1), .val (.ref b3), .val (.ref c5), .val (.ref c6), .val (.ref c7), .val (.int (2 : Int32)), .val (.ref c6), .val (.ref b3), .val (.int (1 : Int32)), .val (.ref b10), .val (.ref b10), .val (.ref b10), .unset] [(.int (1 : Int32))])) _
    refine XS.istore X12.here hx rfl (hb hby at_165) rfl (l' := #[.val (.int p1), .val (.int p2), .val (.ref b1), .val (.ref b3), .val (.ref c5), .val (.ref c6), .val (.ref c7), .val (.int (2 : Int32)), .val (.ref c6), .val (.ref b3), .val (.int (1 : Int32)), .val (.ref b10), .val (.ref b10), .val (.ref b10), .val (.int (1 : Int32))]) rfl ?_
    show Steps p.tables e below (T12.setTop (mkF m 167 #[.val (.int p1), .val (.int p2), .val (.ref b1), .val (.ref b3), .val (.ref c5), .val (.ref c6), .val (.ref c7), .val (.int (2 : Int32)), .val (.ref c6), .val (.ref b3), .val (.int (1 : Int32)), .val (.ref b10), .val (.ref b10), .val (.ref b10), .val (.int (1 : Int32))] [])) _
    refine XS.iload X12.here hx rfl (hb hby at_167) rfl ?_
    show Steps p.tables e below (T12.setTop (mkF m 169 #[.val (.int p1), .val (.int p2), .val (.ref b1), .val (.ref b3), .val (.ref c5), .val (.ref c6), .val (.ref c7), .val (.int (2 : Int32)), .val (.ref c6), .val (.ref b3), .val (.int (1 : Int32)), .val (.ref b10), .val (.ref b10), .val (.ref b10), .val (.int (1 : Int32))] [(.int (1 : Int32))])) _
    refine XS.ifNo X12.here hx rfl (hb hby at_169) rfl ((if0 _ _).trans (feq ((by decide) : ¬ ((1 : Int32) = (0 : Int32)))).1) ?_
    show Steps p.tables e below (T12.setTop (mkF m 172 #[.val (.int p1), .val (.int p2), .val (.ref b1), .val (.ref b3), .val (.ref c5), .val (.ref c6), .val (.ref c7), .val (.int (2 : Int32)), .val (.ref c6), .val (.ref b3), .val (.int (1 : Int32)), .val (.ref b10), .val (.ref b10), .val (.ref b10), .val (.int (1 : Int32))] [])) _
    refine XS.iload X12.here hx rfl (hb hby at_172) rfl ?_
    show Steps p.tables e below (T12.setTop (mkF m 174 #[.val (.int p1), .val (.int p2), .val (.ref b1), .val (.ref b3), .val (.ref c5), .val (.ref c6), .val (.ref c7), .val (.int (2 : Int32)), .val (.ref c6), .val (.ref b3), .val (.int (1 : Int32)), .val (.ref b10), .val (.ref b10), .val (.ref b10), .val (.int (1 : Int32))] [(.int (1 : Int32))])) _
    refine XS.ifNo X12.here hx rfl (hb hby at_174) rfl ((if0 _ _).trans (feq ((by decide) : ¬ ((1 : Int32) = (0 : Int32)))).1) ?_
    show Steps p.tables e below (T12.setTop (mkF m 177 #[.val (.int p1), .val (.int p2), .val (.ref b1), .val (.ref b3), .val (.ref c5), .val (.ref c6), .val (.ref c7), .val (.int (2 : Int32)), .val (.ref c6), .val (.ref b3), .val (.int (1 : Int32)), .val (.ref b10), .val (.ref b10), .val (.ref b10), .val (.int (1 : Int32))] [])) _
    refine XS.iconst X12.here hx rfl (hb hby at_177) ?_
    show Steps p.tables e below (T12.setTop (mkF m 178 #[.val (.int p1), .val (.int p2), .val (.ref b1), .val (.ref b3), .val (.ref c5), .val (.ref c6), .val (.ref c7), .val (.int (2 : Int32)), .val (.ref c6), .val (.ref b3), .val (.int (1 : Int32)), .val (.ref b10), .val (.ref b10), .val (.ref b10), .val (.int (1 : Int32))] [(.int (1 : Int32))])) _
    refine XS.goto X12.here hx rfl (pc0 := 178) (pc' := 182) rfl (hb hby at_178) (by decide) (by decide) ?_
    show Steps p.tables e below (T12.setTop (mkF m 182 #[.val (.int p1), .val (.int p2), .val (.ref b1), .val (.ref b3), .val (.ref c5), .val (.ref c6), .val (.ref c7), .val (.int (2 : Int32)), .val (.ref c6), .val (.ref b3), .val (.int (1 : Int32)), .val (.ref b10), .val (.ref b10), .val (.ref b10), .val (.int (1 : Int32))] [(.int (1 : Int32))])) _
    exact retN X12 hx (t := .boolean) Bd.returns (by simp) (hb hby at_182) hr
  · show Q0 Z p1 p2 h0 n0 _ T12.heap _
    rw [eh12]
    exact ⟨rfl, N12⟩
set_option maxRecDepth 65536 in
set_option maxHeartbeats 40000000 in
theorem rm0_2f (l : Launch) (Z : State) (a0 : Array Value) (hw : ∀ d ∈ tables_1, d.before a0 Z = true) (ws : List Jvm.Cond) (p1 p2 : Int32) (h0 : Heap) (n0 : Nat) (Z0 : n0 ≤ h0.size) (hd : (p1 &&& (3 : Int32)) = (2 : Int32)) (hc125 : ¬ ((p2 &&& (1 : Int32)) = (0 : Int32))) :
    MetFree l x (head1 (Jvm.Cond.code x code maxLocals ret :: ws) room_1) (fun a U => a = #[(.int p1), (.int p2)] ∧ Z.Warmed39 U.vm ∧ U.heap = h0) (fun _ _ _ _ _ => True) (fun _ U o U' => ∃ v L, o = .returned v ∧ Q0 Z p1 p2 h0 n0 v U'.heap L ∧ FrameEnd U o U' L room_1.cells room_1.slots) := by
  refine MetFree.of_bodySF (plainFor_of_name pn_0) hisR ?_
  intro p e s m args below meth c s₁ Bd hml0 hP hK
  obtain ⟨rfl, hZ, hh⟩ := hP
  have hx := Bd.exec
  have hby := Bd.bytes
  have hml : c.maxLocals = 15 := hml0
  have hown : s.vm.findClass "com/example/roteiro/roteiro/lang/ScopeRootPinLaw" = some m.cls := findClass_of_methodNamed Bd.named
  have hnm := (name_of_methodNamed Bd.named Bd.method).1
  have X0 : Stand p l e room_1 s m #[(.int p1), (.int p2)] below meth c s₁ [] 0 0 := Stand.of_body Bd
  have e0 : s₁.heap = h0 := by rw [← hh, Bd.state]; rfl
  have N0 := Fr.nil n0
  have pre0 : ∀ t, Steps p.tables e below (s₁.setTop (mkF m 0 #[.val (.int p1), .val (.int p2), .unset, .unset, .unset, .unset, .unset, .unset, .unset, .unset, .unset, .unset, .unset, .unset, .unset] [])) t → Steps p.tables e below (s₁.setTop (entryFrame m #[(.int p1), (.int p2)] maxLocals)) t := fun t k => castTop (ef_0 m p1 p2) k
  obtain ⟨T1, h1, X1, e1, E1, A1, D1, -, st1⟩ := newO X0 hx hZ hown (hw _ (List.mem_of_getElem? (i := 0) rfl)) (hw _ (List.mem_of_getElem? (i := 1) rfl)) (hw _ (List.mem_of_getElem? (i := 2) rfl)) e0 (g := (mkF m 0 #[.val (.int p1), .val (.int p2), .unset, .unset, .unset, .unset, .unset, .unset, .unset, .unset, .unset, .unset, .unset, .unset, .unset] [])) rfl (hb hby at_0) (by decide) (by decide)
  obtain ⟨b1, g1⟩ : ∃ z, z = h0.size := ⟨_, rfl⟩
  rw [← g1] at A1 D1 st1
  have gb1 : n0 ≤ b1 := Nat.le_trans Z0 (Nat.le_of_eq g1.symm)
  have Z1 : n0 ≤ h1.size := Nat.le_trans Z0 E1.1
  have F_b1_elements_1 : Fld Z h1 b1 "com/example/roteiro/roteiro/lang/Libraries" "elements" "Ljava/util/Map;" .null := D1 (Or.inr (hw _ (List.mem_of_getElem? (i := 26) rfl))) (ty := (.object "java/util/Map")) (by decide)
  have F_b1_bareNames_1 : Fld Z h1 b1 "com/example/roteiro/roteiro/lang/Libraries" "bareNames" "Ljava/util/Map;" .null := D1 (Or.inr (hw _ (List.mem_of_getElem? (i := 28) rfl))) (ty := (.object "java/util/Map")) (by decide)
  obtain ⟨_, _, ⟨T2, L2, k2, n2⟩, -, X2, ⟨Lc2, hQ2, l2, y2, z2⟩, st2⟩ := X1.specialBack hx (y := (⟨"com/example/roteiro/roteiro/lang/Libraries", "<init>", "()V"⟩ : MethodName)) rfl hown (mvT hZ (hw _ (List.mem_of_getElem? (i := 3) rfl))) (mvT hZ (hw _ (List.mem_of_getElem? (i := 4) rfl))) (mvT hZ (hw _ (List.mem_of_getElem? (i := 5) rfl))) (by decide) (backOf (W := 1) (rmLb l Z a0 hw [] b1 _ _ h1 n0 Z1 A1 F_b1_elements_1 F_b1_bareNames_1 gb1) hZ (hw _ (List.mem_of_getElem? (i := 5) rfl)) (hw _ (List.mem_of_getElem? (i := 2) rfl)) (by decide) (by decide)) (g := (mkF m 4 #[.val (.int p1), .val (.int p2), .unset, .unset, .unset, .unset, .unset, .unset, .unset, .unset, .unset, .unset, .unset, .unset, .unset] [(.ref b1), (.ref b1)])) rfl (by rw [hml]; rfl) (Steps.refl _) (a := b1) (argsL := []) (rest := [(.ref b1)]) (lenOf pd_0_0 rfl) rfl (by show 2 * 0 + _ ≤ _; exact Nat.le_of_eq rfl) (hb hby at_4) (fun _ _ => ⟨rfl, e1, (by decide : 1 + 2 ≤ _), (by decide : 2 + 16 ≤ _)⟩)
  dsimp only [Pt.U, Pt.locs, Pt.cells, Pt.slots] at X2 l2 y2 z2 st2 hQ2
  subst l2 y2 z2
  obtain ⟨rfl, N2q, K2⟩ := hQ2
  have N2 := Fr.app N0 N2q
  have E_b1_2 := A1.keep K2
  have Z2 : n0 ≤ T2.heap.size := Nat.le_trans Z1 K2.1
  obtain ⟨T3, h3, X3, e3, E3, A3, D3, -, st3⟩ := newO X2 hx hZ hown (hw _ (List.mem_of_getElem? (i := 29) rfl)) (hw _ (List.mem_of_getElem? (i := 30) rfl)) (hw _ (List.mem_of_getElem? (i := 31) rfl)) rfl (g := (mkF m 8 #[.val (.int p1), .val (.int p2), .val (.ref b1), .unset, .unset, .unset, .unset, .unset, .unset, .unset, .unset, .unset, .unset, .unset, .unset] [])) rfl (hb hby at_8) (by decide) (by decide)
  obtain ⟨b3, g3⟩ : ∃ z, z = T2.heap.size := ⟨_, rfl⟩
  rw [← g3] at A3 D3 st3
  have gb3 : n0 ≤ b3 := Nat.le_trans Z2 (Nat.le_of_eq g3.symm)
  have Z3 : n0 ≤ h3.size := Nat.le_trans Z2 E3.1
  have F_b3_parent_3 : Fld Z h3 b3 "com/example/roteiro/roteiro/lang/Scope" "parent" "Lcom/example/roteiro/roteiro/lang/Scope;" .null := D3 (Or.inr (hw _ (List.mem_of_getElem? (i := 40) rfl))) (ty := (.object "com/example/roteiro/roteiro/lang/Scope")) (by decide)
  have F_b3_libraries_3 : Fld Z h3 b3 "com/example/roteiro/roteiro/lang/Scope" "libraries" "Lcom/example/roteiro/roteiro/lang/Libraries;" .null := D3 (Or.inr (hw _ (List.mem_of_getElem? (i := 42) rfl))) (ty := (.object "com/example/roteiro/roteiro/lang/Libraries")) (by decide)
  obtain ⟨_, _, ⟨T4, L4, k4, n4⟩, -, X4, ⟨Lc4, hQ4, l4, y4, z4⟩, st4⟩ := X3.specialBack hx (y := (⟨"com/example/roteiro/roteiro/lang/Scope", "<init>", "(Lcom/example/roteiro/roteiro/lang/Libraries;)V"⟩ : MethodName)) rfl hown (mvT hZ (hw _ (List.mem_of_getElem? (i := 32) rfl))) (mvT hZ (hw _ (List.mem_of_getElem? (i := 33) rfl))) (mvT hZ (hw _ (List.mem_of_getElem? (i := 34) rfl))) (by decide) (backOf (W := 1) (rmI1 l Z a0 hw [] b3 b1 _ _ h3 n0 Z3 A3 F_b3_parent_3 F_b3_libraries_3 gb3) hZ (hw _ (List.mem_of_getElem? (i := 34) rfl)) (hw _ (List.mem_of_getElem? (i := 31) rfl)) (by decide) (by decide)) (g := (mkF m 13 #[.val (.int p1), .val (.int p2), .val (.ref b1), .unset, .unset, .unset, .unset, .unset, .unset, .unset, .unset, .unset, .unset, .unset, .unset] [(.ref b1), (.ref b3), (.ref b3)])) rfl (by rw [hml]; rfl) (Steps.refl _) (a := b3) (argsL := [(.ref b1)]) (rest := [(.ref b3)]) (lenOf pd_0_1 rfl) rfl (by show 2 * 0 + _ ≤ _; exact Nat.le_of_eq rfl) (hb hby at_13) (fun _ _ => ⟨rfl, e3, (by decide : 4 + 0 ≤ _), (by decide : 21 + 0 ≤ _)⟩)
  dsimp only [Pt.U, Pt.locs, Pt.cells, Pt.slots] at X4 l4 y4 z4 st4 hQ4
  subst l4 y4 z4
  obtain ⟨rfl, N4q, K4, Fp4, Fl4⟩ := hQ4
  have N4 := Fr.app N2 N4q
  have E_b3_4 := A3.keep K4
  have Z4 : n0 ≤ T4.heap.size := Nat.le_trans Z3 K4.1
  obtain ⟨cq5, kq5, q5a, q5b, q5c⟩ := isOf hZ rfl E_b3_4
  obtain ⟨_, _, ⟨T5, L5, k5, n5⟩, -, X5, ⟨Lc5, hQ5, l5, y5, z5⟩, st5⟩ := X4.virtualBack hx (y := (⟨"com/example/roteiro/roteiro/lang/Scope", "child", "()Lcom/example/roteiro/roteiro/lang/Scope;"⟩ : MethodName)) (z := (⟨"com/example/roteiro/roteiro/lang/Scope", "child", "()Lcom/example/roteiro/roteiro/lang/Scope;"⟩ : MethodName)) hown (mvT hZ (hw _ (List.mem_of_getElem? (i := 43) rfl))) (mvT hZ (hw _ (List.mem_of_getElem? (i := 44) rfl))) (notFace_of_selects (args := #[]) (mvT hZ (hw _ (List.mem_of_getElem? (i := 46) rfl)))) (mvT hZ (hw _ (List.mem_of_getElem? (i := 46) rfl))) (mvT hZ (hw _ (List.mem_of_getElem? (i := 45) rfl))) (by decide) (backOf (W := 0) (rmCh l Z a0 hw [] b3 b1 T4.heap n0 Z4 Fl4) hZ (hw _ (List.mem_of_getElem? (i := 47) rfl)) (hw _ (List.mem_of_getElem? (i := 31) rfl)) (by decide) (by decide)) q5a q5c (g := (mkF m 18 #[.val (.int p1), .val (.int p2), .val (.ref b1), .val (.ref b3), .unset, .unset, .unset, .unset, .unset, .unset, .unset, .unset, .unset, .unset, .unset] [(.ref b3)])) rfl (by rw [hml]; rfl) (Steps.refl _) (argsL := []) (rest := []) (lenOf pd_0_2 rfl) rfl (by show 2 * 0 + _ ≤ _; exact Nat.le_of_eq rfl) (hb hby at_18) (fun _ _ => ⟨rfl, rfl, (by decide : 4 + 1 ≤ _), (by decide : 21 + 3 ≤ _)⟩)
  dsimp only [Pt.U, Pt.locs, Pt.cells, Pt.slots] at X5 l5 y5 z5 st5 hQ5
  subst l5 y5 z5
  obtain ⟨rfl, N5q, K5, Ev5, Fp5, Fl5⟩ := hQ5
  have N5 := Fr.app N4 N5q
  have E_b3_5 := E_b3_4.keep K5
  have F_b3_parent_5 := Fp4.keep K5 nin0
  have F_b3_libraries_5 := Fl4.keep K5 nin0
  have Z5 : n0 ≤ T5.heap.size := Nat.le_trans Z4 K5.1
  obtain ⟨c5, gc5⟩ : ∃ z, z = T4.heap.size := ⟨_, rfl⟩
  rw [← gc5] at st5 Ev5 Fp5 Fl5
  obtain ⟨cq6, kq6, q6a, q6b, q6c⟩ := isOf hZ rfl Ev5
  obtain ⟨_, _, ⟨T6, L6, k6, n6⟩, -, X6, ⟨Lc6, hQ6, l6, y6, z6⟩, st6⟩ := X5.virtualBack hx (y := (⟨"com/example/roteiro/roteiro/lang/Scope", "child", "()Lcom/example/roteiro/roteiro/lang/Scope;"⟩ : MethodName)) (z := (⟨"com/example/roteiro/roteiro/lang/Scope", "child", "()Lcom/example/roteiro/roteiro/lang/Scope;"⟩ : MethodName)) hown (mvT hZ (hw _ (List.mem_of_getElem? (i := 43) rfl))) (mvT hZ (hw _ (List.mem_of_getElem? (i := 44) rfl))) (notFace_of_selects (args := #[]) (mvT hZ (hw _ (List.mem_of_getElem? (i := 46) rfl)))) (mvT hZ (hw _ (List.mem_of_getElem? (i := 46) rfl))) (mvT hZ (hw _ (List.mem_of_getElem? (i := 45) rfl))) (by decide) (backOf (W := 0) (rmCh l Z a0 hw [] c5 b1 T5.heap n0 Z5 Fl5) hZ (hw _ (List.mem_of_getElem? (i := 47) rfl)) (hw _ (List.mem_of_getElem? (i := 31) rfl)) (by decide) (by decide)) q6a q6c (g := (mkF m 25 #[.val (.int p1), .val (.int p2), .val (.ref b1), .val (.ref b3), .val (.ref c5), .unset, .unset, .unset, .unset, .unset, .unset, .unset, .unset, .unset, .unset] [(.ref c5)])) rfl (by rw [hml]; rfl) (Steps.refl _) (argsL := []) (rest := []) (lenOf pd_0_2 rfl) rfl (by show 2 * 0 + _ ≤ _; exact Nat.le_of_eq rfl) (hb hby at_25) (fun _ _ => ⟨rfl, rfl, (by decide : 5 + 1 ≤ _), (by decide : 24 + 3 ≤ _)⟩)
  dsimp only [Pt.U, Pt.locs, Pt.cells, Pt.slots] at X6 l6 y6 z6 st6 hQ6
  subst l6 y6 z6
  obtain ⟨rfl, N6q, K6, Ev6, Fp6, Fl6⟩ := hQ6
  have N6 := Fr.app N5 N6q
  have E_b3_6 := E_b3_5.keep K6
  have F_b3_parent_6 := F_b3_parent_5.keep K6 nin0
  have F_b3_libraries_6 := F_b3_libraries_5.keep K6 nin0
  have E_c5_6 := Ev5.keep K6
  have F_c5_parent_6 := Fp5.keep K6 nin0
  have F_c5_libraries_6 := Fl5.keep K6 nin0
  have Z6 : n0 ≤ T6.heap.size := Nat.le_trans Z5 K6.1
  obtain ⟨c6, gc6⟩ : ∃ z, z = T5.heap.size := ⟨_, rfl⟩
  rw [← gc6] at st6 Ev6 Fp6 Fl6
  obtain ⟨cq7, kq7, q7a, q7b, q7c⟩ := isOf hZ rfl Ev6
  obtain ⟨_, _, ⟨T7, L7, k7, n7⟩, -, X7, ⟨Lc7, hQ7, l7, y7, z7⟩, st7⟩ := X6.virtualBack hx (y := (⟨"com/example/roteiro/roteiro/lang/Scope", "child", "()Lcom/example/roteiro/roteiro/lang/Scope;"⟩ : MethodName)) (z := (⟨"com/example/roteiro/roteiro/lang/Scope", "child", "()Lcom/example/roteiro/roteiro/lang/Scope;"⟩ : MethodName)) hown (mvT hZ (hw _ (List.mem_of_getElem? (i := 43) rfl))) (mvT hZ (hw _ (List.mem_of_getElem? (i := 44) rfl))) (notFace_of_selects (args := #[]) (mvT hZ (hw _ (List.mem_of_getElem? (i := 46) rfl)))) (mvT hZ (hw _ (List.mem_of_getElem? (i := 46) rfl))) (mvT hZ (hw _ (List.mem_of_getElem? (i := 45) rfl))) (by decide) (backOf (W := 0) (rmCh l Z a0 hw [] c6 b1 T6.heap n0 Z6 Fl6) hZ (hw _ (List.mem_of_getElem? (i := 47) rfl)) (hw _ (List.mem_of_getElem? (i := 31) rfl)) (by decide) (by decide)) q7a q7c (g := (mkF m 32 #[.val (.int p1), .val (.int p2), .val (.ref b1), .val (.ref b3), .val (.ref c5), .val (.ref c6), .unset, .unset, .unset, .unset, .unset, .unset, .unset, .unset, .unset] [(.ref c6)])) rfl (by rw [hml]; rfl) (Steps.refl _) (argsL := []) (rest := []) (lenOf pd_0_2 rfl) rfl (by show 2 * 0 + _ ≤ _; exact Nat.le_of_eq rfl) (hb hby at_32) (fun _ _ => ⟨rfl, rfl, (by decide : 6 + 1 ≤ _), (by decide : 27 + 3 ≤ _)⟩)
  dsimp only [Pt.U, Pt.locs, Pt.cells, Pt.slots] at X7 l7 y7 z7 st7 hQ7
  subst l7 y7 z7
  obtain ⟨rfl, N7q, K7, Ev7, Fp7, Fl7⟩ := hQ7
  have N7 := Fr.app N6 N7q
  have E_b3_7 := E_b3_6.keep K7
  have F_b3_parent_7 := F_b3_parent_6.keep K7 nin0
  have F_b3_libraries_7 := F_b3_libraries_6.keep K7 nin0
  have E_c5_7 := E_c5_6.keep K7
  have F_c5_parent_7 := F_c5_parent_6.keep K7 nin0
  have F_c5_libraries_7 := F_c5_libraries_6.keep K7 nin0
  have E_c6_7 := Ev6.keep K7
  have F_c6_parent_7 := Fp6.keep K7 nin0
  have F_c6_libraries_7 := Fl6.keep K7 nin0
  have Z7 : n0 ≤ T7.heap.size := Nat.le_trans Z6 K7.1
  obtain ⟨c7, gc7⟩ : ∃ z, z = T6.heap.size := ⟨_, rfl⟩
  rw [← gc7] at st7 Ev7 Fp7 Fl7
  obtain ⟨cq8, kq8, q8a, q8b, q8c⟩ := isOf hZ rfl E_c6_7
  obtain ⟨_, _, ⟨T8, L8, k8, n8⟩, -, X8, ⟨Lc8, hQ8, l8, y8, z8⟩, st8⟩ := X7.virtualBack hx (y := (⟨"com/example/roteiro/roteiro/lang/Scope", "root", "()Lcom/example/roteiro/roteiro/lang/Scope;"⟩ : MethodName)) (z := (⟨"com/example/roteiro/roteiro/lang/Scope", "root", "()Lcom/example/roteiro/roteiro/lang/Scope;"⟩ : MethodName)) hown (mvT hZ (hw _ (List.mem_of_getElem? (i := 49) rfl))) (mvT hZ (hw _ (List.mem_of_getElem? (i := 50) rfl))) (notFace_of_selects (args := #[]) (mvT hZ (hw _ (List.mem_of_getElem? (i := 52) rfl)))) (mvT hZ (hw _ (List.mem_of_getElem? (i := 52) rfl))) (mvT hZ (hw _ (List.mem_of_getElem? (i := 51) rfl))) (by decide) (backOf (W := 0) (rmRo2 l Z a0 hw [] c6 c5 b3 T7.heap n0 Z7 F_c6_parent_7 F_c5_parent_7 F_b3_parent_7) hZ (hw _ (List.mem_of_getElem? (i := 53) rfl)) (hw _ (List.mem_of_getElem? (i := 31) rfl)) (by decide) (by decide)) q8a q8c (g := (mkF m 85 #[.val (.int p1), .val (.int p2), .val (.ref b1), .val (.ref b3), .val (.ref c5), .val (.ref c6), .val (.ref c7), .val (.int (2 : Int32)), .val (.ref c6), .unset, .unset, .unset, .unset, .unset, .unset] [(.ref c6)])) rfl (by rw [hml]; rfl) (Steps.refl _) (argsL := []) (rest := []) (lenOf pd_0_2 rfl) rfl (by show 2 * 0 + _ ≤ _; exact Nat.le_of_eq rfl) (hb hby at_85) (fun _ _ => ⟨rfl, rfl, (by decide : 7 + 0 ≤ _), (by decide : 30 + 0 ≤ _)⟩)
  dsimp only [Pt.U, Pt.locs, Pt.cells, Pt.slots] at X8 l8 y8 z8 st8 hQ8
  subst l8 y8 z8
  obtain ⟨rfl, N8q, eh8⟩ := hQ8
  have N8 := Fr.app N7 N8q
  obtain ⟨cq9, kq9, q9a, q9b, q9c⟩ := isOf hZ eh8 E_b3_7
  obtain ⟨_, _, ⟨T9, L9, k9, n9⟩, -, X9, ⟨Lc9, hQ9, l9, y9, z9⟩, st9⟩ := X8.virtualBack hx (y := (⟨"com/example/roteiro/roteiro/lang/Scope", "root", "()Lcom/example/roteiro/roteiro/lang/Scope;"⟩ : MethodName)) (z := (⟨"com/example/roteiro/roteiro/lang/Scope", "root", "()Lcom/example/roteiro/roteiro/lang/Scope;"⟩ : MethodName)) hown (mvT hZ (hw _ (List.mem_of_getElem? (i := 49) rfl))) (mvT hZ (hw _ (List.mem_of_getElem? (i := 50) rfl))) (notFace_of_selects (args := #[]) (mvT hZ (hw _ (List.mem_of_getElem? (i := 52) rfl)))) (mvT hZ (hw _ (List.mem_of_getElem? (i := 52) rfl))) (mvT hZ (hw _ (List.mem_of_getElem? (i := 51) rfl))) (by decide) (backOf (W := 0) (rmRo0 l Z a0 hw [] b3 T7.heap n0 Z7 F_b3_parent_7) hZ (hw _ (List.mem_of_getElem? (i := 53) rfl)) (hw _ (List.mem_of_getElem? (i := 31) rfl)) (by decide) (by decide)) q9a q9c (g := (mkF m 98 #[.val (.int p1), .val (.int p2), .val (.ref b1), .val (.ref b3), .val (.ref c5), .val (.ref c6), .val (.ref c7), .val (.int (2 : Int32)), .val (.ref c6), .val (.ref b3), .unset, .unset, .unset, .unset, .unset] [(.ref b3)])) rfl (by rw [hml]; rfl) (Steps.refl _) (argsL := []) (rest := []) (lenOf pd_0_2 rfl) rfl (by show 2 * 0 + _ ≤ _; exact Nat.le_of_eq rfl) (hb hby at_98) (fun _ _ => ⟨rfl, eh8, (by decide : 7 + 0 ≤ _), (by decide : 30 + 0 ≤ _)⟩)
  dsimp only [Pt.U, Pt.locs, Pt.cells, Pt.slots] at X9 l9 y9 z9 st9 hQ9
  subst l9 y9 z9
  obtain ⟨rfl, N9q, eh9⟩ := hQ9
  have N9 := Fr.app N8 N9q
  obtain ⟨T10, h10, X10, e10, E10, A10, D10, -, st10⟩ := newO X9 hx hZ hown (hw _ (List.mem_of_getElem? (i := 29) rfl)) (hw _ (List.mem_of_getElem? (i := 30) rfl)) (hw _ (List.mem_of_getElem? (i := 31) rfl)) eh9 (g := (mkF m 112 #[.val (.int p1), .val (.int p2), .val (.ref b1), .val (.ref b3), .val (.ref c5), .val (.ref c6), .val (.ref c7), .val (.int (2 : Int32)), .val (.ref c6), .val (.ref b3), .val (.int (1 : Int32)), .unset, .unset, .unset, .unset] [])) rfl (hb hby at_112) (by decide) (by decide)
  obtain ⟨b10, g10⟩ : ∃ z, z = T7.heap.size := ⟨_, rfl⟩
  rw [← g10] at A10 D10 st10
  have gb10 : n0 ≤ b10 := Nat.le_trans Z7 (Nat.le_of_eq g10.symm)
  have ne_b3_b10 : b3 ≠ b10 := (Nat.ne_of_lt (Nat.lt_of_lt_of_le E_b3_7.lt (Nat.le_of_eq g10.symm)))
  have ne_c5_b10 : c5 ≠ b10 := (Nat.ne_of_lt (Nat.lt_of_lt_of_le E_c5_7.lt (Nat.le_of_eq g10.symm)))
  have ne_c6_b10 : c6 ≠ b10 := (Nat.ne_of_lt (Nat.lt_of_lt_of_le E_c6_7.lt (Nat.le_of_eq g10.symm)))
  have ne_c7_b10 : c7 ≠ b10 := (Nat.ne_of_lt (Nat.lt_of_lt_of_le Ev7.lt (Nat.le_of_eq g10.symm)))
  have E_b3_10 := E_b3_7.ext E10
  have F_b3_parent_10 := F_b3_parent_7.ext E10
  have F_b3_libraries_10 := F_b3_libraries_7.ext E10
  have E_c5_10 := E_c5_7.ext E10
  have F_c5_parent_10 := F_c5_parent_7.ext E10
  have F_c5_libraries_10 := F_c5_libraries_7.ext E10
  have E_c6_10 := E_c6_7.ext E10
  have F_c6_parent_10 := F_c6_parent_7.ext E10
  have F_c6_libraries_10 := F_c6_libraries_7.ext E10
  have E_c7_10 := Ev7.ext E10
  have F_c7_parent_10 := Fp7.ext E10
  have F_c7_libraries_10 := Fl7.ext E10
  have Z10 : n0 ≤ h10.size := Nat.le_trans Z7 E10.1
  have F_b10_parent_10 : Fld Z h10 b10 "com/example/roteiro/roteiro/lang/Scope" "parent" "Lcom/example/roteiro/roteiro/lang/Scope;" .null := D10 (Or.inr (hw _ (List.mem_of_getElem? (i := 40) rfl))) (ty := (.object "com/example/roteiro/roteiro/lang/Scope")) (by decide)
  have F_b10_libraries_10 : Fld Z h10 b10 "com/example/roteiro/roteiro/lang/Scope" "libraries" "Lcom/example/roteiro/roteiro/lang/Libraries;" .null := D10 (Or.inr (hw _ (List.mem_of_getElem? (i := 42) rfl))) (ty := (.object "com/example/roteiro/roteiro/lang/Libraries")) (by decide)
  obtain ⟨_, _, ⟨T11, L11, k11, n11⟩, -, X11, ⟨Lc11, hQ11, l11, y11, z11⟩, st11⟩ := X10.specialBack hx (y := (⟨"com/example/roteiro/roteiro/lang/Scope", "<init>", "(Lcom/example/roteiro/roteiro/lang/Libraries;)V"⟩ : MethodName)) rfl hown (mvT hZ (hw _ (List.mem_of_getElem? (i := 32) rfl))) (mvT hZ (hw _ (List.mem_of_getElem? (i := 33) rfl))) (mvT hZ (hw _ (List.mem_of_getElem? (i := 34) rfl))) (by decide) (backOf (W := 1) (rmI1 l Z a0 hw [] b10 b1 _ _ h10 n0 Z10 A10 F_b10_parent_10 F_b10_libraries_10 gb10) hZ (hw _ (List.mem_of_getElem? (i := 34) rfl)) (hw _ (List.mem_of_getElem? (i := 31) rfl)) (by decide) (by decide)) (g := (mkF m 117 #[.val (.int p1), .val (.int p2), .val (.ref b1), .val (.ref b3), .val (.ref c5), .val (.ref c6), .val (.ref c7), .val (.int (2 : Int32)), .val (.ref c6), .val (.ref b3), .val (.int (1 : Int32)), .unset, .unset, .unset, .unset] [(.ref b1), (.ref b10), (.ref b10)])) rfl (by rw [hml]; rfl) (Steps.refl _) (a := b10) (argsL := [(.ref b1)]) (rest := [(.ref b10)]) (lenOf pd_0_1 rfl) rfl (by show 2 * 0 + _ ≤ _; exact Nat.le_of_eq rfl) (hb hby at_117) (fun _ _ => ⟨rfl, e10, (by decide : 8 + 0 ≤ _), (by decide : 33 + 0 ≤ _)⟩)
  dsimp only [Pt.U, Pt.locs, Pt.cells, Pt.slots] at X11 l11 y11 z11 st11 hQ11
  subst l11 y11 z11
  obtain ⟨rfl, N11q, K11, Fp11, Fl11⟩ := hQ11
  have N11 := Fr.app N9 N11q
  have E_b3_11 := E_b3_10.keep K11
  have F_b3_parent_11 := F_b3_parent_10.keep K11 (ninS ne_b3_b10 nin0)
  have F_b3_libraries_11 := F_b3_libraries_10.keep K11 (ninS ne_b3_b10 nin0)
  have E_c5_11 := E_c5_10.keep K11
  have F_c5_parent_11 := F_c5_parent_10.keep K11 (ninS ne_c5_b10 nin0)
  have F_c5_libraries_11 := F_c5_libraries_10.keep K11 (ninS ne_c5_b10 nin0)
  have E_c6_11 := E_c6_10.keep K11
  have F_c6_parent_11 := F_c6_parent_10.keep K11 (ninS ne_c6_b10 nin0)
  have F_c6_libraries_11 := F_c6_libraries_10.keep K11 (ninS ne_c6_b10 nin0)
  have E_c7_11 := E_c7_10.keep K11
  have F_c7_parent_11 := F_c7_parent_10.keep K11 (ninS ne_c7_b10 nin0)
  have F_c7_libraries_11 := F_c7_libraries_10.keep K11 (ninS ne_c7_b10 nin0)
  have E_b10_11 := A10.keep K11
  have Z11 : n0 ≤ T11.heap.size := Nat.le_trans Z10 K11.1
  obtain ⟨cq12, kq12, q12a, q12b, q12c⟩ := isOf hZ rfl E_b10_11
  obtain ⟨_, _, ⟨T12, L12, k12, n12⟩, -, X12, ⟨Lc12, hQ12, l12, y12, z12⟩, st12⟩ := X11.virtualBack hx (y := (⟨"com/example/roteiro/roteiro/lang/Scope", "child", "()Lcom/example/roteiro/roteiro/lang/Scope;"⟩ : MethodName)) (z := (⟨"com/example/roteiro/roteiro/lang/Scope", "child", "()Lcom/example/roteiro/roteiro/lang/Scope;"⟩ : MethodName)) hown (mvT hZ (hw _ (List.mem_of_getElem? (i := 43) rfl))) (mvT hZ (hw _ (List.mem_of_getElem? (i := 44) rfl))) (notFace_of_selects (args := #[]) (mvT hZ (hw _ (List.mem_of_getElem? (i := 46) rfl)))) (mvT hZ (hw _ (List.mem_of_getElem? (i := 46) rfl))) (mvT hZ (hw _ (List.mem_of_getElem? (i := 45) rfl))) (by decide) (backOf (W := 0) (rmCh l Z a0 hw [] b10 b1 T11.heap n0 Z11 Fl11) hZ (hw _ (List.mem_of_getElem? (i := 47) rfl)) (hw _ (List.mem_of_getElem? (i := 31) rfl)) (by decide) (by decide)) q12a q12c (g := (mkF m 130 #[.val (.int p1), .val (.int p2), .val (.ref b1), .val (.ref b3), .val (.ref c5), .val (.ref c6), .val (.ref c7), .val (.int (2 : Int32)), .val (.ref c6), .val (.ref b3), .val (.int (1 : Int32)), .val (.ref b10), .unset, .unset, .unset] [(.ref b10)])) rfl (by rw [hml]; rfl) (Steps.refl _) (argsL := []) (rest := []) (lenOf pd_0_2 rfl) rfl (by show 2 * 0 + _ ≤ _; exact Nat.le_of_eq rfl) (hb hby at_130) (fun _ _ => ⟨rfl, rfl, (by decide : 8 + 1 ≤ _), (by decide : 33 + 3 ≤ _)⟩)
  dsimp only [Pt.U, Pt.locs, Pt.cells, Pt.slots] at X12 l12 y12 z12 st12 hQ12
  subst l12 y12 z12
  obtain ⟨rfl, N12q, K12, Ev12, Fp12, Fl12⟩ := hQ12
  have N12 := Fr.app N11 N12q
  have E_b3_12 := E_b3_11.keep K12
  have F_b3_parent_12 := F_b3_parent_11.keep K12 nin0
  have F_b3_libraries_12 := F_b3_libraries_11.keep K12 nin0
  have E_c5_12 := E_c5_11.keep K12
  have F_c5_parent_12 := F_c5_parent_11.keep K12 nin0
  have F_c5_libraries_12 := F_c5_libraries_11.keep K12 nin0
  have E_c6_12 := E_c6_11.keep K12
  have F_c6_parent_12 := F_c6_parent_11.keep K12 nin0
  have F_c6_libraries_12 := F_c6_libraries_11.keep K12 nin0
  have E_c7_12 := E_c7_11.keep K12
  have F_c7_parent_12 := F_c7_parent_11.keep K12 nin0
  have F_c7_libraries_12 := F_c7_libraries_11.keep K12 nin0
  have E_b10_12 := E_b10_11.keep K12
  have F_b10_parent_12 := Fp11.keep K12 nin0
  have F_b10_libraries_12 := Fl11.keep K12 nin0
  have Z12 : n0 ≤ T12.heap.size := Nat.le_trans Z11 K12.1
  obtain ⟨c12, gc12⟩ : ∃ z, z = T11.heap.size := ⟨_, rfl⟩
  rw [← gc12] at st12 Ev12 Fp12 Fl12
  obtain ⟨cq13, kq13, q13a, q13b, q13c⟩ := isOf hZ rfl Ev12
  obtain ⟨_, _, ⟨T13, L13, k13, n13⟩, -, X13, ⟨Lc13, hQ13, l13, y13, z13⟩, st13⟩ := X12.virtualBack hx (y := (⟨"com/example/roteiro/roteiro/lang/Scope", "root", "()Lcom/example/roteiro/roteiro/lang/Scope;"⟩ : MethodName)) (z := (⟨"com/example/roteiro/roteiro/lang/Scope", "root", "()Lcom/example/roteiro/roteiro/lang/Scope;"⟩ : MethodName)) hown (mvT hZ (hw _ (List.mem_of_getElem? (i := 49) rfl))) (mvT hZ (hw _ (List.mem_of_getElem? (i := 50) rfl))) (notFace_of_selects (args := #[]) (mvT hZ (hw _ (List.mem_of_getElem? (i := 52) rfl)))) (mvT hZ (hw _ (List.mem_of_getElem? (i := 52) rfl))) (mvT hZ (hw _ (List.mem_of_getElem? (i := 51) rfl))) (by decide) (backOf (W := 0) (rmRo1 l Z a0 hw [] c12 b10 T12.heap n0 Z12 Fp12 F_b10_parent_12) hZ (hw _ (List.mem_of_getElem? (i := 53) rfl)) (hw _ (List.mem_of_getElem? (i := 31) rfl)) (by decide) (by decide)) q13a q13c (g := (mkF m 142 #[.val (.int p1), .val (.int p2), .val (.ref b1), .val (.ref b3), .val (.ref c5), .val (.ref c6), .val (.ref c7), .val (.int (2 : Int32)), .val (.ref c6), .val (.ref b3), .val (.int (1 : Int32)), .val (.ref b10), .val (.ref c12), .unset, .unset] [(.ref c12)])) rfl (by rw [hml]; rfl) (Steps.refl _) (argsL := []) (rest := []) (lenOf pd_0_2 rfl) rfl (by show 2 * 0 + _ ≤ _; exact Nat.le_of_eq rfl) (hb hby at_142) (fun _ _ => ⟨rfl, rfl, (by decide : 9 + 0 ≤ _), (by decide : 36 + 0 ≤ _)⟩)
  dsimp only [Pt.U, Pt.locs, Pt.cells, Pt.slots] at X13 l13 y13 z13 st13 hQ13
  subst l13 y13 z13
  obtain ⟨rfl, N13q, eh13⟩ := hQ13
  have N13 := Fr.app N12 N13q
  obtain ⟨fs, hr, hrun, hended, hW, hsame⟩ := X13.leave (v := some (.int (1 : Int32))) (fun h => by rw [Bd.returns] at h; cases h)
  refine ⟨_, _, pre0 _ ?_, hrun, hended, _, _, rfl, ?_, ⟨_, rfl⟩, hW, hsame.mono (by decide) (by decide)⟩
  · show Steps p.tables e below (s₁.setTop (mkF m 0 #[.val (.int p1), .val (.int p2), .unset, .unset, .unset, .unset, .unset, .unset, .unset, .unset, .unset, .unset, .unset, .unset, .unset] [])) _
    refine st1 _ ?_
    show Steps p.tables e below (T1.setTop (mkF m 3 #[.val (.int p1), .val (.int p2), .unset, .unset, .unset, .unset, .unset, .unset, .unset, .unset, .unset, .unset, .unset, .unset, .unset] [(.ref b1)])) _
    refine XS.dup X1.here hx rfl (hb hby at_3) rfl rfl ?_
    show Steps p.tables e below (T1.setTop (mkF m 4 #[.val (.int p1), .val (.int p2), .unset, .unset, .unset, .unset, .unset, .unset, .unset, .unset, .unset, .unset, .unset, .unset, .unset] [(.ref b1), (.ref b1)])) _
    refine st2.trans ?_
    show Steps p.tables e below (T2.setTop (mkF m 7 #[.val (.int p1), .val (.int p2), .unset, .unset, .unset, .unset, .unset, .unset, .unset, .unset, .unset, .unset, .unset, .unset, .unset] [(.ref b1)])) _
    refine XS.astoreN X2.here hx rfl (hb hby at_7) rfl rfl (l' := #[.val (.int p1), .val (.int p2), .val (.ref b1), .unset, .unset, .unset, .unset, .unset, .unset, .unset, .unset, .unset, .unset, .unset, .unset]) rfl ?_
    show Steps p.tables e below (T2.setTop (mkF m 8 #[.val (.int p1), .val (.int p2), .val (.ref b1), .unset, .unset, .unset, .unset, .unset, .unset, .unset, .unset, .unset, .unset, .unset, .unset] [])) _
    refine st3 _ ?_
    show Steps p.tables e below (T3.setTop (mkF m 11 #[.val (.int p1), .val (.int p2), .val (.ref b1), .unset, .unset, .unset, .unset, .unset, .unset, .unset, .unset, .unset, .unset, .unset, .unset] [(.ref b3)])) _
    refine XS.dup X3.here hx rfl (hb hby at_11) rfl rfl ?_
    show Steps p.tables e below (T3.setTop (mkF m 12 #[.val (.int p1), .val (.int p2), .val (.ref b1), .unset, .unset, .unset, .unset, .unset, .unset, .unset, .unset, .unset, .unset, .unset, .unset] [(.ref b3), (.ref b3)])) _
    refine XS.aloadN X3.here hx rfl (hb hby at_12) rfl rfl ?_
    show Steps p.tables e below (T3.setTop (mkF m 13 #[.val (.int p1), .val (.int p2), .val (.ref b1), .unset, .unset, .unset, .unset, .unset, .unset, .unset, .unset, .unset, .unset, .unset, .unset] [(.ref b1), (.ref b3), (.ref b3)])) _
    refine st4.trans ?_
    show Steps p.tables e below (T4.setTop (mkF m 16 #[.val (.int p1), .val (.int p2), .val (.ref b1), .unset, .unset, .unset, .unset, .unset, .unset, .unset, .unset, .unset, .unset, .unset, .unset] [(.ref b3)])) _
    refine XS.astoreN X4.here hx rfl (hb hby at_16) rfl rfl (l' := #[.val (.int p1), .val (.int p2), .val (.ref b1), .val (.ref b3), .unset, .unset, .unset, .unset, .unset, .unset, .unset, .unset, .unset, .unset, .unset]) rfl ?_
    show Steps p.tables e below (T4.setTop (mkF m 17 #[.val (.int p1), .val (.int p2), .val (.ref b1), .val (.ref b3), .unset, .unset, .unset, .unset, .unset, .unset, .unset, .unset, .unset, .unset, .unset] [])) _
    refine XS.aloadN X4.here hx rfl (hb hby at_17) rfl rfl ?_
    show Steps p.tables e below (T4.setTop (mkF m 18 #[.val (.int p1), .val (.int p2), .val (.ref b1), .val (.ref b3), .unset, .unset, .unset, .unset, .unset, .unset, .unset, .unset, .unset, .unset, .unset] [(.ref b3)])) _
    refine st5.trans ?_
    show Steps p.tables e below (T5.setTop (mkF m 21 #[.val (.int p1), .val (.int p2), .val (.ref b1), .val (.ref b3), .unset, .unset, .unset, .unset, .unset, .unset, .unset, .unset, .unset, .unset, .unset] [(.ref c5)])) _
    refine XS.astore X5.here hx rfl (hb hby at_21) rfl rfl (l' := #[.val (.int p1), .val (.int p2), .val (.ref b1), .val (.ref b3), .val (.ref c5), .unset, .unset, .unset, .unset, .unset, .unset, .unset, .unset, .unset, .unset]) rfl ?_
    show Steps p.tables e below (T5.setTop (mkF m 23 #[.val (.int p1), .val (.int p2), .val (.ref b1), .val (.ref b3), .val (.ref c5), .unset, .unset, .unset, .unset, .unset, .unset, .unset, .unset, .unset, .unset] [])) _
    refine XS.aload X5.here hx rfl (hb hby at_23) rfl rfl ?_
    show Steps p.tables e below (T5.setTop (mkF m 25 #[.val (.int p1), .val (.int p2), .val (.ref b1), .val (.ref b3), .val (.ref c5), .unset, .unset, .unset, .unset, .unset, .unset, .unset, .unset, .unset, .unset] [(.ref c5)])) _
    refine st6.trans ?_
    show Steps p.tables e below (T6.setTop (mkF m 28 #[.val (.int p1), .val (.int p2), .val (.ref b1), .val (.ref b3), .val (.ref c5), .unset, .unset, .unset, .unset, .unset, .unset, .unset, .unset, .unset, .unset] [(.ref c6)])) _
    refine XS.astore X6.here hx rfl (hb hby at_28) rfl rfl (l' := #[.val (.int p1), .val (.int p2), .val (.ref b1), .val (.ref b3), .val (.ref c5), .val (.ref c6), .unset, .unset, .unset, .unset, .unset, .unset, .unset, .unset, .unset]) rfl ?_
    show Steps p.tables e below (T6.setTop (mkF m 30 #[.val (.int p1), .val (.int p2), .val (.ref b1), .val (.ref b3), .val (.ref c5), .val (.ref c6), .unset, .unset, .unset, .unset, .unset, .unset, .unset, .unset, .unset] [])) _
    refine XS.aload X6.here hx rfl (hb hby at_30) rfl rfl ?_
    show Steps p.tables e below (T6.setTop (mkF m 32 #[.val (.int p1), .val (.int p2), .val (.ref b1), .val (.ref b3), .val (.ref c5), .val (.ref c6), .unset, .unset, .unset, .unset, .unset, .unset, .unset, .unset, .unset] [(.ref c6)])) _
    refine st7.trans ?_
    show Steps p.tables e below (T7.setTop (mkF m 35 #[.val (.int p1), .val (.int p2), .val (.ref b1), .val (.ref b3), .val (.ref c5), .val (.ref c6), .unset, .unset, .unset, .unset, .unset, .unset, .unset, .unset, .unset] [(.ref c7)])) _
    refine XS.astore X7.here hx rfl (hb hby at_35) rfl rfl (l' := #[.val (.int p1), .val (.int p2), .val (.ref b1), .val (.ref b3), .val (.ref c5), .val (.ref c6), .val (.ref c7), .unset, .unset, .unset, .unset, .unset, .unset, .unset, .unset]) rfl ?_
    show Steps p.tables e below (T7.setTop (mkF m 37 #[.val (.int p1), .val (.int p2), .val (.ref b1), .val (.ref b3), .val (.ref c5), .val (.ref c6), .val (.ref c7), .unset, .unset, .unset, .unset, .unset, .unset, .unset, .unset] [])) _
    refine XS.iloadN X7.here hx rfl (hb hby at_37) rfl ?_
    show Steps p.tables e below (T7.setTop (mkF m 38 #[.val (.int p1), .val (.int p2), .val (.ref b1), .val (.ref b3), .val (.ref c5), .val (.ref c6), .val (.ref c7), .unset, .unset, .unset, .unset, .unset, .unset, .unset, .unset] [(.int p1)])) _
    refine XS.iconst X7.here hx rfl (hb hby at_38) ?_
    show Steps p.tables e below (T7.setTop (mkF m 39 #[.val (.int p1), .val (.int p2), .val (.ref b1), .val (.ref b3), .val (.ref c5), .val (.ref c6), .val (.ref c7), .unset, .unset, .unset, .unset, .unset, .unset, .unset, .unset] [(.int (3 : Int32)), (.int p1)])) _
    refine XS.iand X7.here hx rfl (hb hby at_39) rfl ?_
    show Steps p.tables e below (T7.setTop (mkF m 40 #[.val (.int p1), .val (.int p2), .val (.ref b1), .val (.ref b3), .val (.ref c5), .val (.ref c6), .val (.ref c7), .unset, .unset, .unset, .unset, .unset, .unset, .unset, .unset] [(.int (p1 &&& (3 : Int32)))])) _
    rw [hd]
    show Steps p.tables e below (T7.setTop (mkF m 40 #[.val (.int p1), .val (.int p2), .val (.ref b1), .val (.ref b3), .val (.ref c5), .val (.ref c6), .val (.ref c7), .unset, .unset, .unset, .unset, .unset, .unset, .unset, .unset] [(.int (2 : Int32))])) _
    refine XS.istore X7.here hx rfl (hb hby at_40) rfl (l' := #[.val (.int p1), .val (.int p2), .val (.ref b1), .val (.ref b3), .val (.ref c5), .val (.ref c6), .val (.ref c7), .val (.int (2 : Int32)), .unset, .unset, .unset, .unset, .unset, .unset, .unset]) rfl ?_
    show Steps p.tables e below (T7.setTop (mkF m 42 #[.val (.int p1), .val (.int p2), .val (.ref b1), .val (.ref b3), .val (.ref c5), .val (.ref c6), .val (.ref c7), .val (.int (2 : Int32)), .unset, .unset, .unset, .unset, .unset, .unset, .unset] [])) _
    refine XS.iload X7.here hx rfl (hb hby at_42) rfl ?_
    show Steps p.tables e below (T7.setTop (mkF m 44 #[.val (.int p1), .val (.int p2), .val (.ref b1), .val (.ref b3), .val (.ref c5), .val (.ref c6), .val (.ref c7), .val (.int (2 : Int32)), .unset, .unset, .unset, .unset, .unset, .unset, .unset] [(.int (2 : Int32))])) _
    refine XS.ifYes X7.here hx rfl (pc0 := 44) (pc' := 53) rfl (hb hby at_44) rfl ((if0 _ _).trans (feq ((by decide) : ¬ ((2 : Int32) = (0 : Int32)))).2) (by decide) (by decide) ?_
    show Steps p.tables e below (T7.setTop (mkF m 53 #[.val (.int p1), .val (.int p2), .val (.ref b1), .val (.ref b3), .val (.ref c5), .val (.ref c6), .val (.ref c7), .val (.int (2 : Int32)), .unset, .unset, .unset, .unset, .unset, .unset, .unset] [])) _
    refine XS.iload X7.here hx rfl (hb hby at_53) rfl ?_
    show Steps p.tables e below (T7.setTop (mkF m 55 #[.val (.int p1), .val (.int p2), .val (.ref b1), .val (.ref b3), .val (.ref c5), .val (.ref c6), .val (.ref c7), .val (.int (2 : Int32)), .unset, .unset, .unset, .unset, .unset, .unset, .unset] [(.int (2 : Int32))])) _
    refine XS.iconst X7.here hx rfl (hb hby at_55) ?_
    show Steps p.tables e below (T7.setTop (mkF m 56 #[.val (.int p1), .val (.int p2), .val (.ref b1), .val (.ref b3), .val (.ref c5), .val (.ref c6), .val (.ref c7), .val (.int (2 : Int32)), .unset, .unset, .unset, .unset, .unset, .unset, .unset] [(.int (1 : Int32)), (.int (2 : Int32))])) _
    refine XS.icmpYes X7.here hx rfl (pc0 := 56) (pc' := 66) rfl (hb hby at_56) rfl (feq ((by decide) : ¬ ((2 : Int32) = (1 : Int32)))).2 (by decide) (by decide) ?_
    show Steps p.tables e below (T7.setTop (mkF m 66 #[.val (.int p1), .val (.int p2), .val (.ref b1), .val (.ref b3), .val (.ref c5), .val (.ref c6), .val (.ref c7), .val (.int (2 : Int32)), .unset, .unset, .unset, .unset, .unset, .unset, .unset] [])) _
    refine XS.iload X7.here hx rfl (hb hby at_66) rfl ?_
    show Steps p.tables e below (T7.setTop (mkF m 68 #[.val (.int p1), .val (.int p2), .val (.ref b1), .val (.ref b3), .val (.ref c5), .val (.ref c6), .val (.ref c7), .val (.int (2 : Int32)), .unset, .unset, .unset, .unset, .unset, .unset, .unset] [(.int (2 : Int32))])) _
    refine XS.iconst X7.here hx rfl (hb hby at_68) ?_
    show Steps p.tables e below (T7.setTop (mkF m 69 #[.val (.int p1), .val (.int p2), .val (.ref b1), .val (.ref b3), .val (.ref c5), .val (.ref c6), .val (.ref c7), .val (.int (2 : Int32)), .unset, .unset, .unset, .unset, .unset, .unset, .unset] [(.int (2 : Int32)), (.int (2 : Int32))])) _
    refine XS.icmpNo X7.here hx rfl (hb hby at_69) rfl (teq ((by decide) : (2 : Int32) = (2 : Int32))).2 ?_
    show Steps p.tables e below (T7.setTop (mkF m 72 #[.val (.int p1), .val (.int p2), .val (.ref b1), .val (.ref b3), .val (.ref c5), .val (.ref c6), .val (.ref c7), .val (.int (2 : Int32)), .unset, .unset, .unset, .unset, .unset, .unset, .unset] [])) _
    refine XS.aload X7.here hx rfl (hb hby at_72) rfl rfl ?_
    show Steps p.tables e below (T7.setTop (mkF m 74 #[.val (.int p1), .val (.int p2), .val (.ref b1), .val (.ref b3), .val (.ref c5), .val (.ref c6), .val (.ref c7), .val (.int (2 : Int32)), .unset, .unset, .unset, .unset, .unset, .unset, .unset] [(.ref c6)])) _
    refine XS.astore X7.here hx rfl (hb hby at_74) rfl rfl (l' := #[.val (.int p1), .val (.int p2), .val (.ref b1), .val (.ref b3), .val (.ref c5), .val (.ref c6), .val (.ref c7), .val (.int (2 : Int32)), .val (.ref c6), .unset, .unset, .unset, .unset, .unset, .unset]) rfl ?_
    show Steps p.tables e below (T7.setTop (mkF m 76 #[.val (.int p1), .val (.int p2), .val (.ref b1), .val (.ref b3), .val (.ref c5), .val (.ref c6), .val (.ref c7), .val (.int (2 : Int32)), .val (.ref c6), .unset, .unset, .unset, .unset, .unset, .unset] [])) _
    refine XS.goto X7.here hx rfl (pc0 := 76) (pc' := 83) rfl (hb hby at_76) (by decide) (by decide) ?_
    show Steps p.tables e below (T7.setTop (mkF m 83 #[.val (.int p1), .val (.int p2), .val (.ref b1), .val (.ref b3), .val (.ref c5), .val (.ref c6), .val (.ref c7), .val (.int (2 : Int32)), .val (.ref c6), .unset, .unset, .unset, .unset, .unset, .unset] [])) _
    refine XS.aload X7.here hx rfl (hb hby at_83) rfl rfl ?_
    show Steps p.tables e below (T7.setTop (mkF m 85 #[.val (.int p1), .val (.int p2), .val (.ref b1), .val (.ref b3), .val (.ref c5), .val (.ref c6), .val (.ref c7), .val (.int (2 : Int32)), .val (.ref c6), .unset, .unset, .unset, .unset, .unset, .unset] [(.ref c6)])) _
    refine st8.trans ?_
    show Steps p.tables e below (T8.setTop (mkF m 88 #[.val (.int p1), .val (.int p2), .val (.ref b1), .val (.ref b3), .val (.ref c5), .val (.ref c6), .val (.ref c7), .val (.int (2 : Int32)), .val (.ref c6), .unset, .unset, .unset, .unset, .unset, .unset] [(.ref b3)])) _
    refine XS.astore X8.here hx rfl (hb hby at_88) rfl rfl (l' := #[.val (.int p1), .val (.int p2), .val (.ref b1), .val (.ref b3), .val (.ref c5), .val (.ref c6), .val (.ref c7), .val (.int (2 : Int32)), .val (.ref c6), .val (.ref b3), .unset, .unset, .unset, .unset, .unset]) rfl ?_
    show Steps p.tables e below (T8.setTop (mkF m 90 #[.val (.int p1), .val (.int p2), .val (.ref b1), .val (.ref b3), .val (.ref c5), .val (.ref c6), .val (.ref c7), .val (.int (2 : Int32)), .val (.ref c6), .val (.ref b3), .unset, .unset, .unset, .unset, .unset] [])) _
    refine XS.aload X8.here hx rfl (hb hby at_90) rfl rfl ?_
    show Steps p.tables e below (T8.setTop (mkF m 92 #[.val (.int p1), .val (.int p2), .val (.ref b1), .val (.ref b3), .val (.ref c5), .val (.ref c6), .val (.ref c7), .val (.int (2 : Int32)), .val (.ref c6), .val (.ref b3), .unset, .unset, .unset, .unset, .unset] [(.ref b3)])) _
    refine XS.aloadN X8.here hx rfl (hb hby at_92) rfl rfl ?_
    show Steps p.tables e below (T8.setTop (mkF m 93 #[.val (.int p1), .val (.int p2), .val (.ref b1), .val (.ref b3), .val (.ref c5), .val (.ref c6), .val (.ref c7), .val (.int (2 : Int32)), .val (.ref c6), .val (.ref b3), .unset, .unset, .unset, .unset, .unset] [(.ref b3), (.ref b3)])) _
    refine Jvm.RoadKit.acmp (g := (mkF m 93 #[.val (.int p1), .val (.int p2), .val (.ref b1), .val (.ref b3), .val (.ref c5), .val (.ref c6), .val (.ref c7), .val (.int (2 : Int32)), .val (.ref c6), .val (.ref b3), .unset, .unset, .unset, .unset, .unset] [(.ref b3), (.ref b3)])) X8 hx rfl rfl rfl (pc0 := 93) (pc' := 96) (same := true) rfl (hb hby at_93) rfl (decide_eq_true rfl) (by decide) (by decide) ?_
    show Steps p.tables e below (T8.setTop (mkF m 96 #[.val (.int p1), .val (.int p2), .val (.ref b1), .val (.ref b3), .val (.ref c5), .val (.ref c6), .val (.ref c7), .val (.int (2 : Int32)), .val (.ref c6), .val (.ref b3), .unset, .unset, .unset, .unset, .unset] [])) _
    refine XS.aload X8.here hx rfl (hb hby at_96) rfl rfl ?_
    show Steps p.tables e below (T8.setTop (mkF m 98 #[.val (.int p1), .val (.int p2), .val (.ref b1), .val (.ref b3), .val (.ref c5), .val (.ref c6), .val (.ref c7), .val (.int (2 : Int32)), .val (.ref c6), .val (.ref b3), .unset, .unset, .unset, .unset, .unset] [(.ref b3)])) _
    refine st9.trans ?_
    show Steps p.tables e below (T9.setTop (mkF m 101 #[.val (.int p1), .val (.int p2), .val (.ref b1), .val (.ref b3), .val (.ref c5), .val (.ref c6), .val (.ref c7), .val (.int (2 : Int32)), .val (.ref c6), .val (.ref b3), .unset, .unset, .unset, .unset, .unset] [(.ref b3)])) _
    refine XS.aloadN X9.here hx rfl (hb hby at_101) rfl rfl ?_
    show Steps p.tables e below (T9.setTop (mkF m 102 #[.val (.int p1), .val (.int p2), .val (.ref b1), .val (.ref b3), .val (.ref c5), .val (.ref c6), .val (.ref c7), .val (.int (2 : Int32)), .val (.ref c6), .val (.ref b3), .unset, .unset, .unset, .unset, .unset] [(.ref b3), (.ref b3)])) _
    refine Jvm.RoadKit.acmp (g := (mkF m 102 #[.val (.int p1), .val (.int p2), .val (.ref b1), .val (.ref b3), .val (.ref c5), .val (.ref c6), .val (.ref c7), .val (.int (2 : Int32)), .val (.ref c6), .val (.ref b3), .unset, .unset, .unset, .unset, .unset] [(.ref b3), (.ref b3)])) X9 hx rfl rfl rfl (pc0 := 102) (pc' := 105) (same := true) rfl (hb hby at_102) rfl (decide_eq_true rfl) (by decide) (by decide) ?_
    show Steps p.tables e below (T9.setTop (mkF m 105 #[.val (.int p1), .val (.int p2), .val (.ref b1), .val (.ref b3), .val (.ref c5), .val (.ref c6), .val (.ref c7), .val (.int (2 : Int32)), .val (.ref c6), .val (.ref b3), .unset, .unset, .unset, .unset, .unset] [])) _
    refine XS.iconst X9.here hx rfl (hb hby at_105) ?_
    show Steps p.tables e below (T9.setTop (mkF m 106 #[.val (.int p1), .val (.int p2), .val (.ref b1), .val (.ref b3), .val (.ref c5), .val (.ref c6), .val (.ref c7), .val (.int (2 : Int32)), .val (.ref c6), .val (.ref b3), .unset, .unset, .unset, .unset, .unset] [(.int (1 : Int32))])) _
    refine XS.goto X9.here hx rfl (pc0 := 106) (pc' := 110) rfl (hb hby at_106) (by decide) (by decide) ?_
    show Steps p.tables e below (T9.setTop (mkF m 110 #[.val (.int p1), .val (.int p2), .val (.ref b1), .val (.ref b3), .val (.ref c5), .val (.ref c6), .val (.ref c7), .val (.int (2 : Int32)), .val (.ref c6), .val (.ref b3), .unset, .unset, .unset, .unset, .unset] [(.int (1 : Int32))])) _
    refine XS.istore X9.here hx rfl (hb hby at_110) rfl (l' := #[.val (.int p1), .val (.int p2), .val (.ref b1), .val (.ref b3), .val (.ref c5), .val (.ref c6), .val (.ref c7), .val (.int (2 : Int32)), .val (.ref c6), .val (.ref b3), .val (.int (1 : Int32)), .unset, .unset, .unset, .unset]) rfl ?_
    show Steps p.tables e below (T9.setTop (mkF m 112 #[.val (.int p1), .val (.int p2), .val (.ref b1), .val (.ref b3), .val (.ref c5), .val (.ref c6), .val (.ref c7), .val (.int (2 : Int32)), .val (.ref c6), .val (.ref b3), .val (.int (1 : Int32)), .unset, .unset, .unset, .unset] [])) _
    refine st10 _ ?_
    show Steps p.tables e below (T10.setTop (mkF m 115 #[.val (.int p1), .val (.int p2), .val (.ref b1), .val (.ref b3), .val (.ref c5), .val (.ref c6), .val (.ref c7), .val (.int (2 : Int32)), .val (.ref c6), .val (.ref b3), .val (.int (1 : Int32)), .unset, .unset, .unset, .unset] [(.ref b10)])) _
    refine XS.dup X10.here hx rfl (hb hby at_115) rfl rfl ?_
    show Steps p.tables e below (T10.setTop (mkF m 116 #[.val (.int p1), .val (.int p2), .val (.ref b1), .val (.ref b3), .val (.ref c5), .val (.ref c6), .val (.ref c7), .val (.int (2 : Int32)), .val (.ref c6), .val (.ref b3), .val (.int (1 : Int32)), .unset, .unset, .unset, .unset] [(.ref b10), (.ref b10)])) _
    refine XS.aloadN X10.here hx rfl (hb hby at_116) rfl rfl ?_
    show Steps p.tables e below (T10.setTop (mkF m 117 #[.val (.int p1), .val (.int p2), .val (.ref b1), .val (.ref b3), .val (.ref c5), .val (.ref c6), .val (.ref c7), .val (.int (2 : Int32)), .val (.ref c6), .val (.ref b3), .val (.int (1 : Int32)), .unset, .unset, .unset, .unset] [(.ref b1), (.ref b10), (.ref b10)])) _
    refine st11.trans ?_
    show Steps p.tables e below (T11.setTop (mkF m 120 #[.val (.int p1), .val (.int p2), .val (.ref b1), .val (.ref b3), .val (.ref c5), .val (.ref c6), .val (.ref c7), .val (.int (2 : Int32)), .val (.ref c6), .val (.ref b3), .val (.int (1 : Int32)), .unset, .unset, .unset, .unset] [(.ref b10)])) _
    refine XS.astore X11.here hx rfl (hb hby at_120) rfl rfl (l' := #[.val (.int p1), .val (.int p2), .val (.ref b1), .val (.ref b3), .val (.ref c5), .val (.ref c6), .val (.ref c7), .val (.int (2 : Int32)), .val (.ref c6), .val (.ref b3), .val (.int (1 : Int32)), .val (.ref b10), .unset, .unset, .unset]) rfl ?_
    show Steps p.tables e below (T11.setTop (mkF m 122 #[.val (.int p1), .val (.int p2), .val (.ref b1), .val (.ref b3), .val (.ref c5), .val (.ref c6), .val (.ref c7), .val (.int (2 : Int32)), .val (.ref c6), .val (.ref b3), .val (.int (1 : Int32)), .val (.ref b10), .unset, .unset, .unset] [])) _
    refine XS.iloadN X11.here hx rfl (hb hby at_122) rfl ?_
    show Steps p.tables e below (T11.setTop (mkF m 123 #[.val (.int p1), .val (.int p2), .val (.ref b1), .val (.ref b3), .val (.ref c5), .val (.ref c6), .val (.ref c7), .val (.int (2 : Int32)), .val (.ref c6), .val (.ref b3), .val (.int (1 : Int32)), .val (.ref b10), .unset, .unset, .unset] [(.int p2)])) _
    refine XS.iconst X11.here hx rfl (hb hby at_123) ?_
    show Steps p.tables e below (T11.setTop (mkF m 124 #[.val (.int p1), .val (.int p2), .val (.ref b1), .val (.ref b3), .val (.ref c5), .val (.ref c6), .val (.ref c7), .val (.int (2 : Int32)), .val (.ref c6), .val (.ref b3), .val (.int (1 : Int32)), .val (.ref b10), .unset, .unset, .unset] [(.int (1 : Int32)), (.int p2)])) _
    refine XS.iand X11.here hx rfl (hb hby at_124) rfl ?_
    show Steps p.tables e below (T11.setTop (mkF m 125 #[.val (.int p1), .val (.int p2), .val (.ref b1), .val (.ref b3), .val (.ref c5), .val (.ref c6), .val (.ref c7), .val (.int (2 : Int32)), .val (.ref c6), .val (.ref b3), .val (.int (1 : Int32)), .val (.ref b10), .unset, .unset, .unset] [(.int (p2 &&& (1 : Int32)))])) _
    refine XS.ifNo X11.here hx rfl (hb hby at_125) rfl ((if0 _ _).trans (feq (hc125 : ¬ ((p2 &&& (1 : Int32)) = (0 : Int32)))).1) ?_
    show Steps p.tables e below (T11.setTop (mkF m 128 #[.val (.int p1), .val (.int p2), .val (.ref b1), .val (.ref b3), .val (.ref c5), .val (.ref c6), .val (.ref c7), .val (.int (2 : Int32)), .val (.ref c6), .val (.ref b3), .val (.int (1 : Int32)), .val (.ref b10), .unset, .unset, .unset] [])) _
    refine XS.aload X11.here hx rfl (hb hby at_128) rfl rfl ?_
    show Steps p.tables e below (T11.setTop (mkF m 130 #[.val (.int p1), .val (.int p2), .val (.ref b1), .val (.ref b3), .val (.ref c5), .val (.ref c6), .val (.ref c7), .val (.int (2 : Int32)), .val (.ref c6), .val (.ref b3), .val (.int (1 : Int32)), .val (.ref b10), .unset, .unset, .unset] [(.ref b10)])) _
    refine st12.trans ?_
    show Steps p.tables e below (T12.setTop (mkF m 133 #[.val (.int p1), .val (.int p2), .val (.ref b1), .val (.ref b3), .val (.ref c5), .val (.ref c6), .val (.ref c7), .val (.int (2 : Int32)), .val (.ref c6), .val (.ref b3), .val (.int (1 : Int32)), .val (.ref b10), .unset, .unset, .unset] [(.ref c12)])) _
    refine XS.goto X12.here hx rfl (pc0 := 133) (pc' := 138) rfl (hb hby at_133) (by decide) (by decide) ?_
    show Steps p.tables e below (T12.setTop (mkF m 138 #[.val (.int p1), .val (.int p2), .val (.ref b1), .val (.ref b3), .val (.ref c5), .val (.ref c6), .val (.ref c7), .val (.int (2 : Int32)), .val (.ref c6), .val (.ref b3), .val (.int (1 : Int32)), .val (.ref b10), .unset, .unset, .unset] [(.ref c12)])) _
    refine XS.astore X12.here hx rfl (hb hby at_138) rfl rfl (l' := #[.val (.int p1), .val (.int p2), .val (.ref b1), .val (.ref b3), .val (.ref c5), .val (.ref c6), .val (.ref c7), .val (.int (2 : Int32)), .val (.ref c6), .val (.ref b3), .val (.int (1 : Int32)), .val (.ref b10), .val (.ref c12), .unset, .unset]) rfl ?_
    show Steps p.tables e below (T12.setTop (mkF m 140 #[.val (.int p1), .val (.int p2), .val (.ref b1), .val (.ref b3), .val (.ref c5), .val (.ref c6), .val (.ref c7), .val (.int (2 : Int32)), .val (.ref c6), .val (.ref b3), .val (.int (1 : Int32)), .val (.ref b10), .val (.ref c12), .unset, .unset] [])) _
    refine XS.aload X12.here hx rfl (hb hby at_140) rfl rfl ?_
    show Steps p.tables e below (T12.setTop (mkF m 142 #[.val (.int p1), .val (.int p2), .val (.ref b1), .val (.ref b3), .val (.ref c5), .val (.ref c6), .val (.ref c7), .val (.int (2 : Int32)), .val (.ref c6), .val (.ref b3), .val (.int (1 : Int32)), .val (.ref b10), .val (.ref c12), .unset, .unset] [(.ref c12)])) _
    refine st13.trans ?_
    show Steps p.tables e below (T13.setTop (mkF m 145 #[.val (.int p1), .val (.int p2), .val (.ref b1), .val (.ref b3), .val (.ref c5), .val (.ref c6), .val (.ref c7), .val (.int (2 : Int32)), .val (.ref c6), .val (.ref b3), .val (.int (1 : Int32)), .val (.ref b10), .val (.ref c12), .unset, .unset] [(.ref b10)])) _
    refine XS.astore X13.here hx rfl (hb hby at_145) rfl rfl (l' := #[.val (.int p1), .val (.int p2), .val (.ref b1), .val (.ref b3), .val (.ref c5), .val (.ref c6), .val (.ref c7), .val (.int (2 : Int32)), .val (.ref c6), .val (.ref b3), .val (.int (1 : Int32)), .val (.ref b10), .val (.ref c12), .val (.ref b10), .unset]) rfl ?_
    show Steps p.tables e below (T13.setTop (mkF m 147 #[.val (.int p1), .val (.int p2), .val (.ref b1), .val (.ref b3), .val (.ref c5), .val (.ref c6), .val (.ref c7), .val (.int (2 : Int32)), .val (.ref c6), .val (.ref b3), .val (.int (1 : Int32)), .val (.ref b10), .val (.ref c12), .val (.ref b10), .unset] [])) _
    refine XS.aload X13.here hx rfl (hb hby at_147) rfl rfl ?_
    show Steps p.tables e below (T13.setTop (mkF m 149 #[.val (.int p1), .val (.int p2), .val (.ref b1), .val (.ref b3), .val (.ref c5), .val (.ref c6), .val (.ref c7), .val (.int (2 : Int32)), .val (.ref c6), .val (.ref b3), .val (.int (1 : Int32)), .val (.ref b10), .val (.ref c12), .val (.ref b10), .unset] [(.ref b10)])) _
    refine XS.aload X13.here hx rfl (hb hby at_149) rfl rfl ?_
    show Steps p.tables e below (T13.setTop (mkF m 151 #[.val (.int p1), .val (.int p2), .val (.ref b1), .val (.ref b3), .val (.ref c5), .val (.ref c6), .val (.ref c7), .val (.int (2 : Int32)), .val (.ref c6), .val (.ref b3), .val (.int (1 : Int32)), .val (.ref b10), .val (.ref c12), .val (.ref b10), .unset] [(.ref b10), (.ref b10)])) _
    refine Jvm.RoadKit.acmp (g := (mkF m 151 #[.val (.int p1), .val (.int p2), .val (.ref b1), .val (.ref b3), .val (.ref c5), .val (.ref c6), .val (.ref c7), .val (.int (2 : Int32)), .val (.ref c6), .val (.ref b3), .val (.int (1 : Int32)), .val (.ref b10), .val (.ref c12), .val (.ref b10), .unset] [(.ref b10), (.ref b10)])) X13 hx rfl rfl rfl (pc0 := 151) (pc' := 154) (same := true) rfl (hb hby at_151) rfl (decide_eq_true rfl) (by decide) (by decide) ?_
    show Steps p.tables e below (T13.setTop (mkF m 154 #[.val (.int p1), .val (.int p2), .val (.ref b1), .val (.ref b3), .val (.ref c5), .val (.ref c6), .val (.ref c7), .val (.int (2 : Int32)), .val (.ref c6), .val (.ref b3), .val (.int (1 : Int32)), .val (.ref b10), .val (.ref c12), .val (.ref b10), .unset] [])) _
    refine XS.aload X13.here hx rfl (hb hby at_154) rfl rfl ?_
    show Steps p.tables e below (T13.setTop (mkF m 156 #[.val (.int p1), .val (.int p2), .val (.ref b1), .val (.ref b3), .val (.ref c5), .val (.ref c6), .val (.ref c7), .val (.int (2 : Int32)), .val (.ref c6), .val (.ref b3), .val (.int (1 : Int32)), .val (.ref b10), .val (.ref c12), .val (.ref b10), .unset] [(.ref b10)])) _
    refine XS.aloadN X13.here hx rfl (hb hby at_156) rfl rfl ?_
    show Steps p.tables e below (T13.setTop (mkF m 157 #[.val (.int p1), .val (.int p2), .val (.ref b1), .val (.ref b3), .val (.ref c5), .val (.ref c6), .val (.ref c7), .val (.int (2 : Int32)), .val (.ref c6), .val (.ref b3), .val (.int (1 : Int32)), .val (.ref b10), .val (.ref c12), .val (.ref b10), .unset] [(.ref b3), (.ref b10)])) _
    refine Jvm.RoadKit.acmp (g := (mkF m 157 #[.val (.int p1), .val (.int p2), .val (.ref b1), .val (.ref b3), .val (.ref c5), .val (.ref c6), .val (.ref c7), .val (.int (2 : Int32)), .val (.ref c6), .val (.ref b3), .val (.int (1 : Int32)), .val (.ref b10), .val (.ref c12), .val (.ref b10), .unset] [(.ref b3), (.ref b10)])) X13 hx rfl rfl rfl (pc0 := 157) (pc' := 160) (same := false) rfl (hb hby at_157) rfl (decide_eq_false fun q => absurd (Value.ref.inj q) (Ne.symm ne_b3_b10)) (by decide) (by decide) ?_
    show Steps p.tables e below (T13.setTop (mkF m 160 #[.val (.int p1), .val (.int p2), .val (.ref b1), .val (.ref b3), .val (.ref c5), .val (.ref c6), .val (.ref c7), .val (.int (2 : Int32)), .val (.ref c6), .val (.ref b3), .val (.int (1 : Int32)), .val (.ref b10), .val (.ref c12), .val (.ref b10), .unset] [])) _
    refine XS.iconst X13.here hx rfl (hb hby at_160) ?_
    show Steps p.tables e below (T13.setTop (mkF m 161 #[.val (.int p1), .val (.int p2), .val (.ref b1), .val (.ref b3), .val (.ref c5), .val (.ref c6), .val (.ref c7), .val (.int (2 : Int32)), .val (.ref c6), .val (.ref b3), .val (.int (1 : Int32)), .val (.ref b10), .val (.ref c12), .val (.ref b10), .unset] [(.int (1 : Int32))])) _
    refine XS.goto X13.here hx rfl (pc0 := 161) (pc' := 165) rfl (hb hby at_161) (by decide) (by decide) ?_
    show Steps p.tables e below (T13.setTop (mkF m 165 #[.val (.int p1), .val (.int p2), .val (.ref b1), .val (.ref b3), .val (.ref c5), .val (.ref c6), .val (.ref c7), .val (.int (2 : Int32)), .val (.ref c6), .val (.ref b3), .val (.int (1 : Int32)), .val (.ref b10), .val (.ref c12), .val (.ref b10), .unset] [(.int (1 : Int32))])) _
    refine XS.istore X13.here hx rfl (hb hby at_165) rfl (l' := #[.val (.int p1), .val (.int p2), .val (.ref b1), .val (.ref b3), .val (.ref c5), .val (.ref c6), .val (.ref c7), .val (.int (2 : Int32)), .val (.ref c6), .val (.ref b3), .val (.int (1 : Int32)), .val (.ref b10), .val (.ref c12), .val (.ref b10), .val (.int (1 : Int32))]) rfl ?_
    show Steps p.tables e below (T13.setTop (mkF m 167 #[.val (.int p1), .val (.int p2), .val (.ref b1), .val (.ref b3), .val (.ref c5), .val (.ref c6), .val (.ref c7), .val (.int (2 : Int32)), .val (.ref c6), .val (.ref b3), .val (.int (1 : Int32)), .val (.ref b10), .val (.ref c12), .val (.ref b10), .val (.int (1 : Int32))] [])) _
    refine XS.iload X13.here hx rfl (hb hby at_167) rfl ?_
    show Steps p.tables e below (T13.setTop (mkF m 169 #[.val (.int p1), .val (.int p2), .val (.ref b1), .val (.ref b3), .val (.ref c5), .val (.ref c6), .val (.ref c7), .val (.int (2 : Int32)), .val (.ref c6), .val (.ref b3), .val (.int (1 : Int32)), .val (.ref b10), .val (.ref c12), .val (.ref b10), .val (.int (1 : Int32))] [(.int (1 : Int32))])) _
    refine XS.ifNo X13.here hx rfl (hb hby at_169) rfl ((if0 _ _).trans (feq ((by decide) : ¬ ((1 : Int32) = (0 : Int32)))).1) ?_
    show Steps p.tables e below (T13.setTop (mkF m 172 #[.val (.int p1), .val (.int p2), .val (.ref b1), .val (.ref b3), .val (.ref c5), .val (.ref c6), .val (.ref c7), .val (.int (2 : Int32)), .val (.ref c6), .val (.ref b3), .val (.int (1 : Int32)), .val (.ref b10), .val (.ref c12), .val (.ref b10), .val (.int (1 : Int32))] [])) _
    refine XS.iload X13.here hx rfl (hb hby at_172) rfl ?_
    show Steps p.tables e below (T13.setTop (mkF m 174 #[.val (.int p1), .val (.int p2), .val (.ref b1), .val (.ref b3), .val (.ref c5), .val (.ref c6), .val (.ref c7), .val (.int (2 : Int32)), .val (.ref c6), .val (.ref b3), .val (.int (1 : Int32)), .val (.ref b10), .val (.ref c12), .val (.ref b10), .val (.int (1 : Int32))] [(.int (1 : Int32))])) _
    refine XS.ifNo X13.here hx rfl (hb hby at_174) rfl ((if0 _ _).trans (feq ((by decide) : ¬ ((1 : Int32) = (0 : Int32)))).1) ?_
    show Steps p.tables e below (T13.setTop (mkF m 177 #[.val (.int p1), .val (.int p2), .val (.ref b1), .val (.ref b3), .val (.ref c5), .val (.ref c6), .val (.ref c7), .val (.int (2 : Int32)), .val (.ref c6), .val (.ref b3), .val (.int (1 : Int32)), .val (.ref b10), .val (.ref c12), .val (.ref b10), .val (.int (1 : Int32))] [])) _
    refine XS.iconst X13.here hx rfl (hb hby at_177) ?_
    show Steps p.tables e below (T13.setTop (mkF m 178 #[.val (.int p1), .val (.int p2), .val (.ref b1), .val (.ref b3), .val (.ref c5), .val (.ref c6), .val (.ref c7), .val (.int (2 : Int32)), .val (.ref c6), .val (.ref b3), .val (.int (1 : Int32)), .val (.ref b10), .val (.ref c12), .val (.ref b10), .val (.int (1 : Int32))] [(.int (1 : Int32))])) _
    refine XS.goto X13.here hx rfl (pc0 := 178) (pc' := 182) rfl (hb hby at_178) (by decide) (by decide) ?_
    show Steps p.tables e below (T13.setTop (mkF m 182 #[.val (.int p1), .val (.int p2), .val (.ref b1), .val (.ref b3), .val (.ref c5), .val (.ref c6), .val (.ref c7), .val (.int (2 : Int32)), .val (.ref c6), .val (.ref b3), .val (.int (1 : Int32)), .val (.ref b10), .val (.ref c12), .val (.ref b10), .val (.int (1 : Int32))] [(.int (1 : Int32))])) _
    exact retN X13 hx (t := .boolean) Bd.returns (by simp) (hb hby at_182) hr
  · show Q0 Z p1 p2 h0 n0 _ T13.heap _
    rw [eh13]
    exact ⟨rfl, N13⟩
set_option maxRecDepth 65536 in
set_option maxHeartbeats 40000000 in
theorem rm0_3t (l : Launch) (Z : State) (a0 : Array Value) (hw : ∀ d ∈ tables_1, d.before a0 Z = true) (ws : List Jvm.Cond) (p1 p2 : Int32) (h0 : Heap) (n0 : Nat) (Z0 : n0 ≤ h0.size) (hd : (p1 &&& (3 : Int32)) = (3 : Int32)) (hc125 : (p2 &&& (1 : Int32)) = (0 : Int32)) :
    MetFree l x (head1 (Jvm.Cond.code x code maxLocals ret :: ws) room_1) (fun a U => a = #[(.int p1), (.int p2)] ∧ Z.Warmed39 U.vm ∧ U.heap = h0) (fun _ _ _ _ _ => True) (fun _ U o U' => ∃ v L, o = .returned v ∧ Q0 Z p1 p2 h0 n0 v U'.heap L ∧ FrameEnd U o U' L room_1.cells room_1.slots) := by
  refine MetFree.of_bodySF (plainFor_of_name pn_0) hisR ?_
  intro p e s m args below meth c s₁ Bd hml0 hP hK
  obtain ⟨rfl, hZ, hh⟩ := hP
  have hx := Bd.exec
  have hby := Bd.bytes
  have hml : c.maxLocals = 15 := hml0
  have hown : s.vm.findClass "com/example/roteiro/roteiro/lang/ScopeRootPinLaw" = some m.cls := findClass_of_methodNamed Bd.named
  have hnm := (name_of_methodNamed Bd.named Bd.method).1
  have X0 : Stand p l e room_1 s m #[(.int p1), (.int p2)] below meth c s₁ [] 0 0 := Stand.of_body Bd
  have e0 : s₁.heap = h0 := by rw [← hh, Bd.state]; rfl
  have N0 := Fr.nil n0
  have pre0 : ∀ t, Steps p.tables e below (s₁.setTop (mkF m 0 #[.val (.int p1), .val (.int p2), .unset, .unset, .unset, .unset, .unset, .unset, .unset, .unset, .unset, .unset, .unset, .unset, .unset] [])) t → Steps p.tables e below (s₁.setTop (entryFrame m #[(.int p1), (.int p2)] maxLocals)) t := fun t k => castTop (ef_0 m p1 p2) k
  obtain ⟨T1, h1, X1, e1, E1, A1, D1, -, st1⟩ := newO X0 hx hZ hown (hw _ (List.mem_of_getElem? (i := 0) rfl)) (hw _ (List.mem_of_getElem? (i := 1) rfl)) (hw _ (List.mem_of_getElem? (i := 2) rfl)) e0 (g := (mkF m 0 #[.val (.int p1), .val (.int p2), .unset, .unset, .unset, .unset, .unset, .unset, .unset, .unset, .unset, .unset, .unset, .unset, .unset] [])) rfl (hb hby at_0) (by decide) (by decide)
  obtain ⟨b1, g1⟩ : ∃ z, z = h0.size := ⟨_, rfl⟩
  rw [← g1] at A1 D1 st1
  have gb1 : n0 ≤ b1 := Nat.le_trans Z0 (Nat.le_of_eq g1.symm)
  have Z1 : n0 ≤ h1.size := Nat.le_trans Z0 E1.1
  have F_b1_elements_1 : Fld Z h1 b1 "com/example/roteiro/roteiro/lang/Libraries" "elements" "Ljava/util/Map;" .null := D1 (Or.inr (hw _ (List.mem_of_getElem? (i := 26) rfl))) (ty := (.object "java/util/Map")) (by decide)
  have F_b1_bareNames_1 : Fld Z h1 b1 "com/example/roteiro/roteiro/lang/Libraries" "bareNames" "Ljava/util/Map;" .null := D1 (Or.inr (hw _ (List.mem_of_getElem? (i := 28) rfl))) (ty := (.object "java/util/Map")) (by decide)
  obtain ⟨_, _, ⟨T2, L2, k2, n2⟩, -, X2, ⟨Lc2, hQ2, l2, y2, z2⟩, st2⟩ := X1.specialBack hx (y := (⟨"com/example/roteiro/roteiro/lang/Libraries", "<init>", "()V"⟩ : MethodName)) rfl hown (mvT hZ (hw _ (List.mem_of_getElem? (i := 3) rfl))) (mvT hZ (hw _ (List.mem_of_getElem? (i := 4) rfl))) (mvT hZ (hw _ (List.mem_of_getElem? (i := 5) rfl))) (by decide) (backOf (W := 1) (rmLb l Z a0 hw [] b1 _ _ h1 n0 Z1 A1 F_b1_elements_1 F_b1_bareNames_1 gb1) hZ (hw _ (List.mem_of_getElem? (i := 5) rfl)) (hw _ (List.mem_of_getElem? (i := 2) rfl)) (by decide) (by decide)) (g := (mkF m 4 #[.val (.int p1), .val (.int p2), .unset, .unset, .unset, .unset, .unset, .unset, .unset, .unset, .unset, .unset, .unset, .unset, .unset] [(.ref b1), (.ref b1)])) rfl (by rw [hml]; rfl) (Steps.refl _) (a := b1) (argsL := []) (rest := [(.ref b1)]) (lenOf pd_0_0 rfl) rfl (by show 2 * 0 + _ ≤ _; exact Nat.le_of_eq rfl) (hb hby at_4) (fun _ _ => ⟨rfl, e1, (by decide : 1 + 2 ≤ _), (by decide : 2 + 16 ≤ _)⟩)
  dsimp only [Pt.U, Pt.locs, Pt.cells, Pt.slots] at X2 l2 y2 z2 st2 hQ2
  subst l2 y2 z2
  obtain ⟨rfl, N2q, K2⟩ := hQ2
  have N2 := Fr.app N0 N2q
  have E_b1_2 := A1.keep K2
  have Z2 : n0 ≤ T2.heap.size := Nat.le_trans Z1 K2.1
  obtain ⟨T3, h3, X3, e3, E3, A3, D3, -, st3⟩ := newO X2 hx hZ hown (hw _ (List.mem_of_getElem? (i := 29) rfl)) (hw _ (List.mem_of_getElem? (i := 30) rfl)) (hw _ (List.mem_of_getElem? (i := 31) rfl)) rfl (g := (mkF m 8 #[.val (.int p1), .val (.int p2), .val (.ref b1), .unset, .unset, .unset, .unset, .unset, .unset, .unset, .unset, .unset, .unset, .unset, .unset] [])) rfl (hb hby at_8) (by decide) (by decide)
  obtain ⟨b3, g3⟩ : ∃ z, z = T2.heap.size := ⟨_, rfl⟩
  rw [← g3] at A3 D3 st3
  have gb3 : n0 ≤ b3 := Nat.le_trans Z2 (Nat.le_of_eq g3.symm)
  have Z3 : n0 ≤ h3.size := Nat.le_trans Z2 E3.1
  have F_b3_parent_3 : Fld Z h3 b3 "com/example/roteiro/roteiro/lang/Scope" "parent" "Lcom/example/roteiro/roteiro/lang/Scope;" .null := D3 (Or.inr (hw _ (List.mem_of_getElem? (i := 40) rfl))) (ty := (.object "com/example/roteiro/roteiro/lang/Scope")) (by decide)
  have F_b3_libraries_3 : Fld Z h3 b3 "com/example/roteiro/roteiro/lang/Scope" "libraries" "Lcom/example/roteiro/roteiro/lang/Libraries;" .null := D3 (Or.inr (hw _ (List.mem_of_getElem? (i := 42) rfl))) (ty := (.object "com/example/roteiro/roteiro/lang/Libraries")) (by decide)
  obtain ⟨_, _, ⟨T4, L4, k4, n4⟩, -, X4, ⟨Lc4, hQ4, l4, y4, z4⟩, st4⟩ := X3.specialBack hx (y := (⟨"com/example/roteiro/roteiro/lang/Scope", "<init>", "(Lcom/example/roteiro/roteiro/lang/Libraries;)V"⟩ : MethodName)) rfl hown (mvT hZ (hw _ (List.mem_of_getElem? (i := 32) rfl))) (mvT hZ (hw _ (List.mem_of_getElem? (i := 33) rfl))) (mvT hZ (hw _ (List.mem_of_getElem? (i := 34) rfl))) (by decide) (backOf (W := 1) (rmI1 l Z a0 hw [] b3 b1 _ _ h3 n0 Z3 A3 F_b3_parent_3 F_b3_libraries_3 gb3) hZ (hw _ (List.mem_of_getElem? (i := 34) rfl)) (hw _ (List.mem_of_getElem? (i := 31) rfl)) (by decide) (by decide)) (g := (mkF m 13 #[.val (.int p1), .val (.int p2), .val (.ref b1), .unset, .unset, .unset, .unset, .unset, .unset, .unset, .unset, .unset, .unset, .unset, .unset] [(.ref b1), (.ref b3), (.ref b3)])) rfl (by rw [hml]; rfl) (Steps.refl _) (a := b3) (argsL := [(.ref b1)]) (rest := [(.ref b3)]) (lenOf pd_0_1 rfl) rfl (by show 2 * 0 + _ ≤ _; exact Nat.le_of_eq rfl) (hb hby at_13) (fun _ _ => ⟨rfl, e3, (by decide : 4 + 0 ≤ _), (by decide : 21 + 0 ≤ _)⟩)
  dsimp only [Pt.U, Pt.locs, Pt.cells, Pt.slots] at X4 l4 y4 z4 st4 hQ4
  subst l4 y4 z4
  obtain ⟨rfl, N4q, K4, Fp4, Fl4⟩ := hQ4
  have N4 := Fr.app N2 N4q
  have E_b3_4 := A3.keep K4
  have Z4 : n0 ≤ T4.heap.size := Nat.le_trans Z3 K4.1
  obtain ⟨cq5, kq5, q5a, q5b, q5c⟩ := isOf hZ rfl E_b3_4
  obtain ⟨_, _, ⟨T5, L5, k5, n5⟩, -, X5, ⟨Lc5, hQ5, l5, y5, z5⟩, st5⟩ := X4.virtualBack hx (y := (⟨"com/example/roteiro/roteiro/lang/Scope", "child", "()Lcom/example/roteiro/roteiro/lang/Scope;"⟩ : MethodName)) (z := (⟨"com/example/roteiro/roteiro/lang/Scope", "child", "()Lcom/example/roteiro/roteiro/lang/Scope;"⟩ : MethodName)) hown (mvT hZ (hw _ (List.mem_of_getElem? (i := 43) rfl))) (mvT hZ (hw _ (List.mem_of_getElem? (i := 44) rfl))) (notFace_of_selects (args := #[]) (mvT hZ (hw _ (List.mem_of_getElem? (i := 46) rfl)))) (mvT hZ (hw _ (List.mem_of_getElem? (i := 46) rfl))) (mvT hZ (hw _ (List.mem_of_getElem? (i := 45) rfl))) (by decide) (backOf (W := 0) (rmCh l Z a0 hw [] b3 b1 T4.heap n0 Z4 Fl4) hZ (hw _ (List.mem_of_getElem? (i := 47) rfl)) (hw _ (List.mem_of_getElem? (i := 31) rfl)) (by decide) (by decide)) q5a q5c (g := (mkF m 18 #[.val (.int p1), .val (.int p2), .val (.ref b1), .val (.ref b3), .unset, .unset, .unset, .unset, .unset, .unset, .unset, .unset, .unset, .unset, .unset] [(.ref b3)])) rfl (by rw [hml]; rfl) (Steps.refl _) (argsL := []) (rest := []) (lenOf pd_0_2 rfl) rfl (by show 2 * 0 + _ ≤ _; exact Nat.le_of_eq rfl) (hb hby at_18) (fun _ _ => ⟨rfl, rfl, (by decide : 4 + 1 ≤ _), (by decide : 21 + 3 ≤ _)⟩)
  dsimp only [Pt.U, Pt.locs, Pt.cells, Pt.slots] at X5 l5 y5 z5 st5 hQ5
  subst l5 y5 z5
  obtain ⟨rfl, N5q, K5, Ev5, Fp5, Fl5⟩ := hQ5
  have N5 := Fr.app N4 N5q
  have E_b3_5 := E_b3_4.keep K5
  have F_b3_parent_5 := Fp4.keep K5 nin0
  have F_b3_libraries_5 := Fl4.keep K5 nin0
  have Z5 : n0 ≤ T5.heap.size := Nat.le_trans Z4 K5.1
  obtain ⟨c5, gc5⟩ : ∃ z, z = T4.heap.size := ⟨_, rfl⟩
  rw [← gc5] at st5 Ev5 Fp5 Fl5
  obtain ⟨cq6, kq6, q6a, q6b, q6c⟩ := isOf hZ rfl Ev5
  obtain ⟨_, _, ⟨T6, L6, k6, n6⟩, -, X6, ⟨Lc6, hQ6, l6, y6, z6⟩, st6⟩ := X5.virtualBack hx (y := (⟨"com/example/roteiro/roteiro/lang/Scope", "child", "()Lcom/example/roteiro/roteiro/lang/Scope;"⟩ : MethodName)) (z := (⟨"com/example/roteiro/roteiro/lang/Scope", "child", "()Lcom/example/roteiro/roteiro/lang/Scope;"⟩ : MethodName)) hown (mvT hZ (hw _ (List.mem_of_getElem? (i := 43) rfl))) (mvT hZ (hw _ (List.mem_of_getElem? (i := 44) rfl))) (notFace_of_selects (args := #[]) (mvT hZ (hw _ (List.mem_of_getElem? (i := 46) rfl)))) (mvT hZ (hw _ (List.mem_of_getElem? (i := 46) rfl))) (mvT hZ (hw _ (List.mem_of_getElem? (i := 45) rfl))) (by decide) (backOf (W := 0) (rmCh l Z a0 hw [] c5 b1 T5.heap n0 Z5 Fl5) hZ (hw _ (List.mem_of_getElem? (i := 47) rfl)) (hw _ (List.mem_of_getElem? (i := 31) rfl)) (by decide) (by decide)) q6a q6c (g := (mkF m 25 #[.val (.int p1), .val (.int p2), .val (.ref b1), .val (.ref b3), .val (.ref c5), .unset, .unset, .unset, .unset, .unset, .unset, .unset, .unset, .unset, .unset] [(.ref c5)])) rfl (by rw [hml]; rfl) (Steps.refl _) (argsL := []) (rest := []) (lenOf pd_0_2 rfl) rfl (by show 2 * 0 + _ ≤ _; exact Nat.le_of_eq rfl) (hb hby at_25) (fun _ _ => ⟨rfl, rfl, (by decide : 5 + 1 ≤ _), (by decide : 24 + 3 ≤ _)⟩)
  dsimp only [Pt.U, Pt.locs, Pt.cells, Pt.slots] at X6 l6 y6 z6 st6 hQ6
  subst l6 y6 z6
  obtain ⟨rfl, N6q, K6, Ev6, Fp6, Fl6⟩ := hQ6
  have N6 := Fr.app N5 N6q
  have E_b3_6 := E_b3_5.keep K6
  have F_b3_parent_6 := F_b3_parent_5.keep K6 nin0
  have F_b3_libraries_6 := F_b3_libraries_5.keep K6 nin0
  have E_c5_6 := Ev5.keep K6
  have F_c5_parent_6 := Fp5.keep K6 nin0
  have F_c5_libraries_6 := Fl5.keep K6 nin0
  have Z6 : n0 ≤ T6.heap.size := Nat.le_trans Z5 K6.1
  obtain ⟨c6, gc6⟩ : ∃ z, z = T5.heap.size := ⟨_, rfl⟩
  rw [← gc6] at st6 Ev6 Fp6 Fl6
  obtain ⟨cq7, kq7, q7a, q7b, q7c⟩ := isOf hZ rfl Ev6
  obtain ⟨_, _, ⟨T7, L7, k7, n7⟩, -, X7, ⟨Lc7, hQ7, l7, y7, z7⟩, st7⟩ := X6.virtualBack hx (y := (⟨"com/example/roteiro/roteiro/lang/Scope", "child", "()Lcom/example/roteiro/roteiro/lang/Scope;"⟩ : MethodName)) (z := (⟨"com/example/roteiro/roteiro/lang/Scope", "child", "()Lcom/example/roteiro/roteiro/lang/Scope;"⟩ : MethodName)) hown (mvT hZ (hw _ (List.mem_of_getElem? (i := 43) rfl))) (mvT hZ (hw _ (List.mem_of_getElem? (i := 44) rfl))) (notFace_of_selects (args := #[]) (mvT hZ (hw _ (List.mem_of_getElem? (i := 46) rfl)))) (mvT hZ (hw _ (List.mem_of_getElem? (i := 46) rfl))) (mvT hZ (hw _ (List.mem_of_getElem? (i := 45) rfl))) (by decide) (backOf (W := 0) (rmCh l Z a0 hw [] c6 b1 T6.heap n0 Z6 Fl6) hZ (hw _ (List.mem_of_getElem? (i := 47) rfl)) (hw _ (List.mem_of_getElem? (i := 31) rfl)) (by decide) (by decide)) q7a q7c (g := (mkF m 32 #[.val (.int p1), .val (.int p2), .val (.ref b1), .val (.ref b3), .val (.ref c5), .val (.ref c6), .unset, .unset, .unset, .unset, .unset, .unset, .unset, .unset, .unset] [(.ref c6)])) rfl (by rw [hml]; rfl) (Steps.refl _) (argsL := []) (rest := []) (lenOf pd_0_2 rfl) rfl (by show 2 * 0 + _ ≤ _; exact Nat.le_of_eq rfl) (hb hby at_32) (fun _ _ => ⟨rfl, rfl, (by decide : 6 + 1 ≤ _), (by decide : 27 + 3 ≤ _)⟩)
  dsimp only [Pt.U, Pt.locs, Pt.cells, Pt.slots] at X7 l7 y7 z7 st7 hQ7
  subst l7 y7 z7
  obtain ⟨rfl, N7q, K7, Ev7, Fp7, Fl7⟩ := hQ7
  have N7 := Fr.app N6 N7q
  have E_b3_7 := E_b3_6.keep K7
  have F_b3_parent_7 := F_b3_parent_6.keep K7 nin0
  have F_b3_libraries_7 := F_b3_libraries_6.keep K7 nin0
  have E_c5_7 := E_c5_6.keep K7
  have F_c5_parent_7 := F_c5_parent_6.keep K7 nin0
  have F_c5_libraries_7 := F_c5_libraries_6.keep K7 nin0
  have E_c6_7 := Ev6.keep K7
  have F_c6_parent_7 := Fp6.keep K7 nin0
  have F_c6_libraries_7 := Fl6.keep K7 nin0
  have Z7 : n0 ≤ T7.heap.size := Nat.le_trans Z6 K7.1
  obtain ⟨c7, gc7⟩ : ∃ z, z = T6.heap.size := ⟨_, rfl⟩
  rw [← gc7] at st7 Ev7 Fp7 Fl7
  obtain ⟨cq8, kq8, q8a, q8b, q8c⟩ := isOf hZ rfl Ev7
  obtain ⟨_, _, ⟨T8, L8, k8, n8⟩, -, X8, ⟨Lc8, hQ8, l8, y8, z8⟩, st8⟩ := X7.virtualBack hx (y := (⟨"com/example/roteiro/roteiro/lang/Scope", "root", "()Lcom/example/roteiro/roteiro/lang/Scope;"⟩ : MethodName)) (z := (⟨"com/example/roteiro/roteiro/lang/Scope", "root", "()Lcom/example/roteiro/roteiro/lang/Scope;"⟩ : MethodName)) hown (mvT hZ (hw _ (List.mem_of_getElem? (i := 49) rfl))) (mvT hZ (hw _ (List.mem_of_getElem? (i := 50) rfl))) (notFace_of_selects (args := #[]) (mvT hZ (hw _ (List.mem_of_getElem? (i := 52) rfl)))) (mvT hZ (hw _ (List.mem_of_getElem? (i := 52) rfl))) (mvT hZ (hw _ (List.mem_of_getElem? (i := 51) rfl))) (by decide) (backOf (W := 0) (rmRo3 l Z a0 hw [] c7 c6 c5 b3 T7.heap n0 Z7 Fp7 F_c6_parent_7 F_c5_parent_7 F_b3_parent_7) hZ (hw _ (List.mem_of_getElem? (i := 53) rfl)) (hw _ (List.mem_of_getElem? (i := 31) rfl)) (by decide) (by decide)) q8a q8c (g := (mkF m 85 #[.val (.int p1), .val (.int p2), .val (.ref b1), .val (.ref b3), .val (.ref c5), .val (.ref c6), .val (.ref c7), .val (.int (3 : Int32)), .val (.ref c7), .unset, .unset, .unset, .unset, .unset, .unset] [(.ref c7)])) rfl (by rw [hml]; rfl) (Steps.refl _) (argsL := []) (rest := []) (lenOf pd_0_2 rfl) rfl (by show 2 * 0 + _ ≤ _; exact Nat.le_of_eq rfl) (hb hby at_85) (fun _ _ => ⟨rfl, rfl, (by decide : 7 + 0 ≤ _), (by decide : 30 + 0 ≤ _)⟩)
  dsimp only [Pt.U, Pt.locs, Pt.cells, Pt.slots] at X8 l8 y8 z8 st8 hQ8
  subst l8 y8 z8
  obtain ⟨rfl, N8q, eh8⟩ := hQ8
  have N8 := Fr.app N7 N8q
  obtain ⟨cq9, kq9, q9a, q9b, q9c⟩ := isOf hZ eh8 E_b3_7
  obtain ⟨_, _, ⟨T9, L9, k9, n9⟩, -, X9, ⟨Lc9, hQ9, l9, y9, z9⟩, st9⟩ := X8.virtualBack hx (y := (⟨"com/example/roteiro/roteiro/lang/Scope", "root", "()Lcom/example/roteiro/roteiro/lang/Scope;"⟩ : MethodName)) (z := (⟨"com/example/roteiro/roteiro/lang/Scope", "root", "()Lcom/example/roteiro/roteiro/lang/Scope;"⟩ : MethodName)) hown (mvT hZ (hw _ (List.mem_of_getElem? (i := 49) rfl))) (mvT hZ (hw _ (List.mem_of_getElem? (i := 50) rfl))) (notFace_of_selects (args := #[]) (mvT hZ (hw _ (List.mem_of_getElem? (i := 52) rfl)))) (mvT hZ (hw _ (List.mem_of_getElem? (i := 52) rfl))) (mvT hZ (hw _ (List.mem_of_getElem? (i := 51) rfl))) (by decide) (backOf (W := 0) (rmRo0 l Z a0 hw [] b3 T7.heap n0 Z7 F_b3_parent_7) hZ (hw _ (List.mem_of_getElem? (i := 53) rfl)) (hw _ (List.mem_of_getElem? (i := 31) rfl)) (by decide) (by decide)) q9a q9c (g := (mkF m 98 #[.val (.int p1), .val (.int p2), .val (.ref b1), .val (.ref b3), .val (.ref c5), .val (.ref c6), .val (.ref c7), .val (.int (3 : Int32)), .val (.ref c7), .val (.ref b3), .unset, .unset, .unset, .unset, .unset] [(.ref b3)])) rfl (by rw [hml]; rfl) (Steps.refl _) (argsL := []) (rest := []) (lenOf pd_0_2 rfl) rfl (by show 2 * 0 + _ ≤ _; exact Nat.le_of_eq rfl) (hb hby at_98) (fun _ _ => ⟨rfl, eh8, (by decide : 7 + 0 ≤ _), (by decide : 30 + 0 ≤ _)⟩)
  dsimp only [Pt.U, Pt.locs, Pt.cells, Pt.slots] at X9 l9 y9 z9 st9 hQ9
  subst l9 y9 z9
  obtain ⟨rfl, N9q, eh9⟩ := hQ9
  have N9 := Fr.app N8 N9q
  obtain ⟨T10, h10, X10, e10, E10, A10, D10, -, st10⟩ := newO X9 hx hZ hown (hw _ (List.mem_of_getElem? (i := 29) rfl)) (hw _ (List.mem_of_getElem? (i := 30) rfl)) (hw _ (List.mem_of_getElem? (i := 31) rfl)) eh9 (g := (mkF m 112 #[.val (.int p1), .val (.int p2), .val (.ref b1), .val (.ref b3), .val (.ref c5), .val (.ref c6), .val (.ref c7), .val (.int (3 : Int32)), .val (.ref c7), .val (.ref b3), .val (.int (1 : Int32)), .unset, .unset, .unset, .unset] [])) rfl (hb hby at_112) (by decide) (by decide)
  obtain ⟨b10, g10⟩ : ∃ z, z = T7.heap.size := ⟨_, rfl⟩
  rw [← g10] at A10 D10 st10
  have gb10 : n0 ≤ b10 := Nat.le_trans Z7 (Nat.le_of_eq g10.symm)
  have ne_b3_b10 : b3 ≠ b10 := (Nat.ne_of_lt (Nat.lt_of_lt_of_le E_b3_7.lt (Nat.le_of_eq g10.symm)))
  have ne_c5_b10 : c5 ≠ b10 := (Nat.ne_of_lt (Nat.lt_of_lt_of_le E_c5_7.lt (Nat.le_of_eq g10.symm)))
  have ne_c6_b10 : c6 ≠ b10 := (Nat.ne_of_lt (Nat.lt_of_lt_of_le E_c6_7.lt (Nat.le_of_eq g10.symm)))
  have ne_c7_b10 : c7 ≠ b10 := (Nat.ne_of_lt (Nat.lt_of_lt_of_le Ev7.lt (Nat.le_of_eq g10.symm)))
  have E_b3_10 := E_b3_7.ext E10
  have F_b3_parent_10 := F_b3_parent_7.ext E10
  have F_b3_libraries_10 := F_b3_libraries_7.ext E10
  have E_c5_10 := E_c5_7.ext E10
  have F_c5_parent_10 := F_c5_parent_7.ext E10
  have F_c5_libraries_10 := F_c5_libraries_7.ext E10
  have E_c6_10 := E_c6_7.ext E10
  have F_c6_parent_10 := F_c6_parent_7.ext E10
  have F_c6_libraries_10 := F_c6_libraries_7.ext E10
  have E_c7_10 := Ev7.ext E10
  have F_c7_parent_10 := Fp7.ext E10
  have F_c7_libraries_10 := Fl7.ext E10
  have Z10 : n0 ≤ h10.size := Nat.le_trans Z7 E10.1
  have F_b10_parent_10 : Fld Z h10 b10 "com/example/roteiro/roteiro/lang/Scope" "parent" "Lcom/example/roteiro/roteiro/lang/Scope;" .null := D10 (Or.inr (hw _ (List.mem_of_getElem? (i := 40) rfl))) (ty := (.object "com/example/roteiro/roteiro/lang/Scope")) (by decide)
  have F_b10_libraries_10 : Fld Z h10 b10 "com/example/roteiro/roteiro/lang/Scope" "libraries" "Lcom/example/roteiro/roteiro/lang/Libraries;" .null := D10 (Or.inr (hw _ (List.mem_of_getElem? (i := 42) rfl))) (ty := (.object "com/example/roteiro/roteiro/lang/Libraries")) (by decide)
  obtain ⟨_, _, ⟨T11, L11, k11, n11⟩, -, X11, ⟨Lc11, hQ11, l11, y11, z11⟩, st11⟩ := X10.specialBack hx (y := (⟨"com/example/roteiro/roteiro/lang/Scope", "<init>", "(Lcom/example/roteiro/roteiro/lang/Libraries;)V"⟩ : MethodName)) rfl hown (mvT hZ (hw _ (List.mem_of_getElem? (i := 32) rfl))) (mvT hZ (hw _ (List.mem_of_getElem? (i := 33) rfl))) (mvT hZ (hw _ (List.mem_of_getElem? (i := 34) rfl))) (by decide) (backOf (W := 1) (rmI1 l Z a0 hw [] b10 b1 _ _ h10 n0 Z10 A10 F_b10_parent_10 F_b10_libraries_10 gb10) hZ (hw _ (List.mem_of_getElem? (i := 34) rfl)) (hw _ (List.mem_of_getElem? (i := 31) rfl)) (by decide) (by decide)) (g := (mkF m 117 #[.val (.int p1), .val (.int p2), .val (.ref b1), .val (.ref b3), .val (.ref c5), .val (.ref c6), .val (.ref c7), .val (.int (3 : Int32)), .val (.ref c7), .val (.ref b3), .val (.int (1 : Int32)), .unset, .unset, .unset, .unset] [(.ref b1), (.ref b10), (.ref b10)])) rfl (by rw [hml]; rfl) (Steps.refl _) (a := b10) (argsL := [(.ref b1)]) (rest := [(.ref b10)]) (lenOf pd_0_1 rfl) rfl (by show 2 * 0 + _ ≤ _; exact Nat.le_of_eq rfl) (hb hby at_117) (fun _ _ => ⟨rfl, e10, (by decide : 8 + 0 ≤ _), (by decide : 33 + 0 ≤ _)⟩)
  dsimp only [Pt.U, Pt.locs, Pt.cells, Pt.slots] at X11 l11 y11 z11 st11 hQ11
  subst l11 y11 z11
  obtain ⟨rfl, N11q, K11, Fp11, Fl11⟩ := hQ11
  have N11 := Fr.app N9 N11q
  have E_b3_11 := E_b3_10.keep K11
  have F_b3_parent_11 := F_b3_parent_10.keep K11 (ninS ne_b3_b10 nin0)
  have F_b3_libraries_11 := F_b3_libraries_10.keep K11 (ninS ne_b3_b10 nin0)
  have E_c5_11 := E_c5_10.keep K11
  have F_c5_parent_11 := F_c5_parent_10.keep K11 (ninS ne_c5_b10 nin0)
  have F_c5_libraries_11 := F_c5_libraries_10.keep K11 (ninS ne_c5_b10 nin0)
  have E_c6_11 := E_c6_10.keep K11
  have F_c6_parent_11 := F_c6_parent_10.keep K11 (ninS ne_c6_b10 nin0)
  have F_c6_libraries_11 := F_c6_libraries_10.keep K11 (ninS ne_c6_b10 nin0)
  have E_c7_11 := E_c7_10.keep K11
  have F_c7_parent_11 := F_c7_parent_10.keep K11 (ninS ne_c7_b10 nin0)
  have F_c7_libraries_11 := F_c7_libraries_10.keep K11 (ninS ne_c7_b10 nin0)
  have E_b10_11 := A10.keep K11
  have Z11 : n0 ≤ T11.heap.size := Nat.le_trans Z10 K11.1
  obtain ⟨cq12, kq12, q12a, q12b, q12c⟩ := isOf hZ rfl E_b10_11
  obtain ⟨_, _, ⟨T12, L12, k12, n12⟩, -, X12, ⟨Lc12, hQ12, l12, y12, z12⟩, st12⟩ := X11.virtualBack hx (y := (⟨"com/example/roteiro/roteiro/lang/Scope", "root", "()Lcom/example/roteiro/roteiro/lang/Scope;"⟩ : MethodName)) (z := (⟨"com/example/roteiro/roteiro/lang/Scope", "root", "()Lcom/example/roteiro/roteiro/lang/Scope;"⟩ : MethodName)) hown (mvT hZ (hw _ (List.mem_of_getElem? (i := 49) rfl))) (mvT hZ (hw _ (List.mem_of_getElem? (i := 50) rfl))) (notFace_of_selects (args := #[]) (mvT hZ (hw _ (List.mem_of_getElem? (i := 52) rfl)))) (mvT hZ (hw _ (List.mem_of_getElem? (i := 52) rfl))) (mvT hZ (hw _ (List.mem_of_getElem? (i := 51) rfl))) (by decide) (backOf (W := 0) (rmRo0 l Z a0 hw [] b10 T11.heap n0 Z11 Fp11) hZ (hw _ (List.mem_of_getElem? (i := 53) rfl)) (hw _ (List.mem_of_getElem? (i := 31) rfl)) (by decide) (by decide)) q12a q12c (g := (mkF m 142 #[.val (.int p1), .val (.int p2), .val (.ref b1), .val (.ref b3), .val (.ref c5), .val (.ref c6), .val (.ref c7), .val (.int (3 : Int32)), .val (.ref c7), .val (.ref b3), .val (.int (1 : Int32)), .val (.ref b10), .val (.ref b10), .unset, .unset] [(.ref b10)])) rfl (by rw [hml]; rfl) (Steps.refl _) (argsL := []) (rest := []) (lenOf pd_0_2 rfl) rfl (by show 2 * 0 + _ ≤ _; exact Nat.le_of_eq rfl) (hb hby at_142) (fun _ _ => ⟨rfl, rfl, (by decide : 8 + 0 ≤ _), (by decide : 33 + 0 ≤ _)⟩)
  dsimp only [Pt.U, Pt.locs, Pt.cells, Pt.slots] at X12 l12 y12 z12 st12 hQ12
  subst l12 y12 z12
  obtain ⟨rfl, N12q, eh12⟩ := hQ12
  have N12 := Fr.app N11 N12q
  obtain ⟨fs, hr, hrun, hended, hW, hsame⟩ := X12.leave (v := some (.int (1 : Int32))) (fun h => by rw [Bd.returns] at h; cases h)
  refine ⟨_, _, pre0 _ ?_, hrun, hended, _, _, rfl, ?_, ⟨_, rfl⟩, hW, hsame.mono (by decide) (by decide)⟩
  · show Steps p.tables e below (s₁.setTop (mkF m 0 #[.val (.int p1), .val (.int p2), .unset, .unset, .unset, .unset, .unset, .unset, .unset, .unset, .unset, .unset, .unset, .unset, .unset] [])) _
    refine st1 _ ?_
    show Steps p.tables e below (T1.setTop (mkF m 3 #[.val (.int p1), .val (.int p2), .unset, .unset, .unset, .unset, .unset, .unset, .unset, .unset, .unset, .unset, .unset, .unset, .unset] [(.ref b1)])) _
    refine XS.dup X1.here hx rfl (hb hby at_3) rfl rfl ?_
    show Steps p.tables e below (T1.setTop (mkF m 4 #[.val (.int p1), .val (.int p2), .unset, .unset, .unset, .unset, .unset, .unset, .unset, .unset, .unset, .unset, .unset, .unset, .unset] [(.ref b1), (.ref b1)])) _
    refine st2.trans ?_
    show Steps p.tables e below (T2.setTop (mkF m 7 #[.val (.int p1), .val (.int p2), .unset, .unset, .unset, .unset, .unset, .unset, .unset, .unset, .unset, .unset, .unset, .unset, .unset] [(.ref b1)])) _
    refine XS.astoreN X2.here hx rfl (hb hby at_7) rfl rfl (l' := #[.val (.int p1), .val (.int p2), .val (.ref b1), .unset, .unset, .unset, .unset, .unset, .unset, .unset, .unset, .unset, .unset, .unset, .unset]) rfl ?_
    show Steps p.tables e below (T2.setTop (mkF m 8 #[.val (.int p1), .val (.int p2), .val (.ref b1), .unset, .unset, .unset, .unset, .unset, .unset, .unset, .unset, .unset, .unset, .unset, .unset] [])) _
    refine st3 _ ?_
    show Steps p.tables e below (T3.setTop (mkF m 11 #[.val (.int p1), .val (.int p2), .val (.ref b1), .unset, .unset, .unset, .unset, .unset, .unset, .unset, .unset, .unset, .unset, .unset, .unset] [(.ref b3)])) _
    refine XS.dup X3.here hx rfl (hb hby at_11) rfl rfl ?_
    show Steps p.tables e below (T3.setTop (mkF m 12 #[.val (.int p1), .val (.int p2), .val (.ref b1), .unset, .unset, .unset, .unset, .unset, .unset, .unset, .unset, .unset, .unset, .unset, .unset] [(.ref b3), (.ref b3)])) _
    refine XS.aloadN X3.here hx rfl (hb hby at_12) rfl rfl ?_
    show Steps p.tables e below (T3.setTop (mkF m 13 #[.val (.int p1), .val (.int p2), .val (.ref b1), .unset, .unset, .unset, .unset, .unset, .unset, .unset, .unset, .unset, .unset, .unset, .unset] [(.ref b1), (.ref b3), (.ref b3)])) _
    refine st4.trans ?_
    show Steps p.tables e below (T4.setTop (mkF m 16 #[.val (.int p1), .val (.int p2), .val (.ref b1), .unset, .unset, .unset, .unset, .unset, .unset, .unset, .unset, .unset, .unset, .unset, .unset] [(.ref b3)])) _
    refine XS.astoreN X4.here hx rfl (hb hby at_16) rfl rfl (l' := #[.val (.int p1), .val (.int p2), .val (.ref b1), .val (.ref b3), .unset, .unset, .unset, .unset, .unset, .unset, .unset, .unset, .unset, .unset, .unset]) rfl ?_
    show Steps p.tables e below (T4.setTop (mkF m 17 #[.val (.int p1), .val (.int p2), .val (.ref b1), .val (.ref b3), .unset, .unset, .unset, .unset, .unset, .unset, .unset, .unset, .unset, .unset, .unset] [])) _
    refine XS.aloadN X4.here hx rfl (hb hby at_17) rfl rfl ?_
    show Steps p.tables e below (T4.setTop (mkF m 18 #[.val (.int p1), .val (.int p2), .val (.ref b1), .val (.ref b3), .unset, .unset, .unset, .unset, .unset, .unset, .unset, .unset, .unset, .unset, .unset] [(.ref b3)])) _
    refine st5.trans ?_
    show Steps p.tables e below (T5.setTop (mkF m 21 #[.val (.int p1), .val (.int p2), .val (.ref b1), .val (.ref b3), .unset, .unset, .unset, .unset, .unset, .unset, .unset, .unset, .unset, .unset, .unset] [(.ref c5)])) _
    refine XS.astore X5.here hx rfl (hb hby at_21) rfl rfl (l' := #[.val (.int p1), .val (.int p2), .val (.ref b1), .val (.ref b3), .val (.ref c5), .unset, .unset, .unset, .unset, .unset, .unset, .unset, .unset, .unset, .unset]) rfl ?_
    show Steps p.tables e below (T5.setTop (mkF m 23 #[.val (.int p1), .val (.int p2), .val (.ref b1), .val (.ref b3), .val (.ref c5), .unset, .unset, .unset, .unset, .unset, .unset, .unset, .unset, .unset, .unset] [])) _
    refine XS.aload X5.here hx rfl (hb hby at_23) rfl rfl ?_
    show Steps p.tables e below (T5.setTop (mkF m 25 #[.val (.int p1), .val (.int p2), .val (.ref b1), .val (.ref b3), .val (.ref c5), .unset, .unset, .unset, .unset, .unset, .unset, .unset, .unset, .unset, .unset] [(.ref c5)])) _
    refine st6.trans ?_
    show Steps p.tables e below (T6.setTop (mkF m 28 #[.val (.int p1), .val (.int p2), .val (.ref b1), .val (.ref b3), .val (.ref c5), .unset, .unset, .unset, .unset, .unset, .unset, .unset, .unset, .unset, .unset] [(.ref c6)])) _
    refine XS.astore X6.here hx rfl (hb hby at_28) rfl rfl (l' := #[.val (.int p1), .val (.int p2), .val (.ref b1), .val (.ref b3), .val (.ref c5), .val (.ref c6), .unset, .unset, .unset, .unset, .unset, .unset, .unset, .unset, .unset]) rfl ?_
    show Steps p.tables e below (T6.setTop (mkF m 30 #[.val (.int p1), .val (.int p2), .val (.ref b1), .val (.ref b3), .val (.ref c5), .val (.ref c6), .unset, .unset, .unset, .unset, .unset, .unset, .unset, .unset, .unset] [])) _
    refine XS.aload X6.here hx rfl (hb hby at_30) rfl rfl ?_
    show Steps p.tables e below (T6.setTop (mkF m 32 #[.val (.int p1), .val (.int p2), .val (.ref b1), .val (.ref b3), .val (.ref c5), .val (.ref c6), .unset, .unset, .unset, .unset, .unset, .unset, .unset, .unset, .unset] [(.ref c6)])) _
    refine st7.trans ?_
    show Steps p.tables e below (T7.setTop (mkF m 35 #[.val (.int p1), .val (.int p2), .val (.ref b1), .val (.ref b3), .val (.ref c5), .val (.ref c6), .unset, .unset, .unset, .unset, .unset, .unset, .unset, .unset, .unset] [(.ref c7)])) _
    refine XS.astore X7.here hx rfl (hb hby at_35) rfl rfl (l' := #[.val (.int p1), .val (.int p2), .val (.ref b1), .val (.ref b3), .val (.ref c5), .val (.ref c6), .val (.ref c7), .unset, .unset, .unset, .unset, .unset, .unset, .unset, .unset]) rfl ?_
    show Steps p.tables e below (T7.setTop (mkF m 37 #[.val (.int p1), .val (.int p2), .val (.ref b1), .val (.ref b3), .val (.ref c5), .val (.ref c6), .val (.ref c7), .unset, .unset, .unset, .unset, .unset, .unset, .unset, .unset] [])) _
    refine XS.iloadN X7.here hx rfl (hb hby at_37) rfl ?_
    show Steps p.tables e below (T7.setTop (mkF m 38 #[.val (.int p1), .val (.int p2), .val (.ref b1), .val (.ref b3), .val (.ref c5), .val (.ref c6), .val (.ref c7), .unset, .unset, .unset, .unset, .unset, .unset, .unset, .unset] [(.int p1)])) _
    refine XS.iconst X7.here hx rfl (hb hby at_38) ?_
    show Steps p.tables e below (T7.setTop (mkF m 39 #[.val (.int p1), .val (.int p2), .val (.ref b1), .val (.ref b3), .val (.ref c5), .val (.ref c6), .val (.ref c7), .unset, .unset, .unset, .unset, .unset, .unset, .unset, .unset] [(.int (3 : Int32)), (.int p1)])) _
    refine XS.iand X7.here hx rfl (hb hby at_39) rfl ?_
    show Steps p.tables e below (T7.setTop (mkF m 40 #[.val (.int p1), .val (.int p2), .val (.ref b1), .val (.ref b3), .val (.ref c5), .val (.ref c6), .val (.ref c7), .unset, .unset, .unset, .unset, .unset, .unset, .unset, .unset] [(.int (p1 &&& (3 : Int32)))])) _
    rw [hd]
    show Steps p.tables e below (T7.setTop (mkF m 40 #[.val (.int p1), .val (.int p2), .val (.ref b1), .val (.ref b3), .val (.ref c5), .val (.ref c6), .val (.ref c7), .unset, .unset, .unset, .unset, .unset, .unset, .unset, .unset] [(.int (3 : Int32))])) _
    refine XS.istore X7.here hx rfl (hb hby at_40) rfl (l' := #[.val (.int p1), .val (.int p2), .val (.ref b1), .val (.ref b3), .val (.ref c5), .val (.ref c6), .val (.ref c7), .val (.int (3 : Int32)), .unset, .unset, .unset, .unset, .unset, .unset, .unset]) rfl ?_
    show Steps p.tables e below (T7.setTop (mkF m 42 #[.val (.int p1), .val (.int p2), .val (.ref b1), .val (.ref b3), .val (.ref c5), .val (.ref c6), .val (.ref c7), .val (.int (3 : Int32)), .unset, .unset, .unset, .unset, .unset, .unset, .unset] [])) _
    refine XS.iload X7.here hx rfl (hb hby at_42) rfl ?_
    show Steps p.tables e below (T7.setTop (mkF m 44 #[.val (.int p1), .val (.int p2), .val (.ref b1), .val (.ref b3), .val (.ref c5), .val (.ref c6), .val (.ref c7), .val (.int (3 : Int32)), .unset, .unset, .unset, .unset, .unset, .unset, .unset] [(.int (3 : Int32))])) _
    refine XS.ifYes X7.here hx rfl (pc0 := 44) (pc' := 53) rfl (hb hby at_44) rfl ((if0 _ _).trans (feq ((by decide) : ¬ ((3 : Int32) = (0 : Int32)))).2) (by decide) (by decide) ?_
    show Steps p.tables e below (T7.setTop (mkF m 53 #[.val (.int p1), .val (.int p2), .val (.ref b1), .val (.ref b3), .val (.ref c5), .val (.ref c6), .val (.ref c7), .val (.int (3 : Int32)), .unset, .unset, .unset, .unset, .unset, .unset, .unset] [])) _
    refine XS.iload X7.here hx rfl (hb hby at_53) rfl ?_
    show Steps p.tables e below (T7.setTop (mkF m 55 #[.val (.int p1), .val (.int p2), .val (.ref b1), .val (.ref b3), .val (.ref c5), .val (.ref c6), .val (.ref c7), .val (.int (3 : Int32)), .unset, .unset, .unset, .unset, .unset, .unset, .unset] [(.int (3 : Int32))])) _
    refine XS.iconst X7.here hx rfl (hb hby at_55) ?_
    show Steps p.tables e below (T7.setTop (mkF m 56 #[.val (.int p1), .val (.int p2), .val (.ref b1), .val (.ref b3), .val (.ref c5), .val (.ref c6), .val (.ref c7), .val (.int (3 : Int32)), .unset, .unset, .unset, .unset, .unset, .unset, .unset] [(.int (1 : Int32)), (.int (3 : Int32))])) _
    refine XS.icmpYes X7.here hx rfl (pc0 := 56) (pc' := 66) rfl (hb hby at_56) rfl (feq ((by decide) : ¬ ((3 : Int32) = (1 : Int32)))).2 (by decide) (by decide) ?_
    show Steps p.tables e below (T7.setTop (mkF m 66 #[.val (.int p1), .val (.int p2), .val (.ref b1), .val (.ref b3), .val (.ref c5), .val (.ref c6), .val (.ref c7), .val (.int (3 : Int32)), .unset, .unset, .unset, .unset, .unset, .unset, .unset] [])) _
    refine XS.iload X7.here hx rfl (hb hby at_66) rfl ?_
    show Steps p.tables e below (T7.setTop (mkF m 68 #[.val (.int p1), .val (.int p2), .val (.ref b1), .val (.ref b3), .val (.ref c5), .val (.ref c6), .val (.ref c7), .val (.int (3 : Int32)), .unset, .unset, .unset, .unset, .unset, .unset, .unset] [(.int (3 : Int32))])) _
    refine XS.iconst X7.here hx rfl (hb hby at_68) ?_
    show Steps p.tables e below (T7.setTop (mkF m 69 #[.val (.int p1), .val (.int p2), .val (.ref b1), .val (.ref b3), .val (.ref c5), .val (.ref c6), .val (.ref c7), .val (.int (3 : Int32)), .unset, .unset, .unset, .unset, .unset, .unset, .unset] [(.int (2 : Int32)), (.int (3 : Int32))])) _
    refine XS.icmpYes X7.here hx rfl (pc0 := 69) (pc' := 79) rfl (hb hby at_69) rfl (feq ((by decide) : ¬ ((3 : Int32) = (2 : Int32)))).2 (by decide) (by decide) ?_
    show Steps p.tables e below (T7.setTop (mkF m 79 #[.val (.int p1), .val (.int p2), .val (.ref b1), .val (.ref b3), .val (.ref c5), .val (.ref c6), .val (.ref c7), .val (.int (3 : Int32)), .unset, .unset, .unset, .unset, .unset, .unset, .unset] [])) _
    refine XS.aload X7.here hx rfl (hb hby at_79) rfl rfl ?_
    show Steps p.tables e below (T7.setTop (mkF m 81 #[.val (.int p1), .val (.int p2), .val (.ref b1), .val (.ref b3), .val (.ref c5), .val (.ref c6), .val (.ref c7), .val (.int (3 : Int32)), .unset, .unset, .unset, .unset, .unset, .unset, .unset] [(.ref c7)])) _
    refine XS.astore X7.here hx rfl (hb hby at_81) rfl rfl (l' := #[.val (.int p1), .val (.int p2), .val (.ref b1), .val (.ref b3), .val (.ref c5), .val (.ref c6), .val (.ref c7), .val (.int (3 : Int32)), .val (.ref c7), .unset, .unset, .unset, .unset, .unset, .unset]) rfl ?_
    show Steps p.tables e below (T7.setTop (mkF m 83 #[.val (.int p1), .val (.int p2), .val (.ref b1), .val (.ref b3), .val (.ref c5), .val (.ref c6), .val (.ref c7), .val (.int (3 : Int32)), .val (.ref c7), .unset, .unset, .unset, .unset, .unset, .unset] [])) _
    refine XS.aload X7.here hx rfl (hb hby at_83) rfl rfl ?_
    show Steps p.tables e below (T7.setTop (mkF m 85 #[.val (.int p1), .val (.int p2), .val (.ref b1), .val (.ref b3), .val (.ref c5), .val (.ref c6), .val (.ref c7), .val (.int (3 : Int32)), .val (.ref c7), .unset, .unset, .unset, .unset, .unset, .unset] [(.ref c7)])) _
    refine st8.trans ?_
    show Steps p.tables e below (T8.setTop (mkF m 88 #[.val (.int p1), .val (.int p2), .val (.ref b1), .val (.ref b3), .val (.ref c5), .val (.ref c6), .val (.ref c7), .val (.int (3 : Int32)), .val (.ref c7), .unset, .unset, .unset, .unset, .unset, .unset] [(.ref b3)])) _
    refine XS.astore X8.here hx rfl (hb hby at_88) rfl rfl (l' := #[.val (.int p1), .val (.int p2), .val (.ref b1), .val (.ref b3), .val (.ref c5), .val (.ref c6), .val (.ref c7), .val (.int (3 : Int32)), .val (.ref c7), .val (.ref b3), .unset, .unset, .unset, .unset, .unset]) rfl ?_
    show Steps p.tables e below (T8.setTop (mkF m 90 #[.val (.int p1), .val (.int p2), .val (.ref b1), .val (.ref b3), .val (.ref c5), .val (.ref c6), .val (.ref c7), .val (.int (3 : Int32)), .val (.ref c7), .val (.ref b3), .unset, .unset, .unset, .unset, .unset] [])) _
    refine XS.aload X8.here hx rfl (hb hby at_90) rfl rfl ?_
    show Steps p.tables e below (T8.setTop (mkF m 92 #[.val (.int p1), .val (.int p2), .val (.ref b1), .val (.ref b3), .val (.ref c5), .val (.ref c6), .val (.ref c7), .val (.int (3 : Int32)), .val (.ref c7), .val (.ref b3), .unset, .unset, .unset, .unset, .unset] [(.ref b3)])) _
    refine XS.aloadN X8.here hx rfl (hb hby at_92) rfl rfl ?_
    show Steps p.tables e below (T8.setTop (mkF m 93 #[.val (.int p1), .val (.int p2), .val (.ref b1), .val (.ref b3), .val (.ref c5), .val (.ref c6), .val (.ref c7), .val (.int (3 : Int32)), .val (.ref c7), .val (.ref b3), .unset, .unset, .unset, .unset, .unset] [(.ref b3), (.ref b3)])) _
    refine Jvm.RoadKit.acmp (g := (mkF m 93 #[.val (.int p1), .val (.int p2), .val (.ref b1), .val (.ref b3), .val (.ref c5), .val (.ref c6), .val (.ref c7), .val (.int (3 : Int32)), .val (.ref c7), .val (.ref b3), .unset, .unset, .unset, .unset, .unset] [(.ref b3), (.ref b3)])) X8 hx rfl rfl rfl (pc0 := 93) (pc' := 96) (same := true) rfl (hb hby at_93) rfl (decide_eq_true rfl) (by decide) (by decide) ?_
    show Steps p.tables e below (T8.setTop (mkF m 96 #[.val (.int p1), .val (.int p2), .val (.ref b1), .val (.ref b3), .val (.ref c5), .val (.ref c6), .val (.ref c7), .val (.int (3 : Int32)), .val (.ref c7), .val (.ref b3), .unset, .unset, .unset, .unset, .unset] [])) _
    refine XS.aload X8.here hx rfl (hb hby at_96) rfl rfl ?_
    show Steps p.tables e below (T8.setTop (mkF m 98 #[.val (.int p1), .val (.int p2), .val (.ref b1), .val (.ref b3), .val (.ref c5), .val (.ref c6), .val (.ref c7), .val (.int (3 : Int32)), .val (.ref c7), .val (.ref b3), .unset, .unset, .unset, .unset, .unset] [(.ref b3)])) _
    refine st9.trans ?_
    show Steps p.tables e below (T9.setTop (mkF m 101 #[.val (.int p1), .val (.int p2), .val (.ref b1), .val (.ref b3), .val (.ref c5), .val (.ref c6), .val (.ref c7), .val (.int (3 : Int32)), .val (.ref c7), .val (.ref b3), .unset, .unset, .unset, .unset, .unset] [(.ref b3)])) _
    refine XS.aloadN X9.here hx rfl (hb hby at_101) rfl rfl ?_
    show Steps p.tables e below (T9.setTop (mkF m 102 #[.val (.int p1), .val (.int p2), .val (.ref b1), .val (.ref b3), .val (.ref c5), .val (.ref c6), .val (.ref c7), .val (.int (3 : Int32)), .val (.ref c7), .val (.ref b3), .unset, .unset, .unset, .unset, .unset] [(.ref b3), (.ref b3)])) _
    refine Jvm.RoadKit.acmp (g := (mkF m 102 #[.val (.int p1), .val (.int p2), .val (.ref b1), .val (.ref b3), .val (.ref c5), .val (.ref c6), .val (.ref c7), .val (.int (3 : Int32)), .val (.ref c7), .val (.ref b3), .unset, .unset, .unset, .unset, .unset] [(.ref b3), (.ref b3)])) X9 hx rfl rfl rfl (pc0 := 102) (pc' := 105) (same := true) rfl (hb hby at_102) rfl (decide_eq_true rfl) (by decide) (by decide) ?_
    show Steps p.tables e below (T9.setTop (mkF m 105 #[.val (.int p1), .val (.int p2), .val (.ref b1), .val (.ref b3), .val (.ref c5), .val (.ref c6), .val (.ref c7), .val (.int (3 : Int32)), .val (.ref c7), .val (.ref b3), .unset, .unset, .unset, .unset, .unset] [])) _
    refine XS.iconst X9.here hx rfl (hb hby at_105) ?_
    show Steps p.tables e below (T9.setTop (mkF m 106 #[.val (.int p1), .val (.int p2), .val (.ref b1), .val (.ref b3), .val (.ref c5), .val (.ref c6), .val (.ref c7), .val (.int (3 : Int32)), .val (.ref c7), .val (.ref b3), .unset, .unset, .unset, .unset, .unset] [(.int (1 : Int32))])) _
    refine XS.goto X9.here hx rfl (pc0 := 106) (pc' := 110) rfl (hb hby at_106) (by decide) (by decide) ?_
    show Steps p.tables e below (T9.setTop (mkF m 110 #[.val (.int p1), .val (.int p2), .val (.ref b1), .val (.ref b3), .val (.ref c5), .val (.ref c6), .val (.ref c7), .val (.int (3 : Int32)), .val (.ref c7), .val (.ref b3), .unset, .unset, .unset, .unset, .unset] [(.int (1 : Int32))])) _
    refine XS.istore X9.here hx rfl (hb hby at_110) rfl (l' := #[.val (.int p1), .val (.int p2), .val (.ref b1), .val (.ref b3), .val (.ref c5), .val (.ref c6), .val (.ref c7), .val (.int (3 : Int32)), .val (.ref c7), .val (.ref b3), .val (.int (1 : Int32)), .unset, .unset, .unset, .unset]) rfl ?_
    show Steps p.tables e below (T9.setTop (mkF m 112 #[.val (.int p1), .val (.int p2), .val (.ref b1), .val (.ref b3), .val (.ref c5), .val (.ref c6), .val (.ref c7), .val (.int (3 : Int32)), .val (.ref c7), .val (.ref b3), .val (.int (1 : Int32)), .unset, .unset, .unset, .unset] [])) _
    refine st10 _ ?_
    show Steps p.tables e below (T10.setTop (mkF m 115 #[.val (.int p1), .val (.int p2), .val (.ref b1), .val (.ref b3), .val (.ref c5), .val (.ref c6), .val (.ref c7), .val (.int (3 : Int32)), .val (.ref c7), .val (.ref b3), .val (.int (1 : Int32)), .unset, .unset, .unset, .unset] [(.ref b10)])) _
    refine XS.dup X10.here hx rfl (hb hby at_115) rfl rfl ?_
    show Steps p.tables e below (T10.setTop (mkF m 116 #[.val (.int p1), .val (.int p2), .val (.ref b1), .val (.ref b3), .val (.ref c5), .val (.ref c6), .val (.ref c7), .val (.int (3 : Int32)), .val (.ref c7), .val (.ref b3), .val (.int (1 : Int32)), .unset, .unset, .unset, .unset] [(.ref b10), (.ref b10)])) _
    refine XS.aloadN X10.here hx rfl (hb hby at_116) rfl rfl ?_
    show Steps p.tables e below (T10.setTop (mkF m 117 #[.val (.int p1), .val (.int p2), .val (.ref b1), .val (.ref b3), .val (.ref c5), .val (.ref c6), .val (.ref c7), .val (.int (3 : Int32)), .val (.ref c7), .val (.ref b3), .val (.int (1 : Int32)), .unset, .unset, .unset, .unset] [(.ref b1), (.ref b10), (.ref b10)])) _
    refine st11.trans ?_
    show Steps p.tables e below (T11.setTop (mkF m 120 #[.val (.int p1), .val (.int p2), .val (.ref b1), .val (.ref b3), .val (.ref c5), .val (.ref c6), .val (.ref c7), .val (.int (3 : Int32)), .val (.ref c7), .val (.ref b3), .val (.int (1 : Int32)), .unset, .unset, .unset, .unset] [(.ref b10)])) _
    refine XS.astore X11.here hx rfl (hb hby at_120) rfl rfl (l' := #[.val (.int p1), .val (.int p2), .val (.ref b1), .val (.ref b3), .val (.ref c5), .val (.ref c6), .val (.ref c7), .val (.int (3 : Int32)), .val (.ref c7), .val (.ref b3), .val (.int (1 : Int32)), .val (.ref b10), .unset, .unset, .unset]) rfl ?_
    show Steps p.tables e below (T11.setTop (mkF m 122 #[.val (.int p1), .val (.int p2), .val (.ref b1), .val (.ref b3), .val (.ref c5), .val (.ref c6), .val (.ref c7), .val (.int (3 : Int32)), .val (.ref c7), .val (.ref b3), .val (.int (1 : Int32)), .val (.ref b10), .unset, .unset, .unset] [])) _
    refine XS.iloadN X11.here hx rfl (hb hby at_122) rfl ?_
    show Steps p.tables e below (T11.setTop (mkF m 123 #[.val (.int p1), .val (.int p2), .val (.ref b1), .val (.ref b3), .val (.ref c5), .val (.ref c6), .val (.ref c7), .val (.int (3 : Int32)), .val (.ref c7), .val (.ref b3), .val (.int (1 : Int32)), .val (.ref b10), .unset, .unset, .unset] [(.int p2)])) _
    refine XS.iconst X11.here hx rfl (hb hby at_123) ?_
    show Steps p.tables e below (T11.setTop (mkF m 124 #[.val (.int p1), .val (.int p2), .val (.ref b1), .val (.ref b3), .val (.ref c5), .val (.ref c6), .val (.ref c7), .val (.int (3 : Int32)), .val (.ref c7), .val (.ref b3), .val (.int (1 : Int32)), .val (.ref b10), .unset, .unset, .unset] [(.int (1 : Int32)), (.int p2)])) _
    refine XS.iand X11.here hx rfl (hb hby at_124) rfl ?_
    show Steps p.tables e below (T11.setTop (mkF m 125 #[.val (.int p1), .val (.int p2), .val (.ref b1), .val (.ref b3), .val (.ref c5), .val (.ref c6), .val (.ref c7), .val (.int (3 : Int32)), .val (.ref c7), .val (.ref b3), .val (.int (1 : Int32)), .val (.ref b10), .unset, .unset, .unset] [(.int (p2 &&& (1 : Int32)))])) _
    refine XS.ifYes X11.here hx rfl (pc0 := 125) (pc' := 136) rfl (hb hby at_125) rfl ((if0 _ _).trans (teq (hc125 : (p2 &&& (1 : Int32)) = (0 : Int32))).1) (by decide) (by decide) ?_
    show Steps p.tables e below (T11.setTop (mkF m 136 #[.val (.int p1), .val (.int p2), .val (.ref b1), .val (.ref b3), .val (.ref c5), .val (.ref c6), .val (.ref c7), .val (.int (3 : Int32)), .val (.ref c7), .val (.ref b3), .val (.int (1 : Int32)), .val (.ref b10), .unset, .unset, .unset] [])) _
    refine XS.aload X11.here hx rfl (hb hby at_136) rfl rfl ?_
    show Steps p.tables e below (T11.setTop (mkF m 138 #[.val (.int p1), .val (.int p2), .val (.ref b1), .val (.ref b3), .val (.ref c5), .val (.ref c6), .val (.ref c7), .val (.int (3 : Int32)), .val (.ref c7), .val (.ref b3), .val (.int (1 : Int32)), .val (.ref b10), .unset, .unset, .unset] [(.ref b10)])) _
    refine XS.astore X11.here hx rfl (hb hby at_138) rfl rfl (l' := #[.val (.int p1), .val (.int p2), .val (.ref b1), .val (.ref b3), .val (.ref c5), .val (.ref c6), .val (.ref c7), .val (.int (3 : Int32)), .val (.ref c7), .val (.ref b3), .val (.int (1 : Int32)), .val (.ref b10), .val (.ref b10), .unset, .unset]) rfl ?_
    show Steps p.tables e below (T11.setTop (mkF m 140 #[.val (.int p1), .val (.int p2), .val (.ref b1), .val (.ref b3), .val (.ref c5), .val (.ref c6), .val (.ref c7), .val (.int (3 : Int32)), .val (.ref c7), .val (.ref b3), .val (.int (1 : Int32)), .val (.ref b10), .val (.ref b10), .unset, .unset] [])) _
    refine XS.aload X11.here hx rfl (hb hby at_140) rfl rfl ?_
    show Steps p.tables e below (T11.setTop (mkF m 142 #[.val (.int p1), .val (.int p2), .val (.ref b1), .val (.ref b3), .val (.ref c5), .val (.ref c6), .val (.ref c7), .val (.int (3 : Int32)), .val (.ref c7), .val (.ref b3), .val (.int (1 : Int32)), .val (.ref b10), .val (.ref b10), .unset, .unset] [(.ref b10)])) _
    refine st12.trans ?_
    show Steps p.tables e below (T12.setTop (mkF m 145 #[.val (.int p1), .val (.int p2), .val (.ref b1), .val (.ref b3), .val (.ref c5), .val (.ref c6), .val (.ref c7), .val (.int (3 : Int32)), .val (.ref c7), .val (.ref b3), .val (.int (1 : Int32)), .val (.ref b10), .val (.ref b10), .unset, .unset] [(.ref b10)])) _
    refine XS.astore X12.here hx rfl (hb hby at_145) rfl rfl (l' := #[.val (.int p1), .val (.int p2), .val (.ref b1), .val (.ref b3), .val (.ref c5), .val (.ref c6), .val (.ref c7), .val (.int (3 : Int32)), .val (.ref c7), .val (.ref b3), .val (.int (1 : Int32)), .val (.ref b10), .val (.ref b10), .val (.ref b10), .unset]) rfl ?_
    show Steps p.tables e below (T12.setTop (mkF m 147 #[.val (.int p1), .val (.int p2), .val (.ref b1), .val (.ref b3), .val (.ref c5), .val (.ref c6), .val (.ref c7), .val (.int (3 : Int32)), .val (.ref c7), .val (.ref b3), .val (.int (1 : Int32)), .val (.ref b10), .val (.ref b10), .val (.ref b10), .unset] [])) _
    refine XS.aload X12.here hx rfl (hb hby at_147) rfl rfl ?_
    show Steps p.tables e below (T12.setTop (mkF m 149 #[.val (.int p1), .val (.int p2), .val (.ref b1), .val (.ref b3), .val (.ref c5), .val (.ref c6), .val (.ref c7), .val (.int (3 : Int32)), .val (.ref c7), .val (.ref b3), .val (.int (1 : Int32)), .val (.ref b10), .val (.ref b10), .val (.ref b10), .unset] [(.ref b10)])) _
    refine XS.aload X12.here hx rfl (hb hby at_149) rfl rfl ?_
    show Steps p.tables e below (T12.setTop (mkF m 151 #[.val (.int p1), .val (.int p2), .val (.ref b1), .val (.ref b3), .val (.ref c5), .val (.ref c6), .val (.ref c7), .val (.int (3 : Int32)), .val (.ref c7), .val (.ref b3), .val (.int (1 : Int32)), .val (.ref b10), .val (.ref b10), .val (.ref b10), .unset] [(.ref b10), (.ref b10)])) _
    refine Jvm.RoadKit.acmp (g := (mkF m 151 #[.val (.int p1), .val (.int p2), .val (.ref b1), .val (.ref b3), .val (.ref c5), .val (.ref c6), .val (.ref c7), .val (.int (3 : Int32)), .val (.ref c7), .val (.ref b3), .val (.int (1 : Int32)), .val (.ref b10), .val (.ref b10), .val (.ref b10), .unset] [(.ref b10), (.ref b10)])) X12 hx rfl rfl rfl (pc0 := 151) (pc' := 154) (same := true) rfl (hb hby at_151) rfl (decide_eq_true rfl) (by decide) (by decide) ?_
    show Steps p.tables e below (T12.setTop (mkF m 154 #[.val (.int p1), .val (.int p2), .val (.ref b1), .val (.ref b3), .val (.ref c5), .val (.ref c6), .val (.ref c7), .val (.int (3 : Int32)), .val (.ref c7), .val (.ref b3), .val (.int (1 : Int32)), .val (.ref b10), .val (.ref b10), .val (.ref b10), .unset] [])) _
    refine XS.aload X12.here hx rfl (hb hby at_154) rfl rfl ?_
    show Steps p.tables e below (T12.setTop (mkF m 156 #[.val (.int p1), .val (.int p2), .val (.ref b1), .val (.ref b3), .val (.ref c5), .val (.ref c6), .val (.ref c7), .val (.int (3 : Int32)), .val (.ref c7), .val (.ref b3), .val (.int (1 : Int32)), .val (.ref b10), .val (.ref b10), .val (.ref b10), .unset] [(.ref b10)])) _
    refine XS.aloadN X12.here hx rfl (hb hby at_156) rfl rfl ?_
    show Steps p.tables e below (T12.setTop (mkF m 157 #[.val (.int p1), .val (.int p2), .val (.ref b1), .val (.ref b3), .val (.ref c5), .val (.ref c6), .val (.ref c7), .val (.int (3 : Int32)), .val (.ref c7), .val (.ref b3), .val (.int (1 : Int32)), .val (.ref b10), .val (.ref b10), .val (.ref b10), .unset] [(.ref b3), (.ref b10)])) _
    refine Jvm.RoadKit.acmp (g := (mkF m 157 #[.val (.int p1), .val (.int p2), .val (.ref b1), .val (.ref b3), .val (.ref c5), .val (.ref c6), .val (.ref c7), .val (.int (3 : Int32)), .val (.ref c7), .val (.ref b3), .val (.int (1 : Int32)), .val (.ref b10), .val (.ref b10), .val (.ref b10), .unset] [(.ref b3), (.ref b10)])) X12 hx rfl rfl rfl (pc0 := 157) (pc' := 160) (same := false) rfl (hb hby at_157) rfl (decide_eq_false fun q => absurd (Value.ref.inj q) (Ne.symm ne_b3_b10)) (by decide) (by decide) ?_
    show Steps p.tables e below (T12.setTop (mkF m 160 #[.val (.int p1), .val (.int p2), .val (.ref b1), .val (.ref b3), .val (.ref c5), .val (.ref c6), .val (.ref c7), .val (.int (3 : Int32)), .val (.ref c7), .val (.ref b3), .val (.int (1 : Int32)), .val (.ref b10), .val (.ref b10), .val (.ref b10), .unset] [])) _
    refine XS.iconst X12.here hx rfl (hb hby at_160) ?_
    show Steps p.tables e below (T12.setTop (mkF m 161 #[.val (.int p1), .val (.int p2), .val (.ref b1), .val (.ref b3), .val (.ref c5), .val (.ref c6), .val (.ref c7), .val (.int (3 : Int32)), .val (.ref c7), .val (.ref b3), .val (.int (1 : Int32)), .val (.ref b10), .val (.ref b10), .val (.ref b10), .unset] [(.int (1 : Int32))])) _
    refine XS.goto X12.here hx rfl (pc0 := 161) (pc' := 165) rfl (hb hby at_161) (by decide) (by decide) ?_
    show Steps p.tables e below (T12.setTop (mkF m 165 #[.val (.int p1), .val (.int p2), .val (.ref b1), .val (.ref b3), .val (.ref c5), .val (.ref c6), .val (.ref c7), .val (.int (3 : Int32)), .val (.ref c7), .val (.ref b3), .val (.int (1 : Int32)), .val (.ref b10), .val (.ref b10), .val (.ref b10), .unset] [(.int (1 : Int32))])) _
    refine XS.istore X12.here hx rfl (hb hby at_165) rfl (l' := #[.val (.int p1), .val (.int p2), .val (.ref b1), .val (.ref b3), .val (.ref c5), .val (.ref c6), .val (.ref c7), .val (.int (3 : Int32)), .val (.ref c7), .val (.ref b3), .val (.int (1 : Int32)), .val (.ref b10), .val (.ref b10), .val (.ref b10), .val (.int (1 : Int32))]) rfl ?_
    show Steps p.tables e below (T12.setTop (mkF m 167 #[.val (.int p1), .val (.int p2), .val (.ref b1), .val (.ref b3), .val (.ref c5), .val (.ref c6), .val (.ref c7), .val (.int (3 : Int32)), .val (.ref c7), .val (.ref b3), .val (.int (1 : Int32)), .val (.ref b10), .val (.ref b10), .val (.ref b10), .val (.int (1 : Int32))] [])) _
    refine XS.iload X12.here hx rfl (hb hby at_167) rfl ?_
    show Steps p.tables e below (T12.setTop (mkF m 169 #[.val (.int p1), .val (.int p2), .val (.ref b1), .val (.ref b3), .val (.ref c5), .val (.ref c6), .val (.ref c7), .val (.int (3 : Int32)), .val (.ref c7), .val (.ref b3), .val (.int (1 : Int32)), .val (.ref b10), .val (.ref b10), .val (.ref b10), .val (.int (1 : Int32))] [(.int (1 : Int32))])) _
    refine XS.ifNo X12.here hx rfl (hb hby at_169) rfl ((if0 _ _).trans (feq ((by decide) : ¬ ((1 : Int32) = (0 : Int32)))).1) ?_
    show Steps p.tables e below (T12.setTop (mkF m 172 #[.val (.int p1), .val (.int p2), .val (.ref b1), .val (.ref b3), .val (.ref c5), .val (.ref c6), .val (.ref c7), .val (.int (3 : Int32)), .val (.ref c7), .val (.ref b3), .val (.int (1 : Int32)), .val (.ref b10), .val (.ref b10), .val (.ref b10), .val (.int (1 : Int32))] [])) _
    refine XS.iload X12.here hx rfl (hb hby at_172) rfl ?_
    show Steps p.tables e below (T12.setTop (mkF m 174 #[.val (.int p1), .val (.int p2), .val (.ref b1), .val (.ref b3), .val (.ref c5), .val (.ref c6), .val (.ref c7), .val (.int (3 : Int32)), .val (.ref c7), .val (.ref b3), .val (.int (1 : Int32)), .val (.ref b10), .val (.ref b10), .val (.ref b10), .val (.int (1 : Int32))] [(.int (1 : Int32))])) _
    refine XS.ifNo X12.here hx rfl (hb hby at_174) rfl ((if0 _ _).trans (feq ((by decide) : ¬ ((1 : Int32) = (0 : Int32)))).1) ?_
    show Steps p.tables e below (T12.setTop (mkF m 177 #[.val (.int p1), .val (.int p2), .val (.ref b1), .val (.ref b3), .val (.ref c5), .val (.ref c6), .val (.ref c7), .val (.int (3 : Int32)), .val (.ref c7), .val (.ref b3), .val (.int (1 : Int32)), .val (.ref b10), .val (.ref b10), .val (.ref b10), .val (.int (1 : Int32))] [])) _
    refine XS.iconst X12.here hx rfl (hb hby at_177) ?_
    show Steps p.tables e below (T12.setTop (mkF m 178 #[.val (.int p1), .val (.int p2), .val (.ref b1), .val (.ref b3), .val (.ref c5), .val (.ref c6), .val (.ref c7), .val (.int (3 : Int32)), .val (.ref c7), .val (.ref b3), .val (.int (1 : Int32)), .val (.ref b10), .val (.ref b10), .val (.ref b10), .val (.int (1 : Int32))] [(.int (1 : Int32))])) _
    refine XS.goto X12.here hx rfl (pc0 := 178) (pc' := 182) rfl (hb hby at_178) (by decide) (by decide) ?_
    show Steps p.tables e below (T12.setTop (mkF m 182 #[.val (.int p1), .val (.int p2), .val (.ref b1), .val (.ref b3), .val (.ref c5), .val (.ref c6), .val (.ref c7), .val (.int (3 : Int32)), .val (.ref c7), .val (.ref b3), .val (.int (1 : Int32)), .val (.ref b10), .val (.ref b10), .val (.ref b10), .val (.int (1 : Int32))] [(.int (1 : Int32))])) _
    exact retN X12 hx (t := .boolean) Bd.returns (by simp) (hb hby at_182) hr
  · show Q0 Z p1 p2 h0 n0 _ T12.heap _
    rw [eh12]
    exact ⟨rfl, N12⟩
set_option maxRecDepth 65536 in
set_option maxHeartbeats 40000000 in
theorem rm0_3f (l : Launch) (Z : State) (a0 : Array Value) (hw : ∀ d ∈ tables_1, d.before a0 Z = true) (ws : List Jvm.Cond) (p1 p2 : Int32) (h0 : Heap) (n0 : Nat) (Z0 : n0 ≤ h0.size) (hd : (p1 &&& (3 : Int32)) = (3 : Int32)) (hc125 : ¬ ((p2 &&& (1 : Int32)) = (0 : Int32))) :
    MetFree l x (head1 (Jvm.Cond.code x code maxLocals ret :: ws) room_1) (fun a U => a = #[(.int p1), (.int p2)] ∧ Z.Warmed39 U.vm ∧ U.heap = h0) (fun _ _ _ _ _ => True) (fun _ U o U' => ∃ v L, o = .returned v ∧ Q0 Z p1 p2 h0 n0 v U'.heap L ∧ FrameEnd U o U' L room_1.cells room_1.slots) := by
  refine MetFree.of_bodySF (plainFor_of_name pn_0) hisR ?_
  intro p e s m args below meth c s₁ Bd hml0 hP hK
  obtain ⟨rfl, hZ, hh⟩ := hP
  have hx := Bd.exec
  have hby := Bd.bytes
  have hml : c.maxLocals = 15 := hml0
  have hown : s.vm.findClass "com/example/roteiro/roteiro/lang/ScopeRootPinLaw" = some m.cls := findClass_of_methodNamed Bd.named
  have hnm := (name_of_methodNamed Bd.named Bd.method).1
  have X0 : Stand p l e room_1 s m #[(.int p1), (.int p2)] below meth c s₁ [] 0 0 := Stand.of_body Bd
  have e0 : s₁.heap = h0 := by rw [← hh, Bd.state]; rfl
  have N0 := Fr.nil n0
  have pre0 : ∀ t, Steps p.tables e below (s₁.setTop (mkF m 0 #[.val (.int p1), .val (.int p2), .unset, .unset, .unset, .unset, .unset, .unset, .unset, .unset, .unset, .unset, .unset, .unset, .unset] [])) t → Steps p.tables e below (s₁.setTop (entryFrame m #[(.int p1), (.int p2)] maxLocals)) t := fun t k => castTop (ef_0 m p1 p2) k
  obtain ⟨T1, h1, X1, e1, E1, A1, D1, -, st1⟩ := newO X0 hx hZ hown (hw _ (List.mem_of_getElem? (i := 0) rfl)) (hw _ (List.mem_of_getElem? (i := 1) rfl)) (hw _ (List.mem_of_getElem? (i := 2) rfl)) e0 (g := (mkF m 0 #[.val (.int p1), .val (.int p2), .unset, .unset, .unset, .unset, .unset, .unset, .unset, .unset, .unset, .unset, .unset, .unset, .unset] [])) rfl (hb hby at_0) (by decide) (by decide)
  obtain ⟨b1, g1⟩ : ∃ z, z = h0.size := ⟨_, rfl⟩
  rw [← g1] at A1 D1 st1
  have gb1 : n0 ≤ b1 := Nat.le_trans Z0 (Nat.le_of_eq g1.symm)
  have Z1 : n0 ≤ h1.size := Nat.le_trans Z0 E1.1
  have F_b1_elements_1 : Fld Z h1 b1 "com/example/roteiro/roteiro/lang/Libraries" "elements" "Ljava/util/Map;" .null := D1 (Or.inr (hw _ (List.mem_of_getElem? (i := 26) rfl))) (ty := (.object "java/util/Map")) (by decide)
  have F_b1_bareNames_1 : Fld Z h1 b1 "com/example/roteiro/roteiro/lang/Libraries" "bareNames" "Ljava/util/Map;" .null := D1 (Or.inr (hw _ (List.mem_of_getElem? (i := 28) rfl))) (ty := (.object "java/util/Map")) (by decide)
  obtain ⟨_, _, ⟨T2, L2, k2, n2⟩, -, X2, ⟨Lc2, hQ2, l2, y2, z2⟩, st2⟩ := X1.specialBack hx (y := (⟨"com/example/roteiro/roteiro/lang/Libraries", "<init>", "()V"⟩ : MethodName)) rfl hown (mvT hZ (hw _ (List.mem_of_getElem? (i := 3) rfl))) (mvT hZ (hw _ (List.mem_of_getElem? (i := 4) rfl))) (mvT hZ (hw _ (List.mem_of_getElem? (i := 5) rfl))) (by decide) (backOf (W := 1) (rmLb l Z a0 hw [] b1 _ _ h1 n0 Z1 A1 F_b1_elements_1 F_b1_bareNames_1 gb1) hZ (hw _ (List.mem_of_getElem? (i := 5) rfl)) (hw _ (List.mem_of_getElem? (i := 2) rfl)) (by decide) (by decide)) (g := (mkF m 4 #[.val (.int p1), .val (.int p2), .unset, .unset, .unset, .unset, .unset, .unset, .unset, .unset, .unset, .unset, .unset, .unset, .unset] [(.ref b1), (.ref b1)])) rfl (by rw [hml]; rfl) (Steps.refl _) (a := b1) (argsL := []) (rest := [(.ref b1)]) (lenOf pd_0_0 rfl) rfl (by show 2 * 0 + _ ≤ _; exact Nat.le_of_eq rfl) (hb hby at_4) (fun _ _ => ⟨rfl, e1, (by decide : 1 + 2 ≤ _), (by decide : 2 + 16 ≤ _)⟩)
  dsimp only [Pt.U, Pt.locs, Pt.cells, Pt.slots] at X2 l2 y2 z2 st2 hQ2
  subst l2 y2 z2
  obtain ⟨rfl, N2q, K2⟩ := hQ2
  have N2 := Fr.app N0 N2q
  have E_b1_2 := A1.keep K2
  have Z2 : n0 ≤ T2.heap.size := Nat.le_trans Z1 K2.1
  obtain ⟨T3, h3, X3, e3, E3, A3, D3, -, st3⟩ := newO X2 hx hZ hown (hw _ (List.mem_of_getElem? (i := 29) rfl)) (hw _ (List.mem_of_getElem? (i := 30) rfl)) (hw _ (List.mem_of_getElem? (i := 31) rfl)) rfl (g := (mkF m 8 #[.val (.int p1), .val (.int p2), .val (.ref b1), .unset, .unset, .unset, .unset, .unset, .unset, .unset, .unset, .unset, .unset, .unset, .unset] [])) rfl (hb hby at_8) (by decide) (by decide)
  obtain ⟨b3, g3⟩ : ∃ z, z = T2.heap.size := ⟨_, rfl⟩
  rw [← g3] at A3 D3 st3
  have gb3 : n0 ≤ b3 := Nat.le_trans Z2 (Nat.le_of_eq g3.symm)
  have Z3 : n0 ≤ h3.size := Nat.le_trans Z2 E3.1
  have F_b3_parent_3 : Fld Z h3 b3 "com/example/roteiro/roteiro/lang/Scope" "parent" "Lcom/example/roteiro/roteiro/lang/Scope;" .null := D3 (Or.inr (hw _ (List.mem_of_getElem? (i := 40) rfl))) (ty := (.object "com/example/roteiro/roteiro/lang/Scope")) (by decide)
  have F_b3_libraries_3 : Fld Z h3 b3 "com/example/roteiro/roteiro/lang/Scope" "libraries" "Lcom/example/roteiro/roteiro/lang/Libraries;" .null := D3 (Or.inr (hw _ (List.mem_of_getElem? (i := 42) rfl))) (ty := (.object "com/example/roteiro/roteiro/lang/Libraries")) (by decide)
  obtain ⟨_, _, ⟨T4, L4, k4, n4⟩, -, X4, ⟨Lc4, hQ4, l4, y4, z4⟩, st4⟩ := X3.specialBack hx (y := (⟨"com/example/roteiro/roteiro/lang/Scope", "<init>", "(Lcom/example/roteiro/roteiro/lang/Libraries;)V"⟩ : MethodName)) rfl hown (mvT hZ (hw _ (List.mem_of_getElem? (i := 32) rfl))) (mvT hZ (hw _ (List.mem_of_getElem? (i := 33) rfl))) (mvT hZ (hw _ (List.mem_of_getElem? (i := 34) rfl))) (by decide) (backOf (W := 1) (rmI1 l Z a0 hw [] b3 b1 _ _ h3 n0 Z3 A3 F_b3_parent_3 F_b3_libraries_3 gb3) hZ (hw _ (List.mem_of_getElem? (i := 34) rfl)) (hw _ (List.mem_of_getElem? (i := 31) rfl)) (by decide) (by decide)) (g := (mkF m 13 #[.val (.int p1), .val (.int p2), .val (.ref b1), .unset, .unset, .unset, .unset, .unset, .unset, .unset, .unset, .unset, .unset, .unset, .unset] [(.ref b1), (.ref b3), (.ref b3)])) rfl (by rw [hml]; rfl) (Steps.refl _) (a := b3) (argsL := [(.ref b1)]) (rest := [(.ref b3)]) (lenOf pd_0_1 rfl) rfl (by show 2 * 0 + _ ≤ _; exact Nat.le_of_eq rfl) (hb hby at_13) (fun _ _ => ⟨rfl, e3, (by decide : 4 + 0 ≤ _), (by decide : 21 + 0 ≤ _)⟩)
  dsimp only [Pt.U, Pt.locs, Pt.cells, Pt.slots] at X4 l4 y4 z4 st4 hQ4
  subst l4 y4 z4
  obtain ⟨rfl, N4q, K4, Fp4, Fl4⟩ := hQ4
  have N4 := Fr.app N2 N4q
  have E_b3_4 := A3.keep K4
  have Z4 : n0 ≤ T4.heap.size := Nat.le_trans Z3 K4.1
  obtain ⟨cq5, kq5, q5a, q5b, q5c⟩ := isOf hZ rfl E_b3_4
  obtain ⟨_, _, ⟨T5, L5, k5, n5⟩, -, X5, ⟨Lc5, hQ5, l5, y5, z5⟩, st5⟩ := X4.virtualBack hx (y := (⟨"com/example/roteiro/roteiro/lang/Scope", "child", "()Lcom/example/roteiro/roteiro/lang/Scope;"⟩ : MethodName)) (z := (⟨"com/example/roteiro/roteiro/lang/Scope", "child", "()Lcom/example/roteiro/roteiro/lang/Scope;"⟩ : MethodName)) hown (mvT hZ (hw _ (List.mem_of_getElem? (i := 43) rfl))) (mvT hZ (hw _ (List.mem_of_getElem? (i := 44) rfl))) (notFace_of_selects (args := #[]) (mvT hZ (hw _ (List.mem_of_getElem? (i := 46) rfl)))) (mvT hZ (hw _ (List.mem_of_getElem? (i := 46) rfl))) (mvT hZ (hw _ (List.mem_of_getElem? (i := 45) rfl))) (by decide) (backOf (W := 0) (rmCh l Z a0 hw [] b3 b1 T4.heap n0 Z4 Fl4) hZ (hw _ (List.mem_of_getElem? (i := 47) rfl)) (hw _ (List.mem_of_getElem? (i := 31) rfl)) (by decide) (by decide)) q5a q5c (g := (mkF m 18 #[.val (.int p1), .val (.int p2), .val (.ref b1), .val (.ref b3), .unset, .unset, .unset, .unset, .unset, .unset, .unset, .unset, .unset, .unset, .unset] [(.ref b3)])) rfl (by rw [hml]; rfl) (Steps.refl _) (argsL := []) (rest := []) (lenOf pd_0_2 rfl) rfl (by show 2 * 0 + _ ≤ _; exact Nat.le_of_eq rfl) (hb hby at_18) (fun _ _ => ⟨rfl, rfl, (by decide : 4 + 1 ≤ _), (by decide : 21 + 3 ≤ _)⟩)
  dsimp only [Pt.U, Pt.locs, Pt.cells, Pt.slots] at X5 l5 y5 z5 st5 hQ5
  subst l5 y5 z5
  obtain ⟨rfl, N5q, K5, Ev5, Fp5, Fl5⟩ := hQ5
  have N5 := Fr.app N4 N5q
  have E_b3_5 := E_b3_4.keep K5
  have F_b3_parent_5 := Fp4.keep K5 nin0
  have F_b3_libraries_5 := Fl4.keep K5 nin0
  have Z5 : n0 ≤ T5.heap.size := Nat.le_trans Z4 K5.1
  obtain ⟨c5, gc5⟩ : ∃ z, z = T4.heap.size := ⟨_, rfl⟩
  rw [← gc5] at st5 Ev5 Fp5 Fl5
  obtain ⟨cq6, kq6, q6a, q6b, q6c⟩ := isOf hZ rfl Ev5
  obtain ⟨_, _, ⟨T6, L6, k6, n6⟩, -, X6, ⟨Lc6, hQ6, l6, y6, z6⟩, st6⟩ := X5.virtualBack hx (y := (⟨"com/example/roteiro/roteiro/lang/Scope", "child", "()Lcom/example/roteiro/roteiro/lang/Scope;"⟩ : MethodName)) (z := (⟨"com/example/roteiro/roteiro/lang/Scope", "child", "()Lcom/example/roteiro/roteiro/lang/Scope;"⟩ : MethodName)) hown (mvT hZ (hw _ (List.mem_of_getElem? (i := 43) rfl))) (mvT hZ (hw _ (List.mem_of_getElem? (i := 44) rfl))) (notFace_of_selects (args := #[]) (mvT hZ (hw _ (List.mem_of_getElem? (i := 46) rfl)))) (mvT hZ (hw _ (List.mem_of_getElem? (i := 46) rfl))) (mvT hZ (hw _ (List.mem_of_getElem? (i := 45) rfl))) (by decide) (backOf (W := 0) (rmCh l Z a0 hw [] c5 b1 T5.heap n0 Z5 Fl5) hZ (hw _ (List.mem_of_getElem? (i := 47) rfl)) (hw _ (List.mem_of_getElem? (i := 31) rfl)) (by decide) (by decide)) q6a q6c (g := (mkF m 25 #[.val (.int p1), .val (.int p2), .val (.ref b1), .val (.ref b3), .val (.ref c5), .unset, .unset, .unset, .unset, .unset, .unset, .unset, .unset, .unset, .unset] [(.ref c5)])) rfl (by rw [hml]; rfl) (Steps.refl _) (argsL := []) (rest := []) (lenOf pd_0_2 rfl) rfl (by show 2 * 0 + _ ≤ _; exact Nat.le_of_eq rfl) (hb hby at_25) (fun _ _ => ⟨rfl, rfl, (by decide : 5 + 1 ≤ _), (by decide : 24 + 3 ≤ _)⟩)
  dsimp only [Pt.U, Pt.locs, Pt.cells, Pt.slots] at X6 l6 y6 z6 st6 hQ6
  subst l6 y6 z6
  obtain ⟨rfl, N6q, K6, Ev6, Fp6, Fl6⟩ := hQ6
  have N6 := Fr.app N5 N6q
  have E_b3_6 := E_b3_5.keep K6
  have F_b3_parent_6 := F_b3_parent_5.keep K6 nin0
  have F_b3_libraries_6 := F_b3_libraries_5.keep K6 nin0
  have E_c5_6 := Ev5.keep K6
  have F_c5_parent_6 := Fp5.keep K6 nin0
  have F_c5_libraries_6 := Fl5.keep K6 nin0
  have Z6 : n0 ≤ T6.heap.size := Nat.le_trans Z5 K6.1
  obtain ⟨c6, gc6⟩ : ∃ z, z = T5.heap.size := ⟨_, rfl⟩
  rw [← gc6] at st6 Ev6 Fp6 Fl6
  obtain ⟨cq7, kq7, q7a, q7b, q7c⟩ := isOf hZ rfl Ev6
  obtain ⟨_, _, ⟨T7, L7, k7, n7⟩, -, X7, ⟨Lc7, hQ7, l7, y7, z7⟩, st7⟩ := X6.virtualBack hx (y := (⟨"com/example/roteiro/roteiro/lang/Scope", "child", "()Lcom/example/roteiro/roteiro/lang/Scope;"⟩ : MethodName)) (z := (⟨"com/example/roteiro/roteiro/lang/Scope", "child", "()Lcom/example/roteiro/roteiro/lang/Scope;"⟩ : MethodName)) hown (mvT hZ (hw _ (List.mem_of_getElem? (i := 43) rfl))) (mvT hZ (hw _ (List.mem_of_getElem? (i := 44) rfl))) (notFace_of_selects (args := #[]) (mvT hZ (hw _ (List.mem_of_getElem? (i := 46) rfl)))) (mvT hZ (hw _ (List.mem_of_getElem? (i := 46) rfl))) (mvT hZ (hw _ (List.mem_of_getElem? (i := 45) rfl))) (by decide) (backOf (W := 0) (rmCh l Z a0 hw [] c6 b1 T6.heap n0 Z6 Fl6) hZ (hw _ (List.mem_of_getElem? (i := 47) rfl)) (hw _ (List.mem_of_getElem? (i := 31) rfl)) (by decide) (by decide)) q7a q7c (g := (mkF m 32 #[.val (.int p1), .val (.int p2), .val (.ref b1), .val (.ref b3), .val (.ref c5), .val (.ref c6), .unset, .unset, .unset, .unset, .unset, .unset, .unset, .unset, .unset] [(.ref c6)])) rfl (by rw [hml]; rfl) (Steps.refl _) (argsL := []) (rest := []) (lenOf pd_0_2 rfl) rfl (by show 2 * 0 + _ ≤ _; exact Nat.le_of_eq rfl) (hb hby at_32) (fun _ _ => ⟨rfl, rfl, (by decide : 6 + 1 ≤ _), (by decide : 27 + 3 ≤ _)⟩)
  dsimp only [Pt.U, Pt.locs, Pt.cells, Pt.slots] at X7 l7 y7 z7 st7 hQ7
  subst l7 y7 z7
  obtain ⟨rfl, N7q, K7, Ev7, Fp7, Fl7⟩ := hQ7
  have N7 := Fr.app N6 N7q
  have E_b3_7 := E_b3_6.keep K7
  have F_b3_parent_7 := F_b3_parent_6.keep K7 nin0
  have F_b3_libraries_7 := F_b3_libraries_6.keep K7 nin0
  have E_c5_7 := E_c5_6.keep K7
  have F_c5_parent_7 := F_c5_parent_6.keep K7 nin0
  have F_c5_libraries_7 := F_c5_libraries_6.keep K7 nin0
  have E_c6_7 := Ev6.keep K7
  have F_c6_parent_7 := Fp6.keep K7 nin0
  have F_c6_libraries_7 := Fl6.keep K7 nin0
  have Z7 : n0 ≤ T7.heap.size := Nat.le_trans Z6 K7.1
  obtain ⟨c7, gc7⟩ : ∃ z, z = T6.heap.size := ⟨_, rfl⟩
  rw [← gc7] at st7 Ev7 Fp7 Fl7
  obtain ⟨cq8, kq8, q8a, q8b, q8c⟩ := isOf hZ rfl Ev7
  obtain ⟨_, _, ⟨T8, L8, k8, n8⟩, -, X8, ⟨Lc8, hQ8, l8, y8, z8⟩, st8⟩ := X7.virtualBack hx (y := (⟨"com/example/roteiro/roteiro/lang/Scope", "root", "()Lcom/example/roteiro/roteiro/lang/Scope;"⟩ : MethodName)) (z := (⟨"com/example/roteiro/roteiro/lang/Scope", "root", "()Lcom/example/roteiro/roteiro/lang/Scope;"⟩ : MethodName)) hown (mvT hZ (hw _ (List.mem_of_getElem? (i := 49) rfl))) (mvT hZ (hw _ (List.mem_of_getElem? (i := 50) rfl))) (notFace_of_selects (args := #[]) (mvT hZ (hw _ (List.mem_of_getElem? (i := 52) rfl)))) (mvT hZ (hw _ (List.mem_of_getElem? (i := 52) rfl))) (mvT hZ (hw _ (List.mem_of_getElem? (i := 51) rfl))) (by decide) (backOf (W := 0) (rmRo3 l Z a0 hw [] c7 c6 c5 b3 T7.heap n0 Z7 Fp7 F_c6_parent_7 F_c5_parent_7 F_b3_parent_7) hZ (hw _ (List.mem_of_getElem? (i := 53) rfl)) (hw _ (List.mem_of_getElem? (i := 31) rfl)) (by decide) (by decide)) q8a q8c (g := (mkF m 85 #[.val (.int p1), .val (.int p2), .val (.ref b1), .val (.ref b3), .val (.ref c5), .val (.ref c6), .val (.ref c7), .val (.int (3 : Int32)), .val (.ref c7), .unset, .unset, .unset, .unset, .unset, .unset] [(.ref c7)])) rfl (by rw [hml]; rfl) (Steps.refl _) (argsL := []) (rest := []) (lenOf pd_0_2 rfl) rfl (by show 2 * 0 + _ ≤ _; exact Nat.le_of_eq rfl) (hb hby at_85) (fun _ _ => ⟨rfl, rfl, (by decide : 7 + 0 ≤ _), (by decide : 30 + 0 ≤ _)⟩)
  dsimp only [Pt.U, Pt.locs, Pt.cells, Pt.slots] at X8 l8 y8 z8 st8 hQ8
  subst l8 y8 z8
  obtain ⟨rfl, N8q, eh8⟩ := hQ8
  have N8 := Fr.app N7 N8q
  obtain ⟨cq9, kq9, q9a, q9b, q9c⟩ := isOf hZ eh8 E_b3_7
  obtain ⟨_, _, ⟨T9, L9, k9, n9⟩, -, X9, ⟨Lc9, hQ9, l9, y9, z9⟩, st9⟩ := X8.virtualBack hx (y := (⟨"com/example/roteiro/roteiro/lang/Scope", "root", "()Lcom/example/roteiro/roteiro/lang/Scope;"⟩ : MethodName)) (z := (⟨"com/example/roteiro/roteiro/lang/Scope", "root", "()Lcom/example/roteiro/roteiro/lang/Scope;"⟩ : MethodName)) hown (mvT hZ (hw _ (List.mem_of_getElem? (i := 49) rfl))) (mvT hZ (hw _ (List.mem_of_getElem? (i := 50) rfl))) (notFace_of_selects (args := #[]) (mvT hZ (hw _ (List.mem_of_getElem? (i := 52) rfl)))) (mvT hZ (hw _ (List.mem_of_getElem? (i := 52) rfl))) (mvT hZ (hw _ (List.mem_of_getElem? (i := 51) rfl))) (by decide) (backOf (W := 0) (rmRo0 l Z a0 hw [] b3 T7.heap n0 Z7 F_b3_parent_7) hZ (hw _ (List.mem_of_getElem? (i := 53) rfl)) (hw _ (List.mem_of_getElem? (i := 31) rfl)) (by decide) (by decide)) q9a q9c (g := (mkF m 98 #[.val (.int p1), .val (.int p2), .val (.ref b1), .val (.ref b3), .val (.ref c5), .val (.ref c6), .val (.ref c7), .val (.int (3 : Int32)), .val (.ref c7), .val (.ref b3), .unset, .unset, .unset, .unset, .unset] [(.ref b3)])) rfl (by rw [hml]; rfl) (Steps.refl _) (argsL := []) (rest := []) (lenOf pd_0_2 rfl) rfl (by show 2 * 0 + _ ≤ _; exact Nat.le_of_eq rfl) (hb hby at_98) (fun _ _ => ⟨rfl, eh8, (by decide : 7 + 0 ≤ _), (by decide : 30 + 0 ≤ _)⟩)
  dsimp only [Pt.U, Pt.locs, Pt.cells, Pt.slots] at X9 l9 y9 z9 st9 hQ9
  subst l9 y9 z9
  obtain ⟨rfl, N9q, eh9⟩ := hQ9
  have N9 := Fr.app N8 N9q
  obtain ⟨T10, h10, X10, e10, E10, A10, D10, -, st10⟩ := newO X9 hx hZ hown (hw _ (List.mem_of_getElem? (i := 29) rfl)) (hw _ (List.mem_of_getElem? (i := 30) rfl)) (hw _ (List.mem_of_getElem? (i := 31) rfl)) eh9 (g := (mkF m 112 #[.val (.int p1), .val (.int p2), .val (.ref b1), .val (.ref b3), .val (.ref c5), .val (.ref c6), .val (.ref c7), .val (.int (3 : Int32)), .val (.ref c7), .val (.ref b3), .val (.int (1 : Int32)), .unset, .unset, .unset, .unset] [])) rfl (hb hby at_112) (by decide) (by decide)
  obtain ⟨b10, g10⟩ : ∃ z, z = T7.heap.size := ⟨_, rfl⟩
  rw [← g10] at A10 D10 st10
  have gb10 : n0 ≤ b10 := Nat.le_trans Z7 (Nat.le_of_eq g10.symm)
  have ne_b3_b10 : b3 ≠ b10 := (Nat.ne_of_lt (Nat.lt_of_lt_of_le E_b3_7.lt (Nat.le_of_eq g10.symm)))
  have ne_c5_b10 : c5 ≠ b10 := (Nat.ne_of_lt (Nat.lt_of_lt_of_le E_c5_7.lt (Nat.le_of_eq g10.symm)))
  have ne_c6_b10 : c6 ≠ b10 := (Nat.ne_of_lt (Nat.lt_of_lt_of_le E_c6_7.lt (Nat.le_of_eq g10.symm)))
  have ne_c7_b10 : c7 ≠ b10 := (Nat.ne_of_lt (Nat.lt_of_lt_of_le Ev7.lt (Nat.le_of_eq g10.symm)))
  have E_b3_10 := E_b3_7.ext E10
  have F_b3_parent_10 := F_b3_parent_7.ext E10
  have F_b3_libraries_10 := F_b3_libraries_7.ext E10
  have E_c5_10 := E_c5_7.ext E10
  have F_c5_parent_10 := F_c5_parent_7.ext E10
  have F_c5_libraries_10 := F_c5_libraries_7.ext E10
  have E_c6_10 := E_c6_7.ext E10
  have F_c6_parent_10 := F_c6_parent_7.ext E10
  have F_c6_libraries_10 := F_c6_libraries_7.ext E10
  have E_c7_10 := Ev7.ext E10
  have F_c7_parent_10 := Fp7.ext E10
  have F_c7_libraries_10 := Fl7.ext E10
  have Z10 : n0 ≤ h10.size := Nat.le_trans Z7 E10.1
  have F_b10_parent_10 : Fld Z h10 b10 "com/example/roteiro/roteiro/lang/Scope" "parent" "Lcom/example/roteiro/roteiro/lang/Scope;" .null := D10 (Or.inr (hw _ (List.mem_of_getElem? (i := 40) rfl))) (ty := (.object "com/example/roteiro/roteiro/lang/Scope")) (by decide)
  have F_b10_libraries_10 : Fld Z h10 b10 "com/example/roteiro/roteiro/lang/Scope" "libraries" "Lcom/example/roteiro/roteiro/lang/Libraries;" .null := D10 (Or.inr (hw _ (List.mem_of_getElem? (i := 42) rfl))) (ty := (.object "com/example/roteiro/roteiro/lang/Libraries")) (by decide)
  obtain ⟨_, _, ⟨T11, L11, k11, n11⟩, -, X11, ⟨Lc11, hQ11, l11, y11, z11⟩, st11⟩ := X10.specialBack hx (y := (⟨"com/example/roteiro/roteiro/lang/Scope", "<init>", "(Lcom/example/roteiro/roteiro/lang/Libraries;)V"⟩ : MethodName)) rfl hown (mvT hZ (hw _ (List.mem_of_getElem? (i := 32) rfl))) (mvT hZ (hw _ (List.mem_of_getElem? (i := 33) rfl))) (mvT hZ (hw _ (List.mem_of_getElem? (i := 34) rfl))) (by decide) (backOf (W := 1) (rmI1 l Z a0 hw [] b10 b1 _ _ h10 n0 Z10 A10 F_b10_parent_10 F_b10_libraries_10 gb10) hZ (hw _ (List.mem_of_getElem? (i := 34) rfl)) (hw _ (List.mem_of_getElem? (i := 31) rfl)) (by decide) (by decide)) (g := (mkF m 117 #[.val (.int p1), .val (.int p2), .val (.ref b1), .val (.ref b3), .val (.ref c5), .val (.ref c6), .val (.ref c7), .val (.int (3 : Int32)), .val (.ref c7), .val (.ref b3), .val (.int (1 : Int32)), .unset, .unset, .unset, .unset] [(.ref b1), (.ref b10), (.ref b10)])) rfl (by rw [hml]; rfl) (Steps.refl _) (a := b10) (argsL := [(.ref b1)]) (rest := [(.ref b10)]) (lenOf pd_0_1 rfl) rfl (by show 2 * 0 + _ ≤ _; exact Nat.le_of_eq rfl) (hb hby at_117) (fun _ _ => ⟨rfl, e10, (by decide : 8 + 0 ≤ _), (by decide : 33 + 0 ≤ _)⟩)
  dsimp only [Pt.U, Pt.locs, Pt.cells, Pt.slots] at X11 l11 y11 z11 st11 hQ11
  subst l11 y11 z11
  obtain ⟨rfl, N11q, K11, Fp11, Fl11⟩ := hQ11
  have N11 := Fr.app N9 N11q
  have E_b3_11 := E_b3_10.keep K11
  have F_b3_parent_11 := F_b3_parent_10.keep K11 (ninS ne_b3_b10 nin0)
  have F_b3_libraries_11 := F_b3_libraries_10.keep K11 (ninS ne_b3_b10 nin0)
  have E_c5_11 := E_c5_10.keep K11
  have F_c5_parent_11 := F_c5_parent_10.keep K11 (ninS ne_c5_b10 nin0)
  have F_c5_libraries_11 := F_c5_libraries_10.keep K11 (ninS ne_c5_b10 nin0)
  have E_c6_11 := E_c6_10.keep K11
  have F_c6_parent_11 := F_c6_parent_10.keep K11 (ninS ne_c6_b10 nin0)
  have F_c6_libraries_11 := F_c6_libraries_10.keep K11 (ninS ne_c6_b10 nin0)
  have E_c7_11 := E_c7_10.keep K11
  have F_c7_parent_11 := F_c7_parent_10.keep K11 (ninS ne_c7_b10 nin0)
  have F_c7_libraries_11 := F_c7_libraries_10.keep K11 (ninS ne_c7_b10 nin0)
  have E_b10_11 := A10.keep K11
  have Z11 : n0 ≤ T11.heap.size := Nat.le_trans Z10 K11.1
  obtain ⟨cq12, kq12, q12a, q12b, q12c⟩ := isOf hZ rfl E_b10_11
  obtain ⟨_, _, ⟨T12, L12, k12, n12⟩, -, X12, ⟨Lc12, hQ12, l12, y12, z12⟩, st12⟩ := X11.virtualBack hx (y := (⟨"com/example/roteiro/roteiro/lang/Scope", "child", "()Lcom/example/roteiro/roteiro/lang/Scope;"⟩ : MethodName)) (z := (⟨"com/example/roteiro/roteiro/lang/Scope", "child", "()Lcom/example/roteiro/roteiro/lang/Scope;"⟩ : MethodName)) hown (mvT hZ (hw _ (List.mem_of_getElem? (i := 43) rfl))) (mvT hZ (hw _ (List.mem_of_getElem? (i := 44) rfl))) (notFace_of_selects (args := #[]) (mvT hZ (hw _ (List.mem_of_getElem? (i := 46) rfl)))) (mvT hZ (hw _ (List.mem_of_getElem? (i := 46) rfl))) (mvT hZ (hw _ (List.mem_of_getElem? (i := 45) rfl))) (by decide) (backOf (W := 0) (rmCh l Z a0 hw [] b10 b1 T11.heap n0 Z11 Fl11) hZ (hw _ (List.mem_of_getElem? (i := 47) rfl)) (hw _ (List.mem_of_getElem? (i := 31) rfl)) (by decide) (by decide)) q12a q12c (g := (mkF m 130 #[.val (.int p1), .val (.int p2), .val (.ref b1), .val (.ref b3), .val (.ref c5), .val (.ref c6), .val (.ref c7), .val (.int (3 : Int32)), .val (.ref c7), .val (.ref b3), .val (.int (1 : Int32)), .val (.ref b10), .unset, .unset, .unset] [(.ref b10)])) rfl (by rw [hml]; rfl) (Steps.refl _) (argsL := []) (rest := []) (lenOf pd_0_2 rfl) rfl (by show 2 * 0 + _ ≤ _; exact Nat.le_of_eq rfl) (hb hby at_130) (fun _ _ => ⟨rfl, rfl, (by decide : 8 + 1 ≤ _), (by decide : 33 + 3 ≤ _)⟩)
  dsimp only [Pt.U, Pt.locs, Pt.cells, Pt.slots] at X12 l12 y12 z12 st12 hQ12
  subst l12 y12 z12
  obtain ⟨rfl, N12q, K12, Ev12, Fp12, Fl12⟩ := hQ12
  have N12 := Fr.app N11 N12q
  have E_b3_12 := E_b3_11.keep K12
  have F_b3_parent_12 := F_b3_parent_11.keep K12 nin0
  have F_b3_libraries_12 := F_b3_libraries_11.keep K12 nin0
  have E_c5_12 := E_c5_11.keep K12
  have F_c5_parent_12 := F_c5_parent_11.keep K12 nin0
  have F_c5_libraries_12 := F_c5_libraries_11.keep K12 nin0
  have E_c6_12 := E_c6_11.keep K12
  have F_c6_parent_12 := F_c6_parent_11.keep K12 nin0
  have F_c6_libraries_12 := F_c6_libraries_11.keep K12 nin0
  have E_c7_12 := E_c7_11.keep K12
  have F_c7_parent_12 := F_c7_parent_11.keep K12 nin0
  have F_c7_libraries_12 := F_c7_libraries_11.keep K12 nin0
  have E_b10_12 := E_b10_11.keep K12
  have F_b10_parent_12 := Fp11.keep K12 nin0
  have F_b10_libraries_12 := Fl11.keep K12 nin0
  have Z12 : n0 ≤ T12.heap.size := Nat.le_trans Z11 K12.1
  obtain ⟨c12, gc12⟩ : ∃ z, z = T11.heap.size := ⟨_, rfl⟩
  rw [← gc12] at st12 Ev12 Fp12 Fl12
  obtain ⟨cq13, kq13, q13a, q13b, q13c⟩ := isOf hZ rfl Ev12
  obtain ⟨_, _, ⟨T13, L13, k13, n13⟩, -, X13, ⟨Lc13, hQ13, l13, y13, z13⟩, st13⟩ := X12.virtualBack hx (y := (⟨"com/example/roteiro/roteiro/lang/Scope", "root", "()Lcom/example/roteiro/roteiro/lang/Scope;"⟩ : MethodName)) (z := (⟨"com/example/roteiro/roteiro/lang/Scope", "root", "()Lcom/example/roteiro/roteiro/lang/Scope;"⟩ : MethodName)) hown (mvT hZ (hw _ (List.mem_of_getElem? (i := 49) rfl))) (mvT hZ (hw _ (List.mem_of_getElem? (i := 50) rfl))) (notFace_of_selects (args := #[]) (mvT hZ (hw _ (List.mem_of_getElem? (i := 52) rfl)))) (mvT hZ (hw _ (List.mem_of_getElem? (i := 52) rfl))) (mvT hZ (hw _ (List.mem_of_getElem? (i := 51) rfl))) (by decide) (backOf (W := 0) (rmRo1 l Z a0 hw [] c12 b10 T12.heap n0 Z12 Fp12 F_b10_parent_12) hZ (hw _ (List.mem_of_getElem? (i := 53) rfl)) (hw _ (List.mem_of_getElem? (i := 31) rfl)) (by decide) (by decide)) q13a q13c (g := (mkF m 142 #[.val (.int p1), .val (.int p2), .val (.ref b1), .val (.ref b3), .val (.ref c5), .val (.ref c6), .val (.ref c7), .val (.int (3 : Int32)), .val (.ref c7), .val (.ref b3), .val (.int (1 : Int32)), .val (.ref b10), .val (.ref c12), .unset, .unset] [(.ref c12)])) rfl (by rw [hml]; rfl) (Steps.refl _) (argsL := []) (rest := []) (lenOf pd_0_2 rfl) rfl (by show 2 * 0 + _ ≤ _; exact Nat.le_of_eq rfl) (hb hby at_142) (fun _ _ => ⟨rfl, rfl, (by decide : 9 + 0 ≤ _), (by decide : 36 + 0 ≤ _)⟩)
  dsimp only [Pt.U, Pt.locs, Pt.cells, Pt.slots] at X13 l13 y13 z13 st13 hQ13
  subst l13 y13 z13
  obtain ⟨rfl, N13q, eh13⟩ := hQ13
  have N13 := Fr.app N12 N13q
  obtain ⟨fs, hr, hrun, hended, hW, hsame⟩ := X13.leave (v := some (.int (1 : Int32))) (fun h => by rw [Bd.returns] at h; cases h)
  refine ⟨_, _, pre0 _ ?_, hrun, hended, _, _, rfl, ?_, ⟨_, rfl⟩, hW, hsame.mono (by decide) (by decide)⟩
  · show Steps p.tables e below (s₁.setTop (mkF m 0 #[.val (.int p1), .val (.int p2), .unset, .unset, .unset, .unset, .unset, .unset, .unset, .unset, .unset, .unset, .unset, .unset, .unset] [])) _
    refine st1 _ ?_
    show Steps p.tables e below (T1.setTop (mkF m 3 #[.val (.int p1), .val (.int p2), .unset, .unset, .unset, .unset, .unset, .unset, .unset, .unset, .unset, .unset, .unset, .unset, .unset] [(.ref b1)])) _
    refine XS.dup X1.here hx rfl (hb hby at_3) rfl rfl ?_
    show Steps p.tables e below (T1.setTop (mkF m 4 #[.val (.int p1), .val (.int p2), .unset, .unset, .unset, .unset, .unset, .unset, .unset, .unset, .unset, .unset, .unset, .unset, .unset] [(.ref b1), (.ref b1)])) _
    refine st2.trans ?_
    show Steps p.tables e below (T2.setTop (mkF m 7 #[.val (.int p1), .val (.int p2), .unset, .unset, .unset, .unset, .unset, .unset, .unset, .unset, .unset, .unset, .unset, .unset, .unset] [(.ref b1)])) _
    refine XS.astoreN X2.here hx rfl (hb hby at_7) rfl rfl (l' := #[.val (.int p1), .val (.int p2), .val (.ref b1), .unset, .unset, .unset, .unset, .unset, .unset, .unset, .unset, .unset, .unset, .unset, .unset]) rfl ?_
    show Steps p.tables e below (T2.setTop (mkF m 8 #[.val (.int p1), .val (.int p2), .val (.ref b1), .unset, .unset, .unset, .unset, .unset, .unset, .unset, .unset, .unset, .unset, .unset, .unset] [])) _
    refine st3 _ ?_
    show Steps p.tables e below (T3.setTop (mkF m 11 #[.val (.int p1), .val (.int p2), .val (.ref b1), .unset, .unset, .unset, .unset, .unset, .unset, .unset, .unset, .unset, .unset, .unset, .unset] [(.ref b3)])) _
    refine XS.dup X3.here hx rfl (hb hby at_11) rfl rfl ?_
    show Steps p.tables e below (T3.setTop (mkF m 12 #[.val (.int p1), .val (.int p2), .val (.ref b1), .unset, .unset, .unset, .unset, .unset, .unset, .unset, .unset, .unset, .unset, .unset, .unset] [(.ref b3), (.ref b3)])) _
    refine XS.aloadN X3.here hx rfl (hb hby at_12) rfl rfl ?_
    show Steps p.tables e below (T3.setTop (mkF m 13 #[.val (.int p1), .val (.int p2), .val (.ref b1), .unset, .unset, .unset, .unset, .unset, .unset, .unset, .unset, .unset, .unset, .unset, .unset] [(.ref b1), (.ref b3), (.ref b3)])) _
    refine st4.trans ?_
    show Steps p.tables e below (T4.setTop (mkF m 16 #[.val (.int p1), .val (.int p2), .val (.ref b1), .unset, .unset, .unset, .unset, .unset, .unset, .unset, .unset, .unset, .unset, .unset, .unset] [(.ref b3)])) _
    refine XS.astoreN X4.here hx rfl (hb hby at_16) rfl rfl (l' := #[.val (.int p1), .val (.int p2), .val (.ref b1), .val (.ref b3), .unset, .unset, .unset, .unset, .unset, .unset, .unset, .unset, .unset, .unset, .unset]) rfl ?_
    show Steps p.tables e below (T4.setTop (mkF m 17 #[.val (.int p1), .val (.int p2), .val (.ref b1), .val (.ref b3), .unset, .unset, .unset, .unset, .unset, .unset, .unset, .unset, .unset, .unset, .unset] [])) _
    refine XS.aloadN X4.here hx rfl (hb hby at_17) rfl rfl ?_
    show Steps p.tables e below (T4.setTop (mkF m 18 #[.val (.int p1), .val (.int p2), .val (.ref b1), .val (.ref b3), .unset, .unset, .unset, .unset, .unset, .unset, .unset, .unset, .unset, .unset, .unset] [(.ref b3)])) _
    refine st5.trans ?_
    show Steps p.tables e below (T5.setTop (mkF m 21 #[.val (.int p1), .val (.int p2), .val (.ref b1), .val (.ref b3), .unset, .unset, .unset, .unset, .unset, .unset, .unset, .unset, .unset, .unset, .unset] [(.ref c5)])) _
    refine XS.astore X5.here hx rfl (hb hby at_21) rfl rfl (l' := #[.val (.int p1), .val (.int p2), .val (.ref b1), .val (.ref b3), .val (.ref c5), .unset, .unset, .unset, .unset, .unset, .unset, .unset, .unset, .unset, .unset]) rfl ?_
    show Steps p.tables e below (T5.setTop (mkF m 23 #[.val (.int p1), .val (.int p2), .val (.ref b1), .val (.ref b3), .val (.ref c5), .unset, .unset, .unset, .unset, .unset, .unset, .unset, .unset, .unset, .unset] [])) _
    refine XS.aload X5.here hx rfl (hb hby at_23) rfl rfl ?_
    show Steps p.tables e below (T5.setTop (mkF m 25 #[.val (.int p1), .val (.int p2), .val (.ref b1), .val (.ref b3), .val (.ref c5), .unset, .unset, .unset, .unset, .unset, .unset, .unset, .unset, .unset, .unset] [(.ref c5)])) _
    refine st6.trans ?_
    show Steps p.tables e below (T6.setTop (mkF m 28 #[.val (.int p1), .val (.int p2), .val (.ref b1), .val (.ref b3), .val (.ref c5), .unset, .unset, .unset, .unset, .unset, .unset, .unset, .unset, .unset, .unset] [(.ref c6)])) _
    refine XS.astore X6.here hx rfl (hb hby at_28) rfl rfl (l' := #[.val (.int p1), .val (.int p2), .val (.ref b1), .val (.ref b3), .val (.ref c5), .val (.ref c6), .unset, .unset, .unset, .unset, .unset, .unset, .unset, .unset, .unset]) rfl ?_
    show Steps p.tables e below (T6.setTop (mkF m 30 #[.val (.int p1), .val (.int p2), .val (.ref b1), .val (.ref b3), .val (.ref c5), .val (.ref c6), .unset, .unset, .unset, .unset, .unset, .unset, .unset, .unset, .unset] [])) _
    refine XS.aload X6.here hx rfl (hb hby at_30) rfl rfl ?_
    show Steps p.tables e below (T6.setTop (mkF m 32 #[.val (.int p1), .val (.int p2), .val (.ref b1), .val (.ref b3), .val (.ref c5), .val (.ref c6), .unset, .unset, .unset, .unset, .unset, .unset, .unset, .unset, .unset] [(.ref c6)])) _
    refine st7.trans ?_
    show Steps p.tables e below (T7.setTop (mkF m 35 #[.val (.int p1), .val (.int p2), .val (.ref b1), .val (.ref b3), .val (.ref c5), .val (.ref c6), .unset, .unset, .unset, .unset, .unset, .unset, .unset, .unset, .unset] [(.ref c7)])) _
    refine XS.astore X7.here hx rfl (hb hby at_35) rfl rfl (l' := #[.val (.int p1), .val (.int p2), .val (.ref b1), .val (.ref b3), .val (.ref c5), .val (.ref c6), .val (.ref c7), .unset, .unset, .unset, .unset, .unset, .unset, .unset, .unset]) rfl ?_
    show Steps p.tables e below (T7.setTop (mkF m 37 #[.val (.int p1), .val (.int p2), .val (.ref b1), .val (.ref b3), .val (.ref c5), .val (.ref c6), .val (.ref c7), .unset, .unset, .unset, .unset, .unset, .unset, .unset, .unset] [])) _
    refine XS.iloadN X7.here hx rfl (hb hby at_37) rfl ?_
    show Steps p.tables e below (T7.setTop (mkF m 38 #[.val (.int p1), .val (.int p2), .val (.ref b1), .val (.ref b3), .val (.ref c5), .val (.ref c6), .val (.ref c7), .unset, .unset, .unset, .unset, .unset, .unset, .unset, .unset] [(.int p1)])) _
    refine XS.iconst X7.here hx rfl (hb hby at_38) ?_
    show Steps p.tables e below (T7.setTop (mkF m 39 #[.val (.int p1), .val (.int p2), .val (.ref b1), .val (.ref b3), .val (.ref c5), .val (.ref c6), .val (.ref c7), .unset, .unset, .unset, .unset, .unset, .unset, .unset, .unset] [(.int (3 : Int32)), (.int p1)])) _
    refine XS.iand X7.here hx rfl (hb hby at_39) rfl ?_
    show Steps p.tables e below (T7.setTop (mkF m 40 #[.val (.int p1), .val (.int p2), .val (.ref b1), .val (.ref b3), .val (.ref c5), .val (.ref c6), .val (.ref c7), .unset, .unset, .unset, .unset, .unset, .unset, .unset, .unset] [(.int (p1 &&& (3 : Int32)))])) _
    rw [hd]
    show Steps p.tables e below (T7.setTop (mkF m 40 #[.val (.int p1), .val (.int p2), .val (.ref b1), .val (.ref b3), .val (.ref c5), .val (.ref c6), .val (.ref c7), .unset, .unset, .unset, .unset, .unset, .unset, .unset, .unset] [(.int (3 : Int32))])) _
    refine XS.istore X7.here hx rfl (hb hby at_40) rfl (l' := #[.val (.int p1), .val (.int p2), .val (.ref b1), .val (.ref b3), .val (.ref c5), .val (.ref c6), .val (.ref c7), .val (.int (3 : Int32)), .unset, .unset, .unset, .unset, .unset, .unset, .unset]) rfl ?_
    show Steps p.tables e below (T7.setTop (mkF m 42 #[.val (.int p1), .val (.int p2), .val (.ref b1), .val (.ref b3), .val (.ref c5), .val (.ref c6), .val (.ref c7), .val (.int (3 : Int32)), .unset, .unset, .unset, .unset, .unset, .unset, .unset] [])) _
    refine XS.iload X7.here hx rfl (hb hby at_42) rfl ?_
    show Steps p.tables e below (T7.setTop (mkF m 44 #[.val (.int p1), .val (.int p2), .val (.ref b1), .val (.ref b3), .val (.ref c5), .val (.ref c6), .val (.ref c7), .val (.int (3 : Int32)), .unset, .unset, .unset, .unset, .unset, .unset, .unset] [(.int (3 : Int32))])) _
    refine XS.ifYes X7.here hx rfl (pc0 := 44) (pc' := 53) rfl (hb hby at_44) rfl ((if0 _ _).trans (feq ((by decide) : ¬ ((3 : Int32) = (0 : Int32)))).2) (by decide) (by decide) ?_
    show Steps p.tables e below (T7.setTop (mkF m 53 #[.val (.int p1), .val (.int p2), .val (.ref b1), .val (.ref b3), .val (.ref c5), .val (.ref c6), .val (.ref c7), .val (.int (3 : Int32)), .unset, .unset, .unset, .unset, .unset, .unset, .unset] [])) _
    refine XS.iload X7.here hx rfl (hb hby at_53) rfl ?_
    show Steps p.tables e below (T7.setTop (mkF m 55 #[.val (.int p1), .val (.int p2), .val (.ref b1), .val (.ref b3), .val (.ref c5), .val (.ref c6), .val (.ref c7), .val (.int (3 : Int32)), .unset, .unset, .unset, .unset, .unset, .unset, .unset] [(.int (3 : Int32))])) _
    refine XS.iconst X7.here hx rfl (hb hby at_55) ?_
    show Steps p.tables e below (T7.setTop (mkF m 56 #[.val (.int p1), .val (.int p2), .val (.ref b1), .val (.ref b3), .val (.ref c5), .val (.ref c6), .val (.ref c7), .val (.int (3 : Int32)), .unset, .unset, .unset, .unset, .unset, .unset, .unset] [(.int (1 : Int32)), (.int (3 : Int32))])) _
    refine XS.icmpYes X7.here hx rfl (pc0 := 56) (pc' := 66) rfl (hb hby at_56) rfl (feq ((by decide) : ¬ ((3 : Int32) = (1 : Int32)))).2 (by decide) (by decide) ?_
    show Steps p.tables e below (T7.setTop (mkF m 66 #[.val (.int p1), .val (.int p2), .val (.ref b1), .val (.ref b3), .val (.ref c5), .val (.ref c6), .val (.ref c7), .val (.int (3 : Int32)), .unset, .unset, .unset, .unset, .unset, .unset, .unset] [])) _
    refine XS.iload X7.here hx rfl (hb hby at_66) rfl ?_
    show Steps p.tables e below (T7.setTop (mkF m 68 #[.val (.int p1), .val (.int p2), .val (.ref b1), .val (.ref b3), .val (.ref c5), .val (.ref c6), .val (.ref c7), .val (.int (3 : Int32)), .unset, .unset, .unset, .unset, .unset, .unset, .unset] [(.int (3 : Int32))])) _
    refine XS.iconst X7.here hx rfl (hb hby at_68) ?_
    show Steps p.tables e below (T7.setTop (mkF m 69 #[.val (.int p1), .val (.int p2), .val (.ref b1), .val (.ref b3), .val (.ref c5), .val (.ref c6), .val (.ref c7), .val (.int (3 : Int32)), .unset, .unset, .unset, .unset, .unset, .unset, .unset] [(.int (2 : Int32)), (.int (3 : Int32))])) _
    refine XS.icmpYes X7.here hx rfl (pc0 := 69) (pc' := 79) rfl (hb hby at_69) rfl (feq ((by decide) : ¬ ((3 : Int32) = (2 : Int32)))).2 (by decide) (by decide) ?_
    show Steps p.tables e below (T7.setTop (mkF m 79 #[.val (.int p1), .val (.int p2), .val (.ref b1), .val (.ref b3), .val (.ref c5), .val (.ref c6), .val (.ref c7), .val (.int (3 : Int32)), .unset, .unset, .unset, .unset, .unset, .unset, .unset] [])) _
    refine XS.aload X7.here hx rfl (hb hby at_79) rfl rfl ?_
    show Steps p.tables e below (T7.setTop (mkF m 81 #[.val (.int p1), .val (.int p2), .val (.ref b1), .val (.ref b3), .val (.ref c5), .val (.ref c6), .val (.ref c7), .val (.int (3 : Int32)), .unset, .unset, .unset, .unset, .unset, .unset, .unset] [(.ref c7)])) _
    refine XS.astore X7.here hx rfl (hb hby at_81) rfl rfl (l' := #[.val (.int p1), .val (.int p2), .val (.ref b1), .val (.ref b3), .val (.ref c5), .val (.ref c6), .val (.ref c7), .val (.int (3 : Int32)), .val (.ref c7), .unset, .unset, .unset, .unset, .unset, .unset]) rfl ?_
    show Steps p.tables e below (T7.setTop (mkF m 83 #[.val (.int p1), .val (.int p2), .val (.ref b1), .val (.ref b3), .val (.ref c5), .val (.ref c6), .val (.ref c7), .val (.int (3 : Int32)), .val (.ref c7), .unset, .unset, .unset, .unset, .unset, .unset] [])) _
    refine XS.aload X7.here hx rfl (hb hby at_83) rfl rfl ?_
    show Steps p.tables e below (T7.setTop (mkF m 85 #[.val (.int p1), .val (.int p2), .val (.ref b1), .val (.ref b3), .val (.ref c5), .val (.ref c6), .val (.ref c7), .val (.int (3 : Int32)), .val (.ref c7), .unset, .unset, .unset, .unset, .unset, .unset] [(.ref c7)])) _
    refine st8.trans ?_
    show Steps p.tables e below (T8.setTop (mkF m 88 #[.val (.int p1), .val (.int p2), .val (.ref b1), .val (.ref b3), .val (.ref c5), .val (.ref c6), .val (.ref c7), .val (.int (3 : Int32)), .val (.ref c7), .unset, .unset, .unset, .unset, .unset, .unset] [(.ref b3)])) _
    refine XS.astore X8.here hx rfl (hb hby at_88) rfl rfl (l' := #[.val (.int p1), .val (.int p2), .val (.ref b1), .val (.ref b3), .val (.ref c5), .val (.ref c6), .val (.ref c7), .val (.int (3 : Int32)), .val (.ref c7), .val (.ref b3), .unset, .unset, .unset, .unset, .unset]) rfl ?_
    show Steps p.tables e below (T8.setTop (mkF m 90 #[.val (.int p1), .val (.int p2), .val (.ref b1), .val (.ref b3), .val (.ref c5), .val (.ref c6), .val (.ref c7), .val (.int (3 : Int32)), .val (.ref c7), .val (.ref b3), .unset, .unset, .unset, .unset, .unset] [])) _
    refine XS.aload X8.here hx rfl (hb hby at_90) rfl rfl ?_
    show Steps p.tables e below (T8.setTop (mkF m 92 #[.val (.int p1), .val (.int p2), .val (.ref b1), .val (.ref b3), .val (.ref c5), .val (.ref c6), .val (.ref c7), .val (.int (3 : Int32)), .val (.ref c7), .val (.ref b3), .unset, .unset, .unset, .unset, .unset] [(.ref b3)])) _
    refine XS.aloadN X8.here hx rfl (hb hby at_92) rfl rfl ?_
    show Steps p.tables e below (T8.setTop (mkF m 93 #[.val (.int p1), .val (.int p2), .val (.ref b1), .val (.ref b3), .val (.ref c5), .val (.ref c6), .val (.ref c7), .val (.int (3 : Int32)), .val (.ref c7), .val (.ref b3), .unset, .unset, .unset, .unset, .unset] [(.ref b3), (.ref b3)])) _
    refine Jvm.RoadKit.acmp (g := (mkF m 93 #[.val (.int p1), .val (.int p2), .val (.ref b1), .val (.ref b3), .val (.ref c5), .val (.ref c6), .val (.ref c7), .val (.int (3 : Int32)), .val (.ref c7), .val (.ref b3), .unset, .unset, .unset, .unset, .unset] [(.ref b3), (.ref b3)])) X8 hx rfl rfl rfl (pc0 := 93) (pc' := 96) (same := true) rfl (hb hby at_93) rfl (decide_eq_true rfl) (by decide) (by decide) ?_
    show Steps p.tables e below (T8.setTop (mkF m 96 #[.val (.int p1), .val (.int p2), .val (.ref b1), .val (.ref b3), .val (.ref c5), .val (.ref c6), .val (.ref c7), .val (.int (3 : Int32)), .val (.ref c7), .val (.ref b3), .unset, .unset, .unset, .unset, .unset] [])) _
    refine XS.aload X8.here hx rfl (hb hby at_96) rfl rfl ?_
    show Steps p.tables e below (T8.setTop (mkF m 98 #[.val (.int p1), .val (.int p2), .val (.ref b1), .val (.ref b3), .val (.ref c5), .val (.ref c6), .val (.ref c7), .val (.int (3 : Int32)), .val (.ref c7), .val (.ref b3), .unset, .unset, .unset, .unset, .unset] [(.ref b3)])) _
    refine st9.trans ?_
    show Steps p.tables e below (T9.setTop (mkF m 101 #[.val (.int p1), .val (.int p2), .val (.ref b1), .val (.ref b3), .val (.ref c5), .val (.ref c6), .val (.ref c7), .val (.int (3 : Int32)), .val (.ref c7), .val (.ref b3), .unset, .unset, .unset, .unset, .unset] [(.ref b3)])) _
    refine XS.aloadN X9.here hx rfl (hb hby at_101) rfl rfl ?_
    show Steps p.tables e below (T9.setTop (mkF m 102 #[.val (.int p1), .val (.int p2), .val (.ref b1), .val (.ref b3), .val (.ref c5), .val (.ref c6), .val (.ref c7), .val (.int (3 : Int32)), .val (.ref c7), .val (.ref b3), .unset, .unset, .unset, .unset, .unset] [(.ref b3), (.ref b3)])) _
    refine Jvm.RoadKit.acmp (g := (mkF m 102 #[.val (.int p1), .val (.int p2), .val (.ref b1), .val (.ref b3), .val (.ref c5), .val (.ref c6), .val (.ref c7), .val (.int (3 : Int32)), .val (.ref c7), .val (.ref b3), .unset, .unset, .unset, .unset, .unset] [(.ref b3), (.ref b3)])) X9 hx rfl rfl rfl (pc0 := 102) (pc' := 105) (same := true) rfl (hb hby at_102) rfl (decide_eq_true rfl) (by decide) (by decide) ?_
    show Steps p.tables e below (T9.setTop (mkF m 105 #[.val (.int p1), .val (.int p2), .val (.ref b1), .val (.ref b3), .val (.ref c5), .val (.ref c6), .val (.ref c7), .val (.int (3 : Int32)), .val (.ref c7), .val (.ref b3), .unset, .unset, .unset, .unset, .unset] [])) _
    refine XS.iconst X9.here hx rfl (hb hby at_105) ?_
    show Steps p.tables e below (T9.setTop (mkF m 106 #[.val (.int p1), .val (.int p2), .val (.ref b1), .val (.ref b3), .val (.ref c5), .val (.ref c6), .val (.ref c7), .val (.int (3 : Int32)), .val (.ref c7), .val (.ref b3), .unset, .unset, .unset, .unset, .unset] [(.int (1 : Int32))])) _
    refine XS.goto X9.here hx rfl (pc0 := 106) (pc' := 110) rfl (hb hby at_106) (by decide) (by decide) ?_
    show Steps p.tables e below (T9.setTop (mkF m 110 #[.val (.int p1), .val (.int p2), .val (.ref b1), .val (.ref b3), .val (.ref c5), .val (.ref c6), .val (.ref c7), .val (.int (3 : Int32)), .val (.ref c7), .val (.ref b3), .unset, .unset, .unset, .unset, .unset] [(.int (1 : Int32))])) _
    refine XS.istore X9.here hx rfl (hb hby at_110) rfl (l' := #[.val (.int p1), .val (.int p2), .val (.ref b1), .val (.ref b3), .val (.ref c5), .val (.ref c6), .val (.ref c7), .val (.int (3 : Int32)), .val (.ref c7), .val (.ref b3), .val (.int (1 : Int32)), .unset, .unset, .unset, .unset]) rfl ?_
    show Steps p.tables e below (T9.setTop (mkF m 112 #[.val (.int p1), .val (.int p2), .val (.ref b1), .val (.ref b3), .val (.ref c5), .val (.ref c6), .val (.ref c7), .val (.int (3 : Int32)), .val (.ref c7), .val (.ref b3), .val (.int (1 : Int32)), .unset, .unset, .unset, .unset] [])) _
    refine st10 _ ?_
    show Steps p.tables e below (T10.setTop (mkF m 115 #[.val (.int p1), .val (.int p2), .val (.ref b1), .val (.ref b3), .val (.ref c5), .val (.ref c6), .val (.ref c7), .val (.int (3 : Int32)), .val (.ref c7), .val (.ref b3), .val (.int (1 : Int32)), .unset, .unset, .unset, .unset] [(.ref b10)])) _
    refine XS.dup X10.here hx rfl (hb hby at_115) rfl rfl ?_
    show Steps p.tables e below (T10.setTop (mkF m 116 #[.val (.int p1), .val (.int p2), .val (.ref b1), .val (.ref b3), .val (.ref c5), .val (.ref c6), .val (.ref c7), .val (.int (3 : Int32)), .val (.ref c7), .val (.ref b3), .val (.int (1 : Int32)), .unset, .unset, .unset, .unset] [(.ref b10), (.ref b10)])) _
    refine XS.aloadN X10.here hx rfl (hb hby at_116) rfl rfl ?_
    show Steps p.tables e below (T10.setTop (mkF m 117 #[.val (.int p1), .val (.int p2), .val (.ref b1), .val (.ref b3), .val (.ref c5), .val (.ref c6), .val (.ref c7), .val (.int (3 : Int32)), .val (.ref c7), .val (.ref b3), .val (.int (1 : Int32)), .unset, .unset, .unset, .unset] [(.ref b1), (.ref b10), (.ref b10)])) _
    refine st11.trans ?_
    show Steps p.tables e below (T11.setTop (mkF m 120 #[.val (.int p1), .val (.int p2), .val (.ref b1), .val (.ref b3), .val (.ref c5), .val (.ref c6), .val (.ref c7), .val (.int (3 : Int32)), .val (.ref c7), .val (.ref b3), .val (.int (1 : Int32)), .unset, .unset, .unset, .unset] [(.ref b10)])) _
    refine XS.astore X11.here hx rfl (hb hby at_120) rfl rfl (l' := #[.val (.int p1), .val (.int p2), .val (.ref b1), .val (.ref b3), .val (.ref c5), .val (.ref c6), .val (.ref c7), .val (.int (3 : Int32)), .val (.ref c7), .val (.ref b3), .val (.int (1 : Int32)), .val (.ref b10), .unset, .unset, .unset]) rfl ?_
    show Steps p.tables e below (T11.setTop (mkF m 122 #[.val (.int p1), .val (.int p2), .val (.ref b1), .val (.ref b3), .val (.ref c5), .val (.ref c6), .val (.ref c7), .val (.int (3 : Int32)), .val (.ref c7), .val (.ref b3), .val (.int (1 : Int32)), .val (.ref b10), .unset, .unset, .unset] [])) _
    refine XS.iloadN X11.here hx rfl (hb hby at_122) rfl ?_
    show Steps p.tables e below (T11.setTop (mkF m 123 #[.val (.int p1), .val (.int p2), .val (.ref b1), .val (.ref b3), .val (.ref c5), .val (.ref c6), .val (.ref c7), .val (.int (3 : Int32)), .val (.ref c7), .val (.ref b3), .val (.int (1 : Int32)), .val (.ref b10), .unset, .unset, .unset] [(.int p2)])) _
    refine XS.iconst X11.here hx rfl (hb hby at_123) ?_
    show Steps p.tables e below (T11.setTop (mkF m 124 #[.val (.int p1), .val (.int p2), .val (.ref b1), .val (.ref b3), .val (.ref c5), .val (.ref c6), .val (.ref c7), .val (.int (3 : Int32)), .val (.ref c7), .val (.ref b3), .val (.int (1 : Int32)), .val (.ref b10), .unset, .unset, .unset] [(.int (1 : Int32)), (.int p2)])) _
    refine XS.iand X11.here hx rfl (hb hby at_124) rfl ?_
    show Steps p.tables e below (T11.setTop (mkF m 125 #[.val (.int p1), .val (.int p2), .val (.ref b1), .val (.ref b3), .val (.ref c5), .val (.ref c6), .val (.ref c7), .val (.int (3 : Int32)), .val (.ref c7), .val (.ref b3), .val (.int (1 : Int32)), .val (.ref b10), .unset, .unset, .unset] [(.int (p2 &&& (1 : Int32)))])) _
    refine XS.ifNo X11.here hx rfl (hb hby at_125) rfl ((if0 _ _).trans (feq (hc125 : ¬ ((p2 &&& (1 : Int32)) = (0 : Int32)))).1) ?_
    show Steps p.tables e below (T11.setTop (mkF m 128 #[.val (.int p1), .val (.int p2), .val (.ref b1), .val (.ref b3), .val (.ref c5), .val (.ref c6), .val (.ref c7), .val (.int (3 : Int32)), .val (.ref c7), .val (.ref b3), .val (.int (1 : Int32)), .val (.ref b10), .unset, .unset, .unset] [])) _
    refine XS.aload X11.here hx rfl (hb hby at_128) rfl rfl ?_
    show Steps p.tables e below (T11.setTop (mkF m 130 #[.val (.int p1), .val (.int p2), .val (.ref b1), .val (.ref b3), .val (.ref c5), .val (.ref c6), .val (.ref c7), .val (.int (3 : Int32)), .val (.ref c7), .val (.ref b3), .val (.int (1 : Int32)), .val (.ref b10), .unset, .unset, .unset] [(.ref b10)])) _
    refine st12.trans ?_
    show Steps p.tables e below (T12.setTop (mkF m 133 #[.val (.int p1), .val (.int p2), .val (.ref b1), .val (.ref b3), .val (.ref c5), .val (.ref c6), .val (.ref c7), .val (.int (3 : Int32)), .val (.ref c7), .val (.ref b3), .val (.int (1 : Int32)), .val (.ref b10), .unset, .unset, .unset] [(.ref c12)])) _
    refine XS.goto X12.here hx rfl (pc0 := 133) (pc' := 138) rfl (hb hby at_133) (by decide) (by decide) ?_
    show Steps p.tables e below (T12.setTop (mkF m 138 #[.val (.int p1), .val (.int p2), .val (.ref b1), .val (.ref b3), .val (.ref c5), .val (.ref c6), .val (.ref c7), .val (.int (3 : Int32)), .val (.ref c7), .val (.ref b3), .val (.int (1 : Int32)), .val (.ref b10), .unset, .unset, .unset] [(.ref c12)])) _
    refine XS.astore X12.here hx rfl (hb hby at_138) rfl rfl (l' := #[.val (.int p1), .val (.int p2), .val (.ref b1), .val (.ref b3), .val (.ref c5), .val (.ref c6), .val (.ref c7), .val (.int (3 : Int32)), .val (.ref c7), .val (.ref b3), .val (.int (1 : Int32)), .val (.ref b10), .val (.ref c12), .unset, .unset]) rfl ?_
    show Steps p.tables e below (T12.setTop (mkF m 140 #[.val (.int p1), .val (.int p2), .val (.ref b1), .val (.ref b3), .val (.ref c5), .val (.ref c6), .val (.ref c7), .val (.int (3 : Int32)), .val (.ref c7), .val (.ref b3), .val (.int (1 : Int32)), .val (.ref b10), .val (.ref c12), .unset, .unset] [])) _
    refine XS.aload X12.here hx rfl (hb hby at_140) rfl rfl ?_
    show Steps p.tables e below (T12.setTop (mkF m 142 #[.val (.int p1), .val (.int p2), .val (.ref b1), .val (.ref b3), .val (.ref c5), .val (.ref c6), .val (.ref c7), .val (.int (3 : Int32)), .val (.ref c7), .val (.ref b3), .val (.int (1 : Int32)), .val (.ref b10), .val (.ref c12), .unset, .unset] [(.ref c12)])) _
    refine st13.trans ?_
    show Steps p.tables e below (T13.setTop (mkF m 145 #[.val (.int p1), .val (.int p2), .val (.ref b1), .val (.ref b3), .val (.ref c5), .val (.ref c6), .val (.ref c7), .val (.int (3 : Int32)), .val (.ref c7), .val (.ref b3), .val (.int (1 : Int32)), .val (.ref b10), .val (.ref c12), .unset, .unset] [(.ref b10)])) _
    refine XS.astore X13.here hx rfl (hb hby at_145) rfl rfl (l' := #[.val (.int p1), .val (.int p2), .val (.ref b1), .val (.ref b3), .val (.ref c5), .val (.ref c6), .val (.ref c7), .val (.int (3 : Int32)), .val (.ref c7), .val (.ref b3), .val (.int (1 : Int32)), .val (.ref b10), .val (.ref c12), .val (.ref b10), .unset]) rfl ?_
    show Steps p.tables e below (T13.setTop (mkF m 147 #[.val (.int p1), .val (.int p2), .val (.ref b1), .val (.ref b3), .val (.ref c5), .val (.ref c6), .val (.ref c7), .val (.int (3 : Int32)), .val (.ref c7), .val (.ref b3), .val (.int (1 : Int32)), .val (.ref b10), .val (.ref c12), .val (.ref b10), .unset] [])) _
    refine XS.aload X13.here hx rfl (hb hby at_147) rfl rfl ?_
    show Steps p.tables e below (T13.setTop (mkF m 149 #[.val (.int p1), .val (.int p2), .val (.ref b1), .val (.ref b3), .val (.ref c5), .val (.ref c6), .val (.ref c7), .val (.int (3 : Int32)), .val (.ref c7), .val (.ref b3), .val (.int (1 : Int32)), .val (.ref b10), .val (.ref c12), .val (.ref b10), .unset] [(.ref b10)])) _
    refine XS.aload X13.here hx rfl (hb hby at_149) rfl rfl ?_
    show Steps p.tables e below (T13.setTop (mkF m 151 #[.val (.int p1), .val (.int p2), .val (.ref b1), .val (.ref b3), .val (.ref c5), .val (.ref c6), .val (.ref c7), .val (.int (3 : Int32)), .val (.ref c7), .val (.ref b3), .val (.int (1 : Int32)), .val (.ref b10), .val (.ref c12), .val (.ref b10), .unset] [(.ref b10), (.ref b10)])) _
    refine Jvm.RoadKit.acmp (g := (mkF m 151 #[.val (.int p1), .val (.int p2), .val (.ref b1), .val (.ref b3), .val (.ref c5), .val (.ref c6), .val (.ref c7), .val (.int (3 : Int32)), .val (.ref c7), .val (.ref b3), .val (.int (1 : Int32)), .val (.ref b10), .val (.ref c12), .val (.ref b10), .unset] [(.ref b10), (.ref b10)])) X13 hx rfl rfl rfl (pc0 := 151) (pc' := 154) (same := true) rfl (hb hby at_151) rfl (decide_eq_true rfl) (by decide) (by decide) ?_
    show Steps p.tables e below (T13.setTop (mkF m 154 #[.val (.int p1), .val (.int p2), .val (.ref b1), .val (.ref b3), .val (.ref c5), .val (.ref c6), .val (.ref c7), .val (.int (3 : Int32)), .val (.ref c7), .val (.ref b3), .val (.int (1 : Int32)), .val (.ref b10), .val (.ref c12), .val (.ref b10), .unset] [])) _
    refine XS.aload X13.here hx rfl (hb hby at_154) rfl rfl ?_
    show Steps p.tables e below (T13.setTop (mkF m 156 #[.val (.int p1), .val (.int p2), .val (.ref b1), .val (.ref b3), .val (.ref c5), .val (.ref c6), .val (.ref c7), .val (.int (3 : Int32)), .val (.ref c7), .val (.ref b3), .val (.int (1 : Int32)), .val (.ref b10), .val (.ref c12), .val (.ref b10), .unset] [(.ref b10)])) _
    refine XS.aloadN X13.here hx rfl (hb hby at_156) rfl rfl ?_
    show Steps p.tables e below (T13.setTop (mkF m 157 #[.val (.int p1), .val (.int p2), .val (.ref b1), .val (.ref b3), .val (.ref c5), .val (.ref c6), .val (.ref c7), .val (.int (3 : Int32)), .val (.ref c7), .val (.ref b3), .val (.int (1 : Int32)), .val (.ref b10), .val (.ref c12), .val (.ref b10), .unset] [(.ref b3), (.ref b10)])) _
    refine Jvm.RoadKit.acmp (g := (mkF m 157 #[.val (.int p1), .val (.int p2), .val (.ref b1), .val (.ref b3), .val (.ref c5), .val (.ref c6), .val (.ref c7), .val (.int (3 : Int32)), .val (.ref c7), .val (.ref b3), .val (.int (1 : Int32)), .val (.ref b10), .val (.ref c12), .val (.ref b10), .unset] [(.ref b3), (.ref b10)])) X13 hx rfl rfl rfl (pc0 := 157) (pc' := 160) (same := false) rfl (hb hby at_157) rfl (decide_eq_false fun q => absurd (Value.ref.inj q) (Ne.symm ne_b3_b10)) (by decide) (by decide) ?_
    show Steps p.tables e below (T13.setTop (mkF m 160 #[.val (.int p1), .val (.int p2), .val (.ref b1), .val (.ref b3), .val (.ref c5), .val (.ref c6), .val (.ref c7), .val (.int (3 : Int32)), .val (.ref c7), .val (.ref b3), .val (.int (1 : Int32)), .val (.ref b10), .val (.ref c12), .val (.ref b10), .unset] [])) _
    refine XS.iconst X13.here hx rfl (hb hby at_160) ?_
    show Steps p.tables e below (T13.setTop (mkF m 161 #[.val (.int p1), .val (.int p2), .val (.ref b1), .val (.ref b3), .val (.ref c5), .val (.ref c6), .val (.ref c7), .val (.int (3 : Int32)), .val (.ref c7), .val (.ref b3), .val (.int (1 : Int32)), .val (.ref b10), .val (.ref c12), .val (.ref b10), .unset] [(.int (1 : Int32))])) _
    refine XS.goto X13.here hx rfl (pc0 := 161) (pc' := 165) rfl (hb hby at_161) (by decide) (by decide) ?_
    show Steps p.tables e below (T13.setTop (mkF m 165 #[.val (.int p1), .val (.int p2), .val (.ref b1), .val (.ref b3), .val (.ref c5), .val (.ref c6), .val (.ref c7), .val (.int (3 : Int32)), .val (.ref c7), .val (.ref b3), .val (.int (1 : Int32)), .val (.ref b10), .val (.ref c12), .val (.ref b10), .unset] [(.int (1 : Int32))])) _
    refine XS.istore X13.here hx rfl (hb hby at_165) rfl (l' := #[.val (.int p1), .val (.int p2), .val (.ref b1), .val (.ref b3), .val (.ref c5), .val (.ref c6), .val (.ref c7), .val (.int (3 : Int32)), .val (.ref c7), .val (.ref b3), .val (.int (1 : Int32)), .val (.ref b10), .val (.ref c12), .val (.ref b10), .val (.int (1 : Int32))]) rfl ?_
    show Steps p.tables e below (T13.setTop (mkF m 167 #[.val (.int p1), .val (.int p2), .val (.ref b1), .val (.ref b3), .val (.ref c5), .val (.ref c6), .val (.ref c7), .val (.int (3 : Int32)), .val (.ref c7), .val (.ref b3), .val (.int (1 : Int32)), .val (.ref b10), .val (.ref c12), .val (.ref b10), .val (.int (1 : Int32))] [])) _
    refine XS.iload X13.here hx rfl (hb hby at_167) rfl ?_
    show Steps p.tables e below (T13.setTop (mkF m 169 #[.val (.int p1), .val (.int p2), .val (.ref b1), .val (.ref b3), .val (.ref c5), .val (.ref c6), .val (.ref c7), .val (.int (3 : Int32)), .val (.ref c7), .val (.ref b3), .val (.int (1 : Int32)), .val (.ref b10), .val (.ref c12), .val (.ref b10), .val (.int (1 : Int32))] [(.int (1 : Int32))])) _
    refine XS.ifNo X13.here hx rfl (hb hby at_169) rfl ((if0 _ _).trans (feq ((by decide) : ¬ ((1 : Int32) = (0 : Int32)))).1) ?_
    show Steps p.tables e below (T13.setTop (mkF m 172 #[.val (.int p1), .val (.int p2), .val (.ref b1), .val (.ref b3), .val (.ref c5), .val (.ref c6), .val (.ref c7), .val (.int (3 : Int32)), .val (.ref c7), .val (.ref b3), .val (.int (1 : Int32)), .val (.ref b10), .val (.ref c12), .val (.ref b10), .val (.int (1 : Int32))] [])) _
    refine XS.iload X13.here hx rfl (hb hby at_172) rfl ?_
    show Steps p.tables e below (T13.setTop (mkF m 174 #[.val (.int p1), .val (.int p2), .val (.ref b1), .val (.ref b3), .val (.ref c5), .val (.ref c6), .val (.ref c7), .val (.int (3 : Int32)), .val (.ref c7), .val (.ref b3), .val (.int (1 : Int32)), .val (.ref b10), .val (.ref c12), .val (.ref b10), .val (.int (1 : Int32))] [(.int (1 : Int32))])) _
    refine XS.ifNo X13.here hx rfl (hb hby at_174) rfl ((if0 _ _).trans (feq ((by decide) : ¬ ((1 : Int32) = (0 : Int32)))).1) ?_
    show Steps p.tables e below (T13.setTop (mkF m 177 #[.val (.int p1), .val (.int p2), .val (.ref b1), .val (.ref b3), .val (.ref c5), .val (.ref c6), .val (.ref c7), .val (.int (3 : Int32)), .val (.ref c7), .val (.ref b3), .val (.int (1 : Int32)), .val (.ref b10), .val (.ref c12), .val (.ref b10), .val (.int (1 : Int32))] [])) _
    refine XS.iconst X13.here hx rfl (hb hby at_177) ?_
    show Steps p.tables e below (T13.setTop (mkF m 178 #[.val (.int p1), .val (.int p2), .val (.ref b1), .val (.ref b3), .val (.ref c5), .val (.ref c6), .val (.ref c7), .val (.int (3 : Int32)), .val (.ref c7), .val (.ref b3), .val (.int (1 : Int32)), .val (.ref b10), .val (.ref c12), .val (.ref b10), .val (.int (1 : Int32))] [(.int (1 : Int32))])) _
    refine XS.goto X13.here hx rfl (pc0 := 178) (pc' := 182) rfl (hb hby at_178) (by decide) (by decide) ?_
    show Steps p.tables e below (T13.setTop (mkF m 182 #[.val (.int p1), .val (.int p2), .val (.ref b1), .val (.ref b3), .val (.ref c5), .val (.ref c6), .val (.ref c7), .val (.int (3 : Int32)), .val (.ref c7), .val (.ref b3), .val (.int (1 : Int32)), .val (.ref b10), .val (.ref c12), .val (.ref b10), .val (.int (1 : Int32))] [(.int (1 : Int32))])) _
    exact retN X13 hx (t := .boolean) Bd.returns (by simp) (hb hby at_182) hr
  · show Q0 Z p1 p2 h0 n0 _ T13.heap _
    rw [eh13]
    exact ⟨rfl, N13⟩
theorem own_four (p1 : Int32) : (p1 &&& (3 : Int32)) = (0 : Int32) ∨ (p1 &&& (3 : Int32)) = (1 : Int32) ∨ (p1 &&& (3 : Int32)) = (2 : Int32) ∨ (p1 &&& (3 : Int32)) = (3 : Int32) := by
  have h0 : (p1 &&& (3 : Int32)).toInt = p1.toInt % 4 := Jvm.Kit.i32_mask p1 3 (k := 2) (by decide) (by decide)
  have h2 : (p1 &&& (3 : Int32)).toInt = 0 ∨ (p1 &&& (3 : Int32)).toInt = 1 ∨ (p1 &&& (3 : Int32)).toInt = 2 ∨ (p1 &&& (3 : Int32)).toInt = 3 := by omega
  rcases h2 with h | h | h | h
  · exact Or.inl (Int32.toInt_inj.mp h)
  · exact Or.inr (Or.inl (Int32.toInt_inj.mp h))
  · exact Or.inr (Or.inr (Or.inl (Int32.toInt_inj.mp h)))
  · exact Or.inr (Or.inr (Or.inr (Int32.toInt_inj.mp h)))
theorem rm0 (l : Launch) (Z : State) (a0 : Array Value) (hw : ∀ d ∈ tables_1, d.before a0 Z = true) (ws : List Jvm.Cond) (p1 p2 : Int32) (h0 : Heap) (n0 : Nat) (Z0 : n0 ≤ h0.size) : MetFree l x (head1 (Jvm.Cond.code x code maxLocals ret :: ws) room_1) (fun a U => a = #[(.int p1), (.int p2)] ∧ Z.Warmed39 U.vm ∧ U.heap = h0) (fun _ _ _ _ _ => True) (fun _ U o U' => ∃ v L, o = .returned v ∧ Q0 Z p1 p2 h0 n0 v U'.heap L ∧ FrameEnd U o U' L room_1.cells room_1.slots) := by
  by_cases ho : (p2 &&& (1 : Int32)) = (0 : Int32)
  · rcases own_four p1 with h | h | h | h
    · exact rm0_0t l Z a0 hw ws p1 p2 h0 n0 Z0 h ho
    · exact rm0_1t l Z a0 hw ws p1 p2 h0 n0 Z0 h ho
    · exact rm0_2t l Z a0 hw ws p1 p2 h0 n0 Z0 h ho
    · exact rm0_3t l Z a0 hw ws p1 p2 h0 n0 Z0 h ho
  · rcases own_four p1 with h | h | h | h
    · exact rm0_0f l Z a0 hw ws p1 p2 h0 n0 Z0 h ho
    · exact rm0_1f l Z a0 hw ws p1 p2 h0 n0 Z0 h ho
    · exact rm0_2f l Z a0 hw ws p1 p2 h0 n0 Z0 h ho
    · exact rm0_3f l Z a0 hw ws p1 p2 h0 n0 Z0 h ho
set_option maxRecDepth 65536 in
set_option maxHeartbeats 40000000 in
theorem comes_1 {Post : Tables → Env → Array Value → State → Outcome → State → Prop} (hpost : ∀ tb e args s v u, (limb_1_1.after args s (.returned v) u = true ∧ limb_1_2.after args s (.returned v) u = true ∧ True) → FrameEnd s (.returned v) u (Jvm.fieldLocs frame_1_writes args s ++ Jvm.arrayLocs frame_1_arrays args s ++ Jvm.staticLocs frame_1_statics s) 32 192 → Post tb e args s (.returned v) u) :
    ArmFor flags0 classFile x code maxLocals ret World_1 tables_1 room_1 Calls_1 rest_1 Pre_1 Post := by
  intro l hfl _ _ p e ha hc hk s m args below hf hA hF happ hP
  obtain ⟨hcalls, hrest, hpre⟩ := hP
  obtain ⟨-, -, -, hnamed, -, -, -, hat⟩ := (Spec.applies_iff hf).mp happ
  obtain ⟨hg, hn⟩ := and_e (Cond.before_iff.mp (show (Jvm.Cond.and given_1 narrow_1).before args s = true from hpre))
  obtain ⟨u0, r0⟩ := and_e hg
  obtain ⟨u1, r1⟩ := and_e r0
  obtain ⟨w0, w1, rfl⟩ : ∃ w0 w1 : Value, args = #[w0, w1] := by
    have hs : args.size = 2 := by simpa [Cond.value, given_1] using u0
    obtain ⟨L⟩ := args
    match L, hs with
    | [w0, w1], _ => exact ⟨w0, w1, rfl⟩
  have hw := fun d (hd : d ∈ tables_1) => atoms_spec (ws := Jvm.Cond.code x code maxLocals ret :: tables_1) hat d (List.mem_cons_of_mem _ hd)
  obtain ⟨i0, ei0⟩ := is_v u1
  obtain rfl : w0 = (.int i0) := Option.some.inj ei0
  obtain ⟨i1, ei1⟩ := is_v r1
  obtain rfl : w1 = (.int i1) := Option.some.inj ei1
  obtain ⟨n, o, h1, h2, h3, _, L, rfl, ⟨rfl, N⟩, hq⟩ := rm0 l s _ hw tables_1 i0 i1 s.heap s.heap.size (Nat.le_refl _) p e ha hc hk s m _ below hf ((Spec.applies_iff_loose hf).mp happ).1 ⟨rfl, State.Warmed39.refl s, rfl⟩ trivial
  refine ⟨n, _, h1, h2, h3, hpost _ _ _ _ _ _ ⟨Cond.after_iff.mpr rfl, Cond.after_iff.mpr (eq_i res_at (Term.int_eval (1)) rfl), trivial⟩ ⟨hq.1, hq.2.1, (hq.2.2.sift fun y hy => Or.inr (N y hy)).mono (by decide) (by decide)⟩⟩
theorem main_1_1 : Claimed_1_1 := comes_1 fun _ _ _ _ _ _ h hF => ⟨h.1, hF⟩
theorem main_1_2 : Claimed_1_2 := comes_1 fun _ _ _ _ _ _ h hF => ⟨h.2.1, hF⟩
end Jvm.Pilot.@@N@@
namespace Jvm.Pilot.@@N@@
open Jvm Jvm.ClassFile Sem Op Lib Jvm.Free Jvm.Stand Jvm.Pilot.@@N@@.Jvm.D
/-! MADE BY PROGRAM (witnessworld.py) out of the Statement's table words and the real class files: 11 classes; the members and pool entries that the words name. The judged class is class 1, her method 1. -/
namespace start1
open Jvm.ClassFile
def u (s : String) : CpInfo := .utf8 (stringToUtf16 s)
/-- a pool by its gaps: so many unusable entries, then the entry; so many at the end -/
def gap : Nat → List CpInfo → List CpInfo
  | 0, r => r
  | n + 1, r => .unusable :: gap n r
def poolList (es : List (Nat × CpInfo)) (last : Nat) : List CpInfo := es.foldr (fun e r => gap e.1 (e.2 :: r)) (gap last [])
def pool (es : List (Nat × CpInfo)) (last : Nat) : Array CpInfo := ⟨poolList es last⟩
def fileOf (pool : Array CpInfo) (this : Nat) (attrs : Array Attribute := #[]) (ms : Array MethodInfo := #[]) (fl : Nat := 33) (sup : Nat := 0) (ifs : Array Nat := #[]) (fds : Array FieldInfo := #[]) : ClassFile where
  minorVersion := 0
  majorVersion := 65
  constantPool := pool
  accessFlags := fl
  thisClass := this
  superClass := sup
  interfaces := ifs
  fields := fds
  methods := ms
  attributes := attrs
def plain (name : String) (sup : Option ClassId) : Class where
  name := name
  kind := .ordinary
  loader := none
  accessFlags := 33
  super := sup
  interfaces := #[]
  cf := none
  fields := #[]
  methods := #[]
  instanceTypes := #[]
  staticTypes := #[]
  resolved := #[]
  callSites := []
  init := .initialized
  statics := none
  mirror := none

def pool0 : Array CpInfo := pool [(5, u "<init>"), (0, u "()V"), (1, .class_ 10), (1, u "java/lang/Object")] 113

def k0c0 : Code := { maxStack := 0, maxLocals := 1, code := object_method_1_code, exceptionTable := #[], attributes := #[] }
def k0m0 : Method := { name := "<init>", desc := "()V", sig := { parameters := [], returnType := none }, accessFlags := 1, code := some k0c0 }
/-- java/lang/Object -/
def k0 : Class := { plain "java/lang/Object" none with
  accessFlags := 33
  interfaces := #[]
  cf := some (fileOf pool0 8 #[] #[{ accessFlags := 1, nameIndex := 5, descriptorIndex := 6, attributes := #[] }] 33 0 #[] #[])
  fields := #[]
  methods := #[k0m0]
  instanceTypes := #[]
  staticTypes := #[]
  resolved := Array.replicate 124 none
  statics := none }

def pool1 : Array CpInfo := pool [(2, .class_ 4), (0, .nameAndType 5 6), (0, u "java/lang/Object"), (0, u "<init>"), (0, u "()V"), (0, .class_ 8), (0, u "com/example/roteiro/roteiro/lang/Libraries"), (0, .methodref 7 3), (0, .class_ 11), (0, u "com/example/roteiro/roteiro/lang/Scope"), (0, .methodref 10 13), (0, .nameAndType 5 14), (0, u "(Lcom/example/roteiro/roteiro/lang/Libraries;)V"), (0, .methodref 10 16), (0, .nameAndType 17 18), (0, u "child"), (0, u "()Lcom/example/roteiro/roteiro/lang/Scope;"), (0, .methodref 10 20), (0, .nameAndType 21 18), (0, u "root"), (0, .class_ 23), (0, u "com/example/roteiro/roteiro/lang/ScopeRootPinLaw"), (2, u "law"), (0, u "(II)Z")] 3

def k1m0 : Method := { name := "<init>", desc := "()V", sig := { parameters := [], returnType := none }, accessFlags := 2, code := none }
def k1c1 : Code := { maxStack := 3, maxLocals := 15, code := code, exceptionTable := #[], attributes := #[] }
def k1m1 : Method := { name := "law", desc := "(II)Z", sig := { parameters := [.int, .int], returnType := some .boolean }, accessFlags := 9, code := some k1c1 }
/-- com/example/roteiro/roteiro/lang/ScopeRootPinLaw -/
def k1 : Class := { plain "com/example/roteiro/roteiro/lang/ScopeRootPinLaw" (some 0) with
  accessFlags := 49
  interfaces := #[]
  cf := some (fileOf pool1 22 #[] #[{ accessFlags := 2, nameIndex := 5, descriptorIndex := 6, attributes := #[] }, { accessFlags := 9, nameIndex := 26, descriptorIndex := 27, attributes := #[] }] 49 2 #[] #[])
  fields := #[]
  methods := #[k1m0, k1m1]
  instanceTypes := #[]
  staticTypes := #[]
  resolved := Array.replicate 31 none
  statics := none }

def pool2 : Array CpInfo := pool [(1, .methodref 2 3), (0, .class_ 4), (0, .nameAndType 5 6), (0, u "java/lang/Object"), (0, u "<init>"), (0, u "()V"), (0, .class_ 8), (0, u "java/util/HashMap"), (0, .methodref 7 3), (0, .fieldref 11 12), (0, .class_ 13), (0, .nameAndType 14 15), (0, u "com/example/roteiro/roteiro/lang/Libraries"), (0, u "elements"), (0, u "Ljava/util/Map;"), (0, .fieldref 11 17), (0, .nameAndType 18 15), (0, u "bareNames")] 158

def k2c0 : Code := { maxStack := 3, maxLocals := 1, code := prog_98_method_1_code, exceptionTable := #[], attributes := #[] }
def k2m0 : Method := { name := "<init>", desc := "()V", sig := { parameters := [], returnType := none }, accessFlags := 0, code := some k2c0 }
/-- com/example/roteiro/roteiro/lang/Libraries -/
def k2 : Class := { plain "com/example/roteiro/roteiro/lang/Libraries" (some 0) with
  accessFlags := 48
  interfaces := #[]
  cf := some (fileOf pool2 11 #[] #[{ accessFlags := 0, nameIndex := 5, descriptorIndex := 6, attributes := #[] }] 48 2 #[] #[{ accessFlags := 18, nameIndex := 14, descriptorIndex := 15, attributes := #[] }, { accessFlags := 18, nameIndex := 18, descriptorIndex := 15, attributes := #[] }])
  fields := #[{ name := "elements", type := (.object "java/util/Map"), accessFlags := 18, slot := 0, constantValue := 0 }, { name := "bareNames", type := (.object "java/util/Map"), accessFlags := 18, slot := 1, constantValue := 0 }]
  methods := #[k2m0]
  instanceTypes := #[(.object "java/util/Map"), (.object "java/util/Map")]
  staticTypes := #[]
  resolved := Array.replicate 177 none
  statics := none }

def pool3 : Array CpInfo := pool [(2, .class_ 4), (1, u "java/util/Map"), (31, .class_ 37), (0, u "java/util/Map$Entry"), (55, .class_ 94), (0, u "java/lang/Object")] 168

/-- java/util/Map -/
def k3 : Class := { plain "java/util/Map" (some 0) with
  accessFlags := 1537
  interfaces := #[]
  cf := some (fileOf pool3 2 #[.nestMembers #[36]] #[] 1537 93 #[] #[])
  fields := #[]
  methods := #[]
  instanceTypes := #[]
  staticTypes := #[]
  resolved := Array.replicate 263 none
  statics := none }

def pool4 : Array CpInfo := pool [(1, .methodref 2 3), (0, .class_ 4), (0, .nameAndType 5 6), (0, u "java/lang/Object"), (0, u "<init>"), (0, u "()V"), (1, .class_ 10), (1, u "java/util/AbstractMap"), (42, .class_ 54), (0, u "java/util/Map"), (9, u "keySet"), (0, u "Ljava/util/Set;"), (0, .class_ 67), (0, u "java/util/AbstractMap$1"), (5, u "values"), (0, u "Ljava/util/Collection;"), (0, .class_ 76), (0, u "java/util/AbstractMap$2"), (104, .class_ 182), (0, u "java/util/AbstractMap$ViewCollection"), (0, .class_ 184), (0, u "java/util/AbstractMap$SimpleImmutableEntry"), (0, .class_ 186), (0, u "java/util/AbstractMap$SimpleEntry"), (0, .class_ 188), (0, u "java/util/AbstractMap$2$1"), (0, .class_ 190), (0, u "java/util/AbstractMap$1$1")] 5

def k4c0 : Code := { maxStack := 1, maxLocals := 1, code := jdk_71_method_1_code, exceptionTable := #[], attributes := #[] }
def k4m0 : Method := { name := "<init>", desc := "()V", sig := { parameters := [], returnType := none }, accessFlags := 4, code := some k4c0 }
/-- java/util/AbstractMap -/
def k4 : Class := { plain "java/util/AbstractMap" (some 0) with
  accessFlags := 1057
  interfaces := #[3]
  cf := some (fileOf pool4 8 #[.nestMembers #[181, 183, 185, 75, 187, 66, 189]] #[{ accessFlags := 4, nameIndex := 5, descriptorIndex := 6, attributes := #[] }] 1057 2 #[53] #[{ accessFlags := 128, nameIndex := 64, descriptorIndex := 65, attributes := #[] }, { accessFlags := 128, nameIndex := 73, descriptorIndex := 74, attributes := #[] }])
  fields := #[{ name := "keySet", type := (.object "java/util/Set"), accessFlags := 128, slot := 0, constantValue := 0 }, { name := "values", type := (.object "java/util/Collection"), accessFlags := 128, slot := 1, constantValue := 0 }]
  methods := #[k4m0]
  instanceTypes := #[(.object "java/util/Set"), (.object "java/util/Collection")]
  staticTypes := #[]
  resolved := Array.replicate 196 none
  statics := none }

def pool5 : Array CpInfo := pool [(1, .class_ 2), (0, u "java/lang/Cloneable"), (0, .class_ 4), (0, u "java/lang/Object")] 2

/-- java/lang/Cloneable -/
def k5 : Class := { plain "java/lang/Cloneable" (some 0) with
  accessFlags := 1537
  interfaces := #[]
  cf := some (fileOf pool5 1 #[] #[] 1537 3 #[] #[])
  fields := #[]
  methods := #[]
  instanceTypes := #[]
  staticTypes := #[]
  resolved := Array.replicate 7 none
  statics := none }

def pool6 : Array CpInfo := pool [(1, .class_ 2), (0, u "java/io/Serializable"), (0, .class_ 4), (0, u "java/lang/Object")] 2

/-- java/io/Serializable -/
def k6 : Class := { plain "java/io/Serializable" (some 0) with
  accessFlags := 1537
  interfaces := #[]
  cf := some (fileOf pool6 1 #[] #[] 1537 3 #[] #[])
  fields := #[]
  methods := #[]
  instanceTypes := #[]
  staticTypes := #[]
  resolved := Array.replicate 7 none
  statics := none }

def pool7 : Array CpInfo := pool [(40, .class_ 41), (0, u "java/util/HashMap"), (1, .methodref 44 45), (0, .class_ 46), (0, .nameAndType 47 48), (0, u "java/util/AbstractMap"), (0, u "<init>"), (0, u "()V"), (32, .fieldref 40 82), (0, .nameAndType 83 84), (0, u "loadFactor"), (0, u "F"), (5, u "threshold"), (0, u "I"), (0, .float 1061158912), (8, .class_ 103), (1, u "java/util/Map"), (0, u "size"), (2, u "table"), (0, u "[Ljava/util/HashMap$Node;"), (14, u "entrySet"), (39, .class_ 165), (1, u "java/util/HashMap$Node"), (14, .class_ 181), (0, u "java/util/HashMap$TreeNode"), (22, u "modCount"), (37, u "Ljava/util/Set;"), (0, .class_ 244), (0, u "java/util/HashMap$KeySet"), (18, .class_ 264), (0, u "java/util/HashMap$Values"), (3, .class_ 269), (0, u "java/util/HashMap$EntrySet"), (76, .class_ 348), (1, u "java/util/HashMap$UnsafeHolder"), (43, .class_ 393), (0, u "java/lang/Cloneable"), (0, .class_ 395), (0, u "java/io/Serializable"), (0, u "serialVersionUID"), (0, u "J"), (3, u "DEFAULT_INITIAL_CAPACITY"), (1, u "MAXIMUM_CAPACITY"), (0, u "DEFAULT_LOAD_FACTOR"), (0, u "TREEIFY_THRESHOLD"), (1, u "UNTREEIFY_THRESHOLD"), (1, u "MIN_TREEIFY_CAPACITY"), (186, .class_ 597), (0, u "java/util/HashMap$EntrySpliterator"), (0, .class_ 599), (0, u "java/util/HashMap$ValueSpliterator"), (0, .class_ 601), (0, u "java/util/HashMap$KeySpliterator"), (0, .class_ 603), (0, u "java/util/HashMap$HashMapSpliterator"), (0, .class_ 605), (0, u "java/util/HashMap$EntryIterator"), (0, .class_ 607), (0, u "java/util/HashMap$ValueIterator"), (0, .class_ 609), (0, u "java/util/HashMap$KeyIterator"), (0, .class_ 611), (0, u "java/util/HashMap$HashIterator")] 17

def k7c0 : Code := { maxStack := 2, maxLocals := 1, code := jdk_69_method_7_code, exceptionTable := #[], attributes := #[] }
def k7m0 : Method := { name := "<init>", desc := "()V", sig := { parameters := [], returnType := none }, accessFlags := 1, code := some k7c0 }
/-- java/util/HashMap -/
def k7 : Class := { plain "java/util/HashMap" (some 4) with
  accessFlags := 33
  interfaces := #[3, 5, 6]
  cf := some (fileOf pool7 40 #[.nestMembers #[180, 596, 598, 600, 602, 604, 606, 608, 610, 346, 268, 263, 243, 163]] #[{ accessFlags := 1, nameIndex := 47, descriptorIndex := 48, attributes := #[] }] 33 44 #[101, 392, 394] #[{ accessFlags := 26, nameIndex := 396, descriptorIndex := 397, attributes := #[] }, { accessFlags := 24, nameIndex := 401, descriptorIndex := 91, attributes := #[] }, { accessFlags := 24, nameIndex := 403, descriptorIndex := 91, attributes := #[] }, { accessFlags := 24, nameIndex := 404, descriptorIndex := 84, attributes := #[] }, { accessFlags := 24, nameIndex := 405, descriptorIndex := 91, attributes := #[] }, { accessFlags := 24, nameIndex := 407, descriptorIndex := 91, attributes := #[] }, { accessFlags := 24, nameIndex := 409, descriptorIndex := 91, attributes := #[] }, { accessFlags := 128, nameIndex := 107, descriptorIndex := 108, attributes := #[] }, { accessFlags := 128, nameIndex := 123, descriptorIndex := 242, attributes := #[] }, { accessFlags := 128, nameIndex := 104, descriptorIndex := 91, attributes := #[] }, { accessFlags := 128, nameIndex := 204, descriptorIndex := 91, attributes := #[] }, { accessFlags := 0, nameIndex := 90, descriptorIndex := 91, attributes := #[] }, { accessFlags := 16, nameIndex := 83, descriptorIndex := 84, attributes := #[] }])
  fields := #[{ name := "serialVersionUID", type := .long, accessFlags := 26, slot := 0, constantValue := 0 }, { name := "DEFAULT_INITIAL_CAPACITY", type := .int, accessFlags := 24, slot := 1, constantValue := 0 }, { name := "MAXIMUM_CAPACITY", type := .int, accessFlags := 24, slot := 2, constantValue := 0 }, { name := "DEFAULT_LOAD_FACTOR", type := .float, accessFlags := 24, slot := 3, constantValue := 0 }, { name := "TREEIFY_THRESHOLD", type := .int, accessFlags := 24, slot := 4, constantValue := 0 }, { name := "UNTREEIFY_THRESHOLD", type := .int, accessFlags := 24, slot := 5, constantValue := 0 }, { name := "MIN_TREEIFY_CAPACITY", type := .int, accessFlags := 24, slot := 6, constantValue := 0 }, { name := "table", type := (.array (.object "java/util/HashMap$Node")), accessFlags := 128, slot := 2, constantValue := 0 }, { name := "entrySet", type := (.object "java/util/Set"), accessFlags := 128, slot := 3, constantValue := 0 }, { name := "size", type := .int, accessFlags := 128, slot := 4, constantValue := 0 }, { name := "modCount", type := .int, accessFlags := 128, slot := 5, constantValue := 0 }, { name := "threshold", type := .int, accessFlags := 0, slot := 6, constantValue := 0 }, { name := "loadFactor", type := .float, accessFlags := 16, slot := 7, constantValue := 0 }]
  methods := #[k7m0]
  instanceTypes := #[(.object "java/util/Set"), (.object "java/util/Collection"), (.array (.object "java/util/HashMap$Node")), (.object "java/util/Set"), .int, .int, .int, .float]
  staticTypes := #[.long, .int, .int, .float, .int, .int, .int]
  resolved := Array.replicate 629 none
  statics := none }

def pool8 : Array CpInfo := pool [(1, .methodref 2 3), (0, .class_ 4), (0, .nameAndType 5 6), (0, u "com/example/roteiro/roteiro/lang/Scope"), (0, u "<init>"), (0, u "(Lcom/example/roteiro/roteiro/lang/Scope;Lcom/example/roteiro/roteiro/lang/Libraries;)V"), (0, .methodref 8 9), (0, .class_ 10), (0, .nameAndType 5 11), (0, u "java/lang/Object"), (0, u "()V"), (0, .fieldref 2 13), (0, .nameAndType 14 15), (0, u "parent"), (0, u "Lcom/example/roteiro/roteiro/lang/Scope;"), (0, .fieldref 2 17), (0, .nameAndType 18 19), (0, u "libraries"), (0, u "Lcom/example/roteiro/roteiro/lang/Libraries;"), (2, u "bindings"), (0, u "Ljava/util/Map;"), (23, u "(Lcom/example/roteiro/roteiro/lang/Libraries;)V"), (2, u "child"), (0, u "()Lcom/example/roteiro/roteiro/lang/Scope;"), (4, u "root")] 6

def k8c0 : Code := { maxStack := 3, maxLocals := 2, code := prog_111_method_1_code, exceptionTable := #[], attributes := #[] }
def k8m0 : Method := { name := "<init>", desc := "(Lcom/example/roteiro/roteiro/lang/Libraries;)V", sig := { parameters := [(.object "com/example/roteiro/roteiro/lang/Libraries")], returnType := none }, accessFlags := 0, code := some k8c0 }
def k8c1 : Code := { maxStack := 2, maxLocals := 3, code := prog_111_method_2_code, exceptionTable := #[], attributes := #[] }
def k8m1 : Method := { name := "<init>", desc := "(Lcom/example/roteiro/roteiro/lang/Scope;Lcom/example/roteiro/roteiro/lang/Libraries;)V", sig := { parameters := [(.object "com/example/roteiro/roteiro/lang/Scope"), (.object "com/example/roteiro/roteiro/lang/Libraries")], returnType := none }, accessFlags := 2, code := some k8c1 }
def k8c2 : Code := { maxStack := 4, maxLocals := 1, code := prog_111_method_3_code, exceptionTable := #[], attributes := #[] }
def k8m2 : Method := { name := "child", desc := "()Lcom/example/roteiro/roteiro/lang/Scope;", sig := { parameters := [], returnType := some (.object "com/example/roteiro/roteiro/lang/Scope") }, accessFlags := 0, code := some k8c2 }
def k8c3 : Code := { maxStack := 1, maxLocals := 2, code := prog_111_method_6_code, exceptionTable := #[], attributes := #[] }
def k8m3 : Method := { name := "root", desc := "()Lcom/example/roteiro/roteiro/lang/Scope;", sig := { parameters := [], returnType := some (.object "com/example/roteiro/roteiro/lang/Scope") }, accessFlags := 0, code := some k8c3 }
/-- com/example/roteiro/roteiro/lang/Scope -/
def k8 : Class := { plain "com/example/roteiro/roteiro/lang/Scope" (some 0) with
  accessFlags := 48
  interfaces := #[]
  cf := some (fileOf pool8 2 #[] #[{ accessFlags := 0, nameIndex := 5, descriptorIndex := 47, attributes := #[] }, { accessFlags := 2, nameIndex := 5, descriptorIndex := 6, attributes := #[] }, { accessFlags := 0, nameIndex := 50, descriptorIndex := 51, attributes := #[] }, { accessFlags := 0, nameIndex := 56, descriptorIndex := 51, attributes := #[] }] 48 8 #[] #[{ accessFlags := 18, nameIndex := 14, descriptorIndex := 15, attributes := #[] }, { accessFlags := 18, nameIndex := 18, descriptorIndex := 19, attributes := #[] }, { accessFlags := 2, nameIndex := 22, descriptorIndex := 23, attributes := #[] }])
  fields := #[{ name := "parent", type := (.object "com/example/roteiro/roteiro/lang/Scope"), accessFlags := 18, slot := 0, constantValue := 0 }, { name := "libraries", type := (.object "com/example/roteiro/roteiro/lang/Libraries"), accessFlags := 18, slot := 1, constantValue := 0 }, { name := "bindings", type := (.object "java/util/Map"), accessFlags := 2, slot := 2, constantValue := 0 }]
  methods := #[k8m0, k8m1, k8m2, k8m3]
  instanceTypes := #[(.object "com/example/roteiro/roteiro/lang/Scope"), (.object "com/example/roteiro/roteiro/lang/Libraries"), (.object "java/util/Map")]
  staticTypes := #[]
  resolved := Array.replicate 63 none
  statics := none }

/-- the primitive byte -/
def k9 : Class := { plain "byte" none with kind := .primitive 'B', accessFlags := 0x411 }
/-- [B -/
def k10 : Class := { plain "[B" (some 0) with kind := .array 9 .byte, interfaces := #[5, 6], accessFlags := 1041 }

def heap : Heap := #[]
def classes : Array Class := #[k0, k1, k2, k3, k4, k5, k6, k7, k8, k9, k10]
def interned : List (Array UInt16 × Addr) := []
def slotsUsed : Nat := 0
def theMethod : MethodId := ⟨1, 1⟩
def args0 : Array Value := #[.int 1, .int 5]
def aboutOver (below : List Frame) : State where
  vm := { classes := classes, interned := interned.toArray }
  heap := heap
  slotsUsed := slotsUsed
  threads := #[{ frames := .invoking theMethod args0 :: below }]
def below0 : List Frame := [.native { method := ⟨0, 0⟩, args := #[] }]
def about1 : State := aboutOver below0
def p0 : Program := .bare "" "" ""
def e0 : Env := launch0.env 0 0 0
theorem w_frames : about1.frames = Frame.invoking theMethod args0 :: below0 := rfl
set_option maxRecDepth 65536 in
theorem w_args : argsFit about1.vm theMethod args0 = true := by decide +kernel
set_option maxRecDepth 65536 in
theorem w_heap : heapFits about1 = true := by decide +kernel
set_option maxRecDepth 65536 in
theorem w_runnable : about1.curStatus? = some .runnable := by decide +kernel
set_option maxRecDepth 65536 in
theorem w_alone : about1.alone = true := by decide +kernel
set_option maxRecDepth 65536 in
theorem w_named : about1.methodNamed? x = some theMethod := by decide +kernel
set_option maxRecDepth 65536 in
theorem w_hears : about1.hears theMethod below0 = true := by decide +kernel
set_option maxRecDepth 65536 in
theorem w_ripe : about1.ripe theMethod args0 below0 = true := by decide +kernel
theorem w_running : about1.status = .running := rfl
set_option maxRecDepth 65536 in
theorem w_room : about1.hasRoom e0.platform room_1 = true :=
  launch0.hasRoom_least _ room_1 (by decide +kernel) (by decide +kernel) (by decide +kernel) (by decide +kernel) (by decide +kernel) (by decide +kernel)
theorem allAtoms_all (ts : List Jvm.Cond) (a : Array Jvm.Value) (st : Jvm.State) : (allAtoms ts).before a st = ts.all (fun c => c.before a st) := by
  induction ts with
  | nil => rfl
  | cons c t ih =>
    show (Jvm.Cond.and c (allAtoms t)).before a st = _
    rw [Jvm.Cond.before_and, ih, List.all_cons]
def words1 : List Jvm.Cond := Jvm.Cond.code x code maxLocals ret :: tables_1
/-- a 'code' word, met by the world's own term for the bytes: nothing is compared byte by byte -/
theorem code_word {y : MethodName} {bytes : ByteArray} {mx : Nat} {rt : Option FieldType} {a : Array Value} {s : State} {m : MethodId} {meth : Method} {c : Code} (h1 : s.methodNamed? y = some m) (h2 : s.vm.method? m = some meth) (h3 : meth.code = some c) (h4 : c.code = bytes)
    (h5 : (c.maxLocals == mx && c.exceptionTable.isEmpty && decide (c.maxStack ≤ mostOperands) && decide (meth.sig.returnType = rt) && !meth.locks && decide (parseMethodDescriptor y.desc = some meth.sig)) = true) : (Jvm.Cond.code y bytes mx rt).before a s = true := by
  simp only [Bool.and_eq_true, beq_iff_eq, Bool.not_eq_true', decide_eq_true_eq] at h5
  obtain ⟨⟨⟨⟨⟨g1, g2⟩, g3⟩, g4⟩, g5⟩, g6⟩ := h5
  simp [Cond.before, Cond.holds, Cond.value, h1, h2, h3, h4, g1, g2, g3, g4, g5, g6]
def isCode : Jvm.Cond → Bool
  | .code _ _ _ _ => true
  | _ => false
theorem all_split {L : List Jvm.Cond} {P : Jvm.Cond → Bool} (h1 : L.all (fun c => isCode c || P c) = true) (h2 : ∀ c ∈ L.filter isCode, P c = true) : L.all P = true := by
  refine List.all_eq_true.mpr fun c hc => ?_
  have h := List.all_eq_true.mp h1 c hc
  rcases Bool.eq_false_or_eq_true (isCode c) with hi | hi
  · exact h2 c (List.mem_filter.mpr ⟨hc, hi⟩)
  · simpa [hi] using h
set_option maxRecDepth 65536 in
theorem w_c0 : (Jvm.Cond.code x code maxLocals ret).before args0 about1 = true := code_word (m := ⟨1, 1⟩) (meth := k1m1) (c := k1c1) (by decide +kernel) rfl rfl rfl (by decide +kernel)
set_option maxRecDepth 65536 in
theorem w_c1 : (Jvm.Cond.code ({ cls := "com/example/roteiro/roteiro/lang/Libraries", name := "<init>", desc := "()V" } : Jvm.MethodName) prog_98_method_1_code (1 : Nat) (Option.none : Option Jvm.ClassFile.FieldType)).before args0 about1 = true := code_word (m := ⟨2, 0⟩) (meth := k2m0) (c := k2c0) (by decide +kernel) rfl rfl rfl (by decide +kernel)
set_option maxRecDepth 65536 in
theorem w_c2 : (Jvm.Cond.code ({ cls := "java/lang/Object", name := "<init>", desc := "()V" } : Jvm.MethodName) object_method_1_code (1 : Nat) (Option.none : Option Jvm.ClassFile.FieldType)).before args0 about1 = true := code_word (m := ⟨0, 0⟩) (meth := k0m0) (c := k0c0) (by decide +kernel) rfl rfl rfl (by decide +kernel)
set_option maxRecDepth 65536 in
theorem w_c3 : (Jvm.Cond.code ({ cls := "java/util/HashMap", name := "<init>", desc := "()V" } : Jvm.MethodName) jdk_69_method_7_code (1 : Nat) (Option.none : Option Jvm.ClassFile.FieldType)).before args0 about1 = true := code_word (m := ⟨7, 0⟩) (meth := k7m0) (c := k7c0) (by decide +kernel) rfl rfl rfl (by decide +kernel)
set_option maxRecDepth 65536 in
theorem w_c4 : (Jvm.Cond.code ({ cls := "java/util/AbstractMap", name := "<init>", desc := "()V" } : Jvm.MethodName) jdk_71_method_1_code (1 : Nat) (Option.none : Option Jvm.ClassFile.FieldType)).before args0 about1 = true := code_word (m := ⟨4, 0⟩) (meth := k4m0) (c := k4c0) (by decide +kernel) rfl rfl rfl (by decide +kernel)
set_option maxRecDepth 65536 in
theorem w_c5 : (Jvm.Cond.code ({ cls := "com/example/roteiro/roteiro/lang/Scope", name := "<init>", desc := "(Lcom/example/roteiro/roteiro/lang/Libraries;)V" } : Jvm.MethodName) prog_111_method_1_code (2 : Nat) (Option.none : Option Jvm.ClassFile.FieldType)).before args0 about1 = true := code_word (m := ⟨8, 0⟩) (meth := k8m0) (c := k8c0) (by decide +kernel) rfl rfl rfl (by decide +kernel)
set_option maxRecDepth 65536 in
theorem w_c6 : (Jvm.Cond.code ({ cls := "com/example/roteiro/roteiro/lang/Scope", name := "<init>", desc := "(Lcom/example/roteiro/roteiro/lang/Scope;Lcom/example/roteiro/roteiro/lang/Libraries;)V" } : Jvm.MethodName) prog_111_method_2_code (3 : Nat) (Option.none : Option Jvm.ClassFile.FieldType)).before args0 about1 = true := code_word (m := ⟨8, 1⟩) (meth := k8m1) (c := k8c1) (by decide +kernel) rfl rfl rfl (by decide +kernel)
set_option maxRecDepth 65536 in
theorem w_c7 : (Jvm.Cond.code ({ cls := "com/example/roteiro/roteiro/lang/Scope", name := "child", desc := "()Lcom/example/roteiro/roteiro/lang/Scope;" } : Jvm.MethodName) prog_111_method_3_code (1 : Nat) (Option.some (Jvm.ClassFile.FieldType.object "com/example/roteiro/roteiro/lang/Scope"))).before args0 about1 = true := code_word (m := ⟨8, 2⟩) (meth := k8m2) (c := k8c2) (by decide +kernel) rfl rfl rfl (by decide +kernel)
set_option maxRecDepth 65536 in
theorem w_c8 : (Jvm.Cond.code ({ cls := "com/example/roteiro/roteiro/lang/Scope", name := "root", desc := "()Lcom/example/roteiro/roteiro/lang/Scope;" } : Jvm.MethodName) prog_111_method_6_code (2 : Nat) (Option.some (Jvm.ClassFile.FieldType.object "com/example/roteiro/roteiro/lang/Scope"))).before args0 about1 = true := code_word (m := ⟨8, 3⟩) (meth := k8m3) (c := k8c3) (by decide +kernel) rfl rfl rfl (by decide +kernel)
def codes1 : List Jvm.Cond := [Jvm.Cond.code x code maxLocals ret, Jvm.Cond.code ({ cls := "com/example/roteiro/roteiro/lang/Libraries", name := "<init>", desc := "()V" } : Jvm.MethodName) prog_98_method_1_code (1 : Nat) (Option.none : Option Jvm.ClassFile.FieldType), Jvm.Cond.code ({ cls := "java/lang/Object", name := "<init>", desc := "()V" } : Jvm.MethodName) object_method_1_code (1 : Nat) (Option.none : Option Jvm.ClassFile.FieldType), Jvm.Cond.code ({ cls := "java/util/HashMap", name := "<init>", desc := "()V" } : Jvm.MethodName) jdk_69_method_7_code (1 : Nat) (Option.none : Option Jvm.ClassFile.FieldType), Jvm.Cond.code ({ cls := "java/util/AbstractMap", name := "<init>", desc := "()V" } : Jvm.MethodName) jdk_71_method_1_code (1 : Nat) (Option.none : Option Jvm.ClassFile.FieldType), Jvm.Cond.code ({ cls := "com/example/roteiro/roteiro/lang/Scope", name := "<init>", desc := "(Lcom/example/roteiro/roteiro/lang/Libraries;)V" } : Jvm.MethodName) prog_111_method_1_code (2 : Nat) (Option.none : Option Jvm.ClassFile.FieldType), Jvm.Cond.code ({ cls := "com/example/roteiro/roteiro/lang/Scope", name := "<init>", desc := "(Lcom/example/roteiro/roteiro/lang/Scope;Lcom/example/roteiro/roteiro/lang/Libraries;)V" } : Jvm.MethodName) prog_111_method_2_code (3 : Nat) (Option.none : Option Jvm.ClassFile.FieldType), Jvm.Cond.code ({ cls := "com/example/roteiro/roteiro/lang/Scope", name := "child", desc := "()Lcom/example/roteiro/roteiro/lang/Scope;" } : Jvm.MethodName) prog_111_method_3_code (1 : Nat) (Option.some (Jvm.ClassFile.FieldType.object "com/example/roteiro/roteiro/lang/Scope")), Jvm.Cond.code ({ cls := "com/example/roteiro/roteiro/lang/Scope", name := "root", desc := "()Lcom/example/roteiro/roteiro/lang/Scope;" } : Jvm.MethodName) prog_111_method_6_code (2 : Nat) (Option.some (Jvm.ClassFile.FieldType.object "com/example/roteiro/roteiro/lang/Scope"))]
set_option maxRecDepth 65536 in
theorem codes_eq : words1.filter isCode = codes1 := rfl
theorem w_codes : ∀ c ∈ words1.filter isCode, c.before args0 about1 = true := by
  rw [codes_eq]
  intro c hc
  simp only [codes1, List.mem_cons, List.not_mem_nil, or_false] at hc
  rcases hc with rfl | rfl | rfl | rfl | rfl | rfl | rfl | rfl | rfl
  · exact w_c0
  · exact w_c1
  · exact w_c2
  · exact w_c3
  · exact w_c4
  · exact w_c5
  · exact w_c6
  · exact w_c7
  · exact w_c8
set_option maxRecDepth 65536 in
theorem w_t1 : (words1.take 24).all (fun c => isCode c || c.before args0 about1) = true := by decide +kernel
set_option maxRecDepth 65536 in
theorem w_t2 : ((words1.drop 24).take 24).all (fun c => isCode c || c.before args0 about1) = true := by decide +kernel
set_option maxRecDepth 65536 in
theorem w_t3 : ((words1.drop 24).drop 24).all (fun c => isCode c || c.before args0 about1) = true := by decide +kernel
theorem w_tables : (allAtoms (Jvm.Cond.code x code maxLocals ret :: tables_1)).before args0 about1 = true := by
  rw [allAtoms_all]
  show words1.all (fun c => c.before args0 about1) = true
  refine all_split ?_ w_codes
  rw [← List.take_append_drop 24 words1, List.all_append, w_t1, ← List.take_append_drop 24 (words1.drop 24), List.all_append, w_t2, w_t3]
  rfl
set_option maxRecDepth 65536 in
theorem w_case : (Jvm.Cond.and given_1 narrow_1).before args0 about1 = true := by decide +kernel
theorem w_applies : (headSpec (Jvm.Cond.code x code maxLocals ret :: tables_1) room_1).applies x e0.platform about1 = true :=
  (Spec.applies_iff w_frames).mpr ⟨w_running, w_runnable, w_alone, w_named, w_hears, w_ripe, w_room, w_tables⟩
theorem atStart : AtStart classFile x code maxLocals ret World_1 tables_1 room_1 Calls_1 rest_1 Pre_1 launch0 p0 e0 about1 theMethod args0 below0 :=
  ⟨lists_1, trivial, launch0.admits_env _ _ _, launch0.least_env, fairChoices_fair.cas, fairChoices_fair.clock, w_frames, w_args, w_heap, w_applies, trivial, trivial, w_case⟩
end start1
theorem witness_1 : WitnessClaimed_1 := ⟨start1.p0, start1.e0, start1.about1, start1.theMethod, start1.args0, start1.below0, start1.atStart⟩
end Jvm.Pilot.@@N@@
