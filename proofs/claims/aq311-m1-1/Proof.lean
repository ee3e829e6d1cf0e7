import JvmDerived
import JvmDerived.Pilot.@@N@@Statement
import JvmDerived.Pilot.@@N@@Code
set_option linter.unusedVariables false
set_option linter.unusedSimpArgs false
namespace Jvm.RoadKit
open Sem ClassFile Op Lib Jvm.Stand Jvm.Free Jvm.LawKit
section New
variable {p : Program} {l : Launch} {e : Env} {R : Room} {s : State} {m : MethodId} {args : Array Value} {below : List Frame} {meth : Method} {c : Code} {T : State} {locs : List Loc} {cells slots : Nat}
theorem retI (X : Stand p l e R s m args below meth c T locs cells slots) (hx : p.tables.exec = Jvm.exec) {pc : Nat} {Ls : Array Slot} {z : Int32} {rest : List Value} (hret : meth.sig.returnType = some .int) (hd : decode c.code pc = .ok (.ireturn, 1)) {fs : List Frame}
    (hl : ∀ (f : JFrame) (acts : List Action), f.method = m → f.locked = none → f.entered = [] → (doReturn e (T.setTop f) acts (some (.int z))).1 = T.setFrames fs) : Steps p.tables e below (T.setTop (mkF m pc Ls (.int z :: rest))) (T.setFrames fs) := by
  have hm' : T.vm.method? m = some meth := X.method'
  have hn : narrow .int (.int z) = .int z := rfl
  show Steps p.tables e below (T.setTop { method := m, pc := pc, locals := Ls, stack := _ :: rest, locked := none }) _
  jvm_step X.here [X.here.top, hx, hd, hm', hret, hn]
  first | (intro acts; rw [hl _ acts rfl rfl rfl]) | rw [hl _ _ rfl rfl rfl]
  exact Steps.refl _
end New
end Jvm.RoadKit
namespace Jvm.Pilot.@@N@@
open Jvm Jvm.ClassFile Sem Op Lib Jvm.Free Jvm.Stand Jvm.LawKit Jvm.RoadKit Bundle Jvm.Pilot.@@N@@.Jvm.D
def own_ce (c : Int32) : Int32 := if c < (0 : Int32) then 0 else if (255 : Int32) < c then 0 else 1
def own_f (b : Int32) : Int32 := if (35 : Int32) = b then (0 : Int32) else if (36 : Int32) = b then (1 : Int32) else if (38 : Int32) = b then (2 : Int32) else if (42 : Int32) = b then (3 : Int32) else if (43 : Int32) = b then (4 : Int32) else if (45 : Int32) = b then (5 : Int32) else if (46 : Int32) = b then (6 : Int32) else if (47 : Int32) = b then (7 : Int32) else if (58 : Int32) = b then (8 : Int32) else if (60 : Int32) = b then (9 : Int32) else if (61 : Int32) = b then (10 : Int32) else if (62 : Int32) = b then (11 : Int32) else if (63 : Int32) = b then (12 : Int32) else if (64 : Int32) = b then (13 : Int32) else if (94 : Int32) = b then (14 : Int32) else if (126 : Int32) = b then (15 : Int32) else if (92 : Int32) = b then (16 : Int32) else (-1 : Int32)
def own_ix (c : Int32) : Int32 := if own_ce c = (0 : Int32) then (-1 : Int32) else own_f (c.toInt8.toInt32)
def own_sym (c : Int32) : Int32 := if own_ix c < (0 : Int32) then (0 : Int32) else (1 : Int32)
def own_ref (c : Int32) : Int32 := if c = (35 : Int32) then (1 : Int32) else if c = (36 : Int32) then (1 : Int32) else if c = (38 : Int32) then (1 : Int32) else if c = (42 : Int32) then (1 : Int32) else if c = (43 : Int32) then (1 : Int32) else if c = (45 : Int32) then (1 : Int32) else if c = (46 : Int32) then (1 : Int32) else if c = (47 : Int32) then (1 : Int32) else if c = (58 : Int32) then (1 : Int32) else if c = (60 : Int32) then (1 : Int32) else if c = (61 : Int32) then (1 : Int32) else if c = (62 : Int32) then (1 : Int32) else if c = (63 : Int32) then (1 : Int32) else if c = (64 : Int32) then (1 : Int32) else if c = (94 : Int32) then (1 : Int32) else if c = (126 : Int32) then (1 : Int32) else if c = (92 : Int32) then (1 : Int32) else (0 : Int32)
theorem own_all : ∀ k : Fin 256, own_sym (Int32.ofNat k.val) = own_ref (Int32.ofNat k.val) := by decide +kernel
theorem own_eq (c : Int32) : own_sym c = own_ref c := by
  by_cases h1 : c < (0 : Int32)
  · have e : ∀ k : Int32, ¬ (k < (0 : Int32)) → ¬ (c = k) := fun k hk q => hk (q ▸ h1)
    simp [own_sym, own_ix, own_ce, own_ref, h1, e (35 : Int32) (by decide), e (36 : Int32) (by decide), e (38 : Int32) (by decide), e (42 : Int32) (by decide), e (43 : Int32) (by decide), e (45 : Int32) (by decide), e (46 : Int32) (by decide), e (47 : Int32) (by decide), e (58 : Int32) (by decide), e (60 : Int32) (by decide), e (61 : Int32) (by decide), e (62 : Int32) (by decide), e (63 : Int32) (by decide), e (64 : Int32) (by decide), e (94 : Int32) (by decide), e (126 : Int32) (by decide), e (92 : Int32) (by decide)]
  · by_cases h2 : (255 : Int32) < c
    · have e : ∀ k : Int32, ¬ ((255 : Int32) < k) → ¬ (c = k) := fun k hk q => hk (q ▸ h2)
      simp [own_sym, own_ix, own_ce, own_ref, h1, h2, e (35 : Int32) (by decide), e (36 : Int32) (by decide), e (38 : Int32) (by decide), e (42 : Int32) (by decide), e (43 : Int32) (by decide), e (45 : Int32) (by decide), e (46 : Int32) (by decide), e (47 : Int32) (by decide), e (58 : Int32) (by decide), e (60 : Int32) (by decide), e (61 : Int32) (by decide), e (62 : Int32) (by decide), e (63 : Int32) (by decide), e (64 : Int32) (by decide), e (94 : Int32) (by decide), e (126 : Int32) (by decide), e (92 : Int32) (by decide)]
    · rw [Int32.lt_iff_toInt_lt, show (0 : Int32).toInt = 0 from by decide] at h1
      rw [Int32.lt_iff_toInt_lt, show (255 : Int32).toInt = 255 from by decide] at h2
      have q : c = Int32.ofNat c.toInt.toNat := by
        apply Int32.toInt_inj.mp
        rw [Int32.toInt_ofNat_of_lt (by omega)]
        omega
      rw [q]
      exact own_all ⟨c.toInt.toNat, by omega⟩
def QI (Z : State) (r : Int32) (h0 : Heap) (n0 : Nat) (v : Option Value) (h : Heap) (L : List Loc) : Prop := v = some (.int r) ∧ Fr n0 L ∧ h = h0
theorem d4_0 : decode jdk_42_method_154_code 0 = .ok (.getstatic 38, 3) := by decide +kernel
theorem d4_3 : decode jdk_42_method_154_code 3 = .ok (.ifCond .eq 14, 3) := by decide +kernel
theorem d4_6 : decode jdk_42_method_154_code 6 = .ok (.aload_n 0, 1) := by decide +kernel
theorem d4_7 : decode jdk_42_method_154_code 7 = .ok (.getfield 15, 3) := by decide +kernel
theorem d4_10 : decode jdk_42_method_154_code 10 = .ok (.ifCond .ne 7, 3) := by decide +kernel
theorem d4_13 : decode jdk_42_method_154_code 13 = .ok (.iconst 1, 1) := by decide +kernel
theorem d4_14 : decode jdk_42_method_154_code 14 = .ok (.goto 4, 3) := by decide +kernel
theorem d4_18 : decode jdk_42_method_154_code 18 = .ok (.ireturn, 1) := by decide +kernel
theorem pn_4 : plainName "java/lang/String" = true := by first | (simp [plainName, overriddenIn]; done) | decide +kernel
theorem ef_4 (m : MethodId) (x0 : Addr) : entryFrame m #[(.ref x0)] 1 = mkF m 0 #[.val (.ref x0)] [] := by first | (simp [entryFrame, mkF, argsToLocals, Value.category]; done) | rfl
set_option maxRecDepth 65536 in
set_option maxHeartbeats 40000000 in
theorem rmLat (l : Launch) (Z : State) (a0 : Array Value) (hw : ∀ d ∈ tables_1, d.before a0 Z = true) (ws : List Jvm.Cond) (a1 : Addr) (cs : Int32) (h0 : Heap) (n0 : Nat) (Z0 : n0 ≤ h0.size) (S_c : Sta Z h0 "java/lang/String" "COMPACT_STRINGS" "Z" (.int cs)) (hcs : ¬ (cs = (0 : Int32))) (F_co : Fld Z h0 a1 "java/lang/String" "coder" "B" (.int (0 : Int32))) :
    MetFree l (⟨"java/lang/String", "isLatin1", "()Z"⟩ : MethodName) (head1 (Jvm.Cond.code (⟨"java/lang/String", "isLatin1", "()Z"⟩ : MethodName) jdk_42_method_154_code 1 (some .boolean) :: ws) ({ frames := 0, cells := 0, slots := 0, locals := 0 } : Room)) (fun a U => a = #[(.ref a1)] ∧ Z.Warmed39 U.vm ∧ U.heap = h0) (fun _ _ _ _ _ => True) (fun _ U o U' => ∃ v L, o = .returned v ∧ QI Z (1 : Int32) h0 n0 v U'.heap L ∧ FrameEnd U o U' L ({ frames := 0, cells := 0, slots := 0, locals := 0 } : Room).cells ({ frames := 0, cells := 0, slots := 0, locals := 0 } : Room).slots) := by
  refine MetFree.of_bodySF (plainFor_of_name pn_4) hisR ?_
  intro p e s m args below meth c s₁ Bd hml0 hP hK
  obtain ⟨rfl, hZ, hh⟩ := hP
  have hx := Bd.exec
  have hby := Bd.bytes
  have hml : c.maxLocals = 1 := hml0
  have hown : s.vm.findClass "java/lang/String" = some m.cls := findClass_of_methodNamed Bd.named
  have hnm := (name_of_methodNamed Bd.named Bd.method).1
  have X0 : Stand p l e ({ frames := 0, cells := 0, slots := 0, locals := 0 } : Room) s m #[(.ref a1)] below meth c s₁ [] 0 0 := Stand.of_body Bd
  have e0 : s₁.heap = h0 := by rw [← hh, Bd.state]; rfl
  have N0 := Fr.nil n0
  have pre0 : ∀ tz, Steps p.tables e below (s₁.setTop (mkF m 0 #[.val (.ref a1)] [])) tz → Steps p.tables e below (s₁.setTop (entryFrame m #[(.ref a1)] 1)) tz := fun tz kz => castTop (ef_4 m a1) kz
  obtain ⟨T1, X1, e1, st1⟩ := getS2 X0 hx hZ hown (host := "") (Or.inl (hw _ (List.mem_of_getElem? (i := 28) rfl))) Via.refl e0 S_c (g := (mkF m 0 #[.val (.ref a1)] [])) rfl (hb hby d4_0)
  obtain ⟨T2, X2, e2, st2⟩ := getF X1 hx hZ hown (host := "") (Or.inl (hw _ (List.mem_of_getElem? (i := 29) rfl))) Via.refl e1 F_co (g := (mkF m 7 #[.val (.ref a1)] [(.ref a1)])) rfl rfl (hb hby d4_7)
  obtain ⟨fs, hr, hrun, hended, hW, hsame⟩ := X2.leave (v := some (.int (1 : Int32))) (fun h => by rw [Bd.returns] at h; cases h)
  refine ⟨_, _, pre0 _ ?_, hrun, hended, _, _, rfl, ?_, ⟨_, rfl⟩, hW, hsame.mono (by decide) (by decide)⟩
  · show Steps p.tables e below (s₁.setTop (mkF m 0 #[.val (.ref a1)] [])) _
    refine st1 _ ?_
    show Steps p.tables e below (T1.setTop (mkF m 3 #[.val (.ref a1)] [(.int cs)])) _
    refine XS.ifNo X1.here hx rfl (hb hby d4_3) rfl ((if0 _ _).trans (feq (hcs : ¬ (cs = (0 : Int32)))).1) ?_
    show Steps p.tables e below (T1.setTop (mkF m 6 #[.val (.ref a1)] [])) _
    refine XS.aloadN X1.here hx rfl (hb hby d4_6) rfl rfl ?_
    show Steps p.tables e below (T1.setTop (mkF m 7 #[.val (.ref a1)] [(.ref a1)])) _
    refine st2 _ ?_
    show Steps p.tables e below (T2.setTop (mkF m 10 #[.val (.ref a1)] [(.int (0 : Int32))])) _
    refine XS.ifNo X2.here hx rfl (hb hby d4_10) rfl ((if0 _ _).trans (teq ((by decide) : (0 : Int32) = (0 : Int32))).2) ?_
    show Steps p.tables e below (T2.setTop (mkF m 13 #[.val (.ref a1)] [])) _
    refine XS.iconst X2.here hx rfl (hb hby d4_13) ?_
    show Steps p.tables e below (T2.setTop (mkF m 14 #[.val (.ref a1)] [(.int (1 : Int32))])) _
    refine XS.goto X2.here hx rfl (pc0 := 14) (pc' := 18) rfl (hb hby d4_14) (by decide) (by decide) ?_
    show Steps p.tables e below (T2.setTop (mkF m 18 #[.val (.ref a1)] [(.int (1 : Int32))])) _
    exact retN X2 hx (t := .boolean) Bd.returns (by simp) (hb hby d4_18) hr
  · show QI Z (1 : Int32) h0 n0 _ T2.heap _
    rw [e2]
    exact ⟨rfl, N0, rfl⟩
theorem d6_0 : decode jdk_42_method_152_code 0 = .ok (.getstatic 38, 3) := by decide +kernel
theorem d6_3 : decode jdk_42_method_152_code 3 = .ok (.ifCond .eq 10, 3) := by decide +kernel
theorem d6_6 : decode jdk_42_method_152_code 6 = .ok (.aload_n 0, 1) := by decide +kernel
theorem d6_7 : decode jdk_42_method_152_code 7 = .ok (.getfield 15, 3) := by decide +kernel
theorem d6_10 : decode jdk_42_method_152_code 10 = .ok (.goto 4, 3) := by decide +kernel
theorem d6_14 : decode jdk_42_method_152_code 14 = .ok (.ireturn, 1) := by decide +kernel
theorem pn_6 : plainName "java/lang/String" = true := by first | (simp [plainName, overriddenIn]; done) | decide +kernel
theorem ef_6 (m : MethodId) (x0 : Addr) : entryFrame m #[(.ref x0)] 1 = mkF m 0 #[.val (.ref x0)] [] := by first | (simp [entryFrame, mkF, argsToLocals, Value.category]; done) | rfl
set_option maxRecDepth 65536 in
set_option maxHeartbeats 40000000 in
theorem rmCod (l : Launch) (Z : State) (a0 : Array Value) (hw : ∀ d ∈ tables_1, d.before a0 Z = true) (ws : List Jvm.Cond) (a1 : Addr) (cs : Int32) (h0 : Heap) (n0 : Nat) (Z0 : n0 ≤ h0.size) (S_c : Sta Z h0 "java/lang/String" "COMPACT_STRINGS" "Z" (.int cs)) (hcs : ¬ (cs = (0 : Int32))) (F_co : Fld Z h0 a1 "java/lang/String" "coder" "B" (.int (0 : Int32))) :
    MetFree l (⟨"java/lang/String", "coder", "()B"⟩ : MethodName) (head1 (Jvm.Cond.code (⟨"java/lang/String", "coder", "()B"⟩ : MethodName) jdk_42_method_152_code 1 (some .byte) :: ws) ({ frames := 0, cells := 0, slots := 0, locals := 0 } : Room)) (fun a U => a = #[(.ref a1)] ∧ Z.Warmed39 U.vm ∧ U.heap = h0) (fun _ _ _ _ _ => True) (fun _ U o U' => ∃ v L, o = .returned v ∧ QI Z (0 : Int32) h0 n0 v U'.heap L ∧ FrameEnd U o U' L ({ frames := 0, cells := 0, slots := 0, locals := 0 } : Room).cells ({ frames := 0, cells := 0, slots := 0, locals := 0 } : Room).slots) := by
  refine MetFree.of_bodySF (plainFor_of_name pn_6) hisR ?_
  intro p e s m args below meth c s₁ Bd hml0 hP hK
  obtain ⟨rfl, hZ, hh⟩ := hP
  have hx := Bd.exec
  have hby := Bd.bytes
  have hml : c.maxLocals = 1 := hml0
  have hown : s.vm.findClass "java/lang/String" = some m.cls := findClass_of_methodNamed Bd.named
  have hnm := (name_of_methodNamed Bd.named Bd.method).1
  have X0 : Stand p l e ({ frames := 0, cells := 0, slots := 0, locals := 0 } : Room) s m #[(.ref a1)] below meth c s₁ [] 0 0 := Stand.of_body Bd
  have e0 : s₁.heap = h0 := by rw [← hh, Bd.state]; rfl
  have N0 := Fr.nil n0
  have pre0 : ∀ tz, Steps p.tables e below (s₁.setTop (mkF m 0 #[.val (.ref a1)] [])) tz → Steps p.tables e below (s₁.setTop (entryFrame m #[(.ref a1)] 1)) tz := fun tz kz => castTop (ef_6 m a1) kz
  obtain ⟨T1, X1, e1, st1⟩ := getS2 X0 hx hZ hown (host := "") (Or.inl (hw _ (List.mem_of_getElem? (i := 28) rfl))) Via.refl e0 S_c (g := (mkF m 0 #[.val (.ref a1)] [])) rfl (hb hby d6_0)
  obtain ⟨T2, X2, e2, st2⟩ := getF X1 hx hZ hown (host := "") (Or.inl (hw _ (List.mem_of_getElem? (i := 29) rfl))) Via.refl e1 F_co (g := (mkF m 7 #[.val (.ref a1)] [(.ref a1)])) rfl rfl (hb hby d6_7)
  obtain ⟨fs, hr, hrun, hended, hW, hsame⟩ := X2.leave (v := some (.int (0 : Int32))) (fun h => by rw [Bd.returns] at h; cases h)
  refine ⟨_, _, pre0 _ ?_, hrun, hended, _, _, rfl, ?_, ⟨_, rfl⟩, hW, hsame.mono (by decide) (by decide)⟩
  · show Steps p.tables e below (s₁.setTop (mkF m 0 #[.val (.ref a1)] [])) _
    refine st1 _ ?_
    show Steps p.tables e below (T1.setTop (mkF m 3 #[.val (.ref a1)] [(.int cs)])) _
    refine XS.ifNo X1.here hx rfl (hb hby d6_3) rfl ((if0 _ _).trans (feq (hcs : ¬ (cs = (0 : Int32)))).1) ?_
    show Steps p.tables e below (T1.setTop (mkF m 6 #[.val (.ref a1)] [])) _
    refine XS.aloadN X1.here hx rfl (hb hby d6_6) rfl rfl ?_
    show Steps p.tables e below (T1.setTop (mkF m 7 #[.val (.ref a1)] [(.ref a1)])) _
    refine st2 _ ?_
    show Steps p.tables e below (T2.setTop (mkF m 10 #[.val (.ref a1)] [(.int (0 : Int32))])) _
    refine XS.goto X2.here hx rfl (pc0 := 10) (pc' := 14) rfl (hb hby d6_10) (by decide) (by decide) ?_
    show Steps p.tables e below (T2.setTop (mkF m 14 #[.val (.ref a1)] [(.int (0 : Int32))])) _
    exact retN X2 hx (t := .byte) Bd.returns (by simp) (hb hby d6_14) hr
  · show QI Z (0 : Int32) h0 n0 _ T2.heap _
    rw [e2]
    exact ⟨rfl, N0, rfl⟩
theorem d5_0 : decode jdk_42_method_54_code 0 = .ok (.aload_n 0, 1) := by decide +kernel
theorem d5_1 : decode jdk_42_method_54_code 1 = .ok (.getfield 9, 3) := by decide +kernel
theorem d5_4 : decode jdk_42_method_54_code 4 = .ok (.arraylength, 1) := by decide +kernel
theorem d5_5 : decode jdk_42_method_54_code 5 = .ok (.aload_n 0, 1) := by decide +kernel
theorem d5_6 : decode jdk_42_method_54_code 6 = .ok (.invokevirtual 335, 3) := by decide +kernel
theorem d5_9 : decode jdk_42_method_54_code 9 = .ok (.ishr, 1) := by decide +kernel
theorem d5_10 : decode jdk_42_method_54_code 10 = .ok (.ireturn, 1) := by decide +kernel
theorem pd_5_0 : parseMethodDescriptor "()B" = some ⟨[], some .byte⟩ := by decide +kernel
theorem pn_5 : plainName "java/lang/String" = true := by first | (simp [plainName, overriddenIn]; done) | decide +kernel
theorem ef_5 (m : MethodId) (x0 : Addr) : entryFrame m #[(.ref x0)] 1 = mkF m 0 #[.val (.ref x0)] [] := by first | (simp [entryFrame, mkF, argsToLocals, Value.category]; done) | rfl
set_option maxRecDepth 65536 in
set_option maxHeartbeats 40000000 in
theorem rmLen (l : Launch) (Z : State) (a0 : Array Value) (hw : ∀ d ∈ tables_1, d.before a0 Z = true) (ws : List Jvm.Cond) (a1 : Addr) (cs : Int32) (b1 : Addr) (k : ClassId) (h0 : Heap) (n0 : Nat) (Z0 : n0 ≤ h0.size) (S_c : Sta Z h0 "java/lang/String" "COMPACT_STRINGS" "Z" (.int cs)) (hcs : ¬ (cs = (0 : Int32))) (E_a1 : Exa Z h0 a1 "java/lang/String") (F_co : Fld Z h0 a1 "java/lang/String" "coder" "B" (.int (0 : Int32))) (F_va : Fld Z h0 a1 "java/lang/String" "value" "[B" (.ref b1)) (V_b : Arv Z h0 b1 k .byte (17 : Int32) [(.int (35 : Int32)), (.int (36 : Int32)), (.int (38 : Int32)), (.int (42 : Int32)), (.int (43 : Int32)), (.int (45 : Int32)), (.int (46 : Int32)), (.int (47 : Int32)), (.int (58 : Int32)), (.int (60 : Int32)), (.int (61 : Int32)), (.int (62 : Int32)), (.int (63 : Int32)), (.int (64 : Int32)), (.int (94 : Int32)), (.int (126 : Int32)), (.int (92 : Int32))] (.int (0 : Int32))) :
    MetFree l (⟨"java/lang/String", "length", "()I"⟩ : MethodName) (head1 (Jvm.Cond.code (⟨"java/lang/String", "length", "()I"⟩ : MethodName) jdk_42_method_54_code 1 (some .int) :: ws) ({ frames := 1, cells := 0, slots := 0, locals := 13 } : Room)) (fun a U => a = #[(.ref a1)] ∧ Z.Warmed39 U.vm ∧ U.heap = h0) (fun _ _ _ _ _ => True) (fun _ U o U' => ∃ v L, o = .returned v ∧ QI Z (17 : Int32) h0 n0 v U'.heap L ∧ FrameEnd U o U' L ({ frames := 1, cells := 0, slots := 0, locals := 13 } : Room).cells ({ frames := 1, cells := 0, slots := 0, locals := 13 } : Room).slots) := by
  refine MetFree.of_bodySF (plainFor_of_name pn_5) hisR ?_
  intro p e s m args below meth c s₁ Bd hml0 hP hK
  obtain ⟨rfl, hZ, hh⟩ := hP
  have hx := Bd.exec
  have hby := Bd.bytes
  have hml : c.maxLocals = 1 := hml0
  have hown : s.vm.findClass "java/lang/String" = some m.cls := findClass_of_methodNamed Bd.named
  have hnm := (name_of_methodNamed Bd.named Bd.method).1
  have X0 : Stand p l e ({ frames := 1, cells := 0, slots := 0, locals := 13 } : Room) s m #[(.ref a1)] below meth c s₁ [] 0 0 := Stand.of_body Bd
  have e0 : s₁.heap = h0 := by rw [← hh, Bd.state]; rfl
  have N0 := Fr.nil n0
  have pre0 : ∀ tz, Steps p.tables e below (s₁.setTop (mkF m 0 #[.val (.ref a1)] [])) tz → Steps p.tables e below (s₁.setTop (entryFrame m #[(.ref a1)] 1)) tz := fun tz kz => castTop (ef_5 m a1) kz
  obtain ⟨T1, X1, e1, st1⟩ := getF X0 hx hZ hown (host := "") (Or.inl (hw _ (List.mem_of_getElem? (i := 30) rfl))) Via.refl e0 F_va (g := (mkF m 1 #[.val (.ref a1)] [(.ref a1)])) rfl rfl (hb hby d5_1)
  obtain ⟨cl2, Ar2, q2, S2, M2, H2, G2⟩ := id V_b
  obtain ⟨cq3, kq3, q3a, q3b, q3c⟩ := isOf hZ e1 E_a1
  obtain ⟨_, _, ⟨T3, L3, k3, n3⟩, -, X3, ⟨Lc3, hQ3, l3, y3, z3⟩, st3⟩ := X1.virtualBack hx (y := (⟨"java/lang/String", "coder", "()B"⟩ : MethodName)) (z := (⟨"java/lang/String", "coder", "()B"⟩ : MethodName)) hown (mvT hZ (hw _ (List.mem_of_getElem? (i := 36) rfl))) (mvT hZ (hw _ (List.mem_of_getElem? (i := 37) rfl))) (notFace_of_selects (args := #[]) (mvT hZ (hw _ (List.mem_of_getElem? (i := 39) rfl)))) (mvT hZ (hw _ (List.mem_of_getElem? (i := 39) rfl))) (mvT hZ (hw _ (List.mem_of_getElem? (i := 38) rfl))) (by decide) (backOf (W := 1) (rmCod l Z a0 hw [] a1 cs h0 n0 Z0 S_c hcs F_co) hZ (hw _ (List.mem_of_getElem? (i := 40) rfl)) (hw _ (List.mem_of_getElem? (i := 6) rfl)) (by decide) (by decide)) q3a q3c (g := (mkF m 6 #[.val (.ref a1)] [(.ref a1), (.int (17 : Int32))])) rfl (by rw [hml]; rfl) (Steps.refl _) (argsL := []) (rest := [(.int (17 : Int32))]) (lenOf pd_5_0 rfl) rfl (by show 2 * 0 + _ ≤ _; exact Nat.le_of_eq rfl) (hb hby d5_6) (fun _ _ => ⟨rfl, e1, (by decide : 0 + 0 ≤ _), (by decide : 0 + 0 ≤ _)⟩)
  dsimp only [Pt.U, Pt.locs, Pt.cells, Pt.slots] at X3 l3 y3 z3 st3 hQ3
  subst l3 y3 z3
  obtain ⟨rfl, N3q, eh3⟩ := hQ3
  have N3 := Fr.app N0 N3q
  obtain ⟨fs, hr, hrun, hended, hW, hsame⟩ := X3.leave (v := some (.int (17 : Int32))) (fun h => by rw [Bd.returns] at h; cases h)
  refine ⟨_, _, pre0 _ ?_, hrun, hended, _, _, rfl, ?_, ⟨_, rfl⟩, hW, hsame.mono (by decide) (by decide)⟩
  · show Steps p.tables e below (s₁.setTop (mkF m 0 #[.val (.ref a1)] [])) _
    refine XS.aloadN X0.here hx rfl (hb hby d5_0) rfl rfl ?_
    show Steps p.tables e below (s₁.setTop (mkF m 1 #[.val (.ref a1)] [(.ref a1)])) _
    refine st1 _ ?_
    show Steps p.tables e below (T1.setTop (mkF m 4 #[.val (.ref a1)] [(.ref b1)])) _
    refine X1.arraylength hx (by rw [e1]; exact Ar2.1) (State.isArrayOf_alike hZ.alike Ar2.2.1) (g := (mkF m 4 #[.val (.ref a1)] [(.ref b1)])) rfl rfl (hb hby d5_4) _ ?_
    rw [len_of S2 M2]
    show Steps p.tables e below (T1.setTop (mkF m 5 #[.val (.ref a1)] [(.int (17 : Int32))])) _
    refine XS.aloadN X1.here hx rfl (hb hby d5_5) rfl rfl ?_
    show Steps p.tables e below (T1.setTop (mkF m 6 #[.val (.ref a1)] [(.ref a1), (.int (17 : Int32))])) _
    refine st3.trans ?_
    show Steps p.tables e below (T3.setTop (mkF m 9 #[.val (.ref a1)] [(.int (0 : Int32)), (.int (17 : Int32))])) _
    refine XS.ishr X3.here hx rfl (hb hby d5_9) rfl ?_
    show Steps p.tables e below (T3.setTop (mkF m 10 #[.val (.ref a1)] [(.int ((17 : Int32) >>> ((0 : Int32) &&& 31)))])) _
    rw [show ((17 : Int32) >>> ((0 : Int32) &&& 31)) = (17 : Int32) from by decide]
    show Steps p.tables e below (T3.setTop (mkF m 10 #[.val (.ref a1)] [(.int (17 : Int32))])) _
    exact retI X3 hx Bd.returns (hb hby d5_10) hr
  · show QI Z (17 : Int32) h0 n0 _ T3.heap _
    rw [eh3]
    exact ⟨rfl, N3, rfl⟩
theorem d8_0 : decode jdk_43_method_4_code 0 = .ok (.iload_n 0, 1) := by decide +kernel
theorem d8_1 : decode jdk_43_method_4_code 1 = .ok (.ifCond .lt 14, 3) := by decide +kernel
theorem d8_15 : decode jdk_43_method_4_code 15 = .ok (.iconst 0, 1) := by decide +kernel
theorem d8_16 : decode jdk_43_method_4_code 16 = .ok (.ireturn, 1) := by decide +kernel
theorem pn_8 : plainName "java/lang/StringLatin1" = true := by first | (simp [plainName, overriddenIn]; done) | decide +kernel
theorem ef_8 (m : MethodId) (x0 : Int32) : entryFrame m #[(.int x0)] 1 = mkF m 0 #[.val (.int x0)] [] := by first | (simp [entryFrame, mkF, argsToLocals, Value.category]; done) | rfl
set_option maxRecDepth 65536 in
set_option maxHeartbeats 40000000 in
theorem rmCea (l : Launch) (Z : State) (a0 : Array Value) (hw : ∀ d ∈ tables_1, d.before a0 Z = true) (ws : List Jvm.Cond) (p1 : Int32) (h0 : Heap) (n0 : Nat) (Z0 : n0 ≤ h0.size) (hc1 : p1 < (0 : Int32)) :
    MetFree l (⟨"java/lang/StringLatin1", "canEncode", "(I)Z"⟩ : MethodName) (head1 (Jvm.Cond.code (⟨"java/lang/StringLatin1", "canEncode", "(I)Z"⟩ : MethodName) jdk_43_method_4_code 1 (some .boolean) :: ws) ({ frames := 0, cells := 0, slots := 0, locals := 0 } : Room)) (fun a U => a = #[(.int p1)] ∧ Z.Warmed39 U.vm ∧ U.heap = h0) (fun _ _ _ _ _ => True) (fun _ U o U' => ∃ v L, o = .returned v ∧ QI Z (own_ce p1) h0 n0 v U'.heap L ∧ FrameEnd U o U' L ({ frames := 0, cells := 0, slots := 0, locals := 0 } : Room).cells ({ frames := 0, cells := 0, slots := 0, locals := 0 } : Room).slots) := by
  refine MetFree.of_bodySF (plainFor_of_name pn_8) hisR ?_
  intro p e s m args below meth c s₁ Bd hml0 hP hK
  obtain ⟨rfl, hZ, hh⟩ := hP
  have hx := Bd.exec
  have hby := Bd.bytes
  have hml : c.maxLocals = 1 := hml0
  have hown : s.vm.findClass "java/lang/StringLatin1" = some m.cls := findClass_of_methodNamed Bd.named
  have hnm := (name_of_methodNamed Bd.named Bd.method).1
  have X0 : Stand p l e ({ frames := 0, cells := 0, slots := 0, locals := 0 } : Room) s m #[(.int p1)] below meth c s₁ [] 0 0 := Stand.of_body Bd
  have e0 : s₁.heap = h0 := by rw [← hh, Bd.state]; rfl
  have N0 := Fr.nil n0
  have pre0 : ∀ tz, Steps p.tables e below (s₁.setTop (mkF m 0 #[.val (.int p1)] [])) tz → Steps p.tables e below (s₁.setTop (entryFrame m #[(.int p1)] 1)) tz := fun tz kz => castTop (ef_8 m p1) kz
  obtain ⟨fs, hr, hrun, hended, hW, hsame⟩ := X0.leave (v := some (.int (0 : Int32))) (fun h => by rw [Bd.returns] at h; cases h)
  refine ⟨_, _, pre0 _ ?_, hrun, hended, _, _, rfl, ?_, ⟨_, rfl⟩, hW, hsame.mono (by decide) (by decide)⟩
  · show Steps p.tables e below (s₁.setTop (mkF m 0 #[.val (.int p1)] [])) _
    refine XS.iloadN X0.here hx rfl (hb hby d8_0) rfl ?_
    show Steps p.tables e below (s₁.setTop (mkF m 1 #[.val (.int p1)] [(.int p1)])) _
    refine XS.ifYes X0.here hx rfl (pc0 := 1) (pc' := 15) rfl (hb hby d8_1) rfl ((if0 _ _).trans (tlt (hc1 : p1 < (0 : Int32))).1) (by decide) (by decide) ?_
    show Steps p.tables e below (s₁.setTop (mkF m 15 #[.val (.int p1)] [])) _
    refine XS.iconst X0.here hx rfl (hb hby d8_15) ?_
    show Steps p.tables e below (s₁.setTop (mkF m 16 #[.val (.int p1)] [(.int (0 : Int32))])) _
    exact retN X0 hx (t := .boolean) Bd.returns (by simp) (hb hby d8_16) hr
  · show QI Z (own_ce p1) h0 n0 _ s₁.heap _
    rw [e0]
    exact ⟨by simp [own_ce, hc1], N0, rfl⟩
theorem d8_4 : decode jdk_43_method_4_code 4 = .ok (.iload_n 0, 1) := by decide +kernel
theorem d8_5 : decode jdk_43_method_4_code 5 = .ok (.sipush 255, 3) := by decide +kernel
theorem d8_8 : decode jdk_43_method_4_code 8 = .ok (.if_icmp .gt 7, 3) := by decide +kernel
set_option maxRecDepth 65536 in
set_option maxHeartbeats 40000000 in
theorem rmCeb (l : Launch) (Z : State) (a0 : Array Value) (hw : ∀ d ∈ tables_1, d.before a0 Z = true) (ws : List Jvm.Cond) (p1 : Int32) (h0 : Heap) (n0 : Nat) (Z0 : n0 ≤ h0.size) (hc1 : ¬ (p1 < (0 : Int32))) (hc8 : (255 : Int32) < p1) :
    MetFree l (⟨"java/lang/StringLatin1", "canEncode", "(I)Z"⟩ : MethodName) (head1 (Jvm.Cond.code (⟨"java/lang/StringLatin1", "canEncode", "(I)Z"⟩ : MethodName) jdk_43_method_4_code 1 (some .boolean) :: ws) ({ frames := 0, cells := 0, slots := 0, locals := 0 } : Room)) (fun a U => a = #[(.int p1)] ∧ Z.Warmed39 U.vm ∧ U.heap = h0) (fun _ _ _ _ _ => True) (fun _ U o U' => ∃ v L, o = .returned v ∧ QI Z (own_ce p1) h0 n0 v U'.heap L ∧ FrameEnd U o U' L ({ frames := 0, cells := 0, slots := 0, locals := 0 } : Room).cells ({ frames := 0, cells := 0, slots := 0, locals := 0 } : Room).slots) := by
  refine MetFree.of_bodySF (plainFor_of_name pn_8) hisR ?_
  intro p e s m args below meth c s₁ Bd hml0 hP hK
  obtain ⟨rfl, hZ, hh⟩ := hP
  have hx := Bd.exec
  have hby := Bd.bytes
  have hml : c.maxLocals = 1 := hml0
  have hown : s.vm.findClass "java/lang/StringLatin1" = some m.cls := findClass_of_methodNamed Bd.named
  have hnm := (name_of_methodNamed Bd.named Bd.method).1
  have X0 : Stand p l e ({ frames := 0, cells := 0, slots := 0, locals := 0 } : Room) s m #[(.int p1)] below meth c s₁ [] 0 0 := Stand.of_body Bd
  have e0 : s₁.heap = h0 := by rw [← hh, Bd.state]; rfl
  have N0 := Fr.nil n0
  have pre0 : ∀ tz, Steps p.tables e below (s₁.setTop (mkF m 0 #[.val (.int p1)] [])) tz → Steps p.tables e below (s₁.setTop (entryFrame m #[(.int p1)] 1)) tz := fun tz kz => castTop (ef_8 m p1) kz
  obtain ⟨fs, hr, hrun, hended, hW, hsame⟩ := X0.leave (v := some (.int (0 : Int32))) (fun h => by rw [Bd.returns] at h; cases h)
  refine ⟨_, _, pre0 _ ?_, hrun, hended, _, _, rfl, ?_, ⟨_, rfl⟩, hW, hsame.mono (by decide) (by decide)⟩
  · show Steps p.tables e below (s₁.setTop (mkF m 0 #[.val (.int p1)] [])) _
    refine XS.iloadN X0.here hx rfl (hb hby d8_0) rfl ?_
    show Steps p.tables e below (s₁.setTop (mkF m 1 #[.val (.int p1)] [(.int p1)])) _
    refine XS.ifNo X0.here hx rfl (hb hby d8_1) rfl ((if0 _ _).trans (flt (hc1 : ¬ (p1 < (0 : Int32)))).1) ?_
    show Steps p.tables e below (s₁.setTop (mkF m 4 #[.val (.int p1)] [])) _
    refine XS.iloadN X0.here hx rfl (hb hby d8_4) rfl ?_
    show Steps p.tables e below (s₁.setTop (mkF m 5 #[.val (.int p1)] [(.int p1)])) _
    refine XS.sipush X0.here hx rfl (hb hby d8_5) ?_
    show Steps p.tables e below (s₁.setTop (mkF m 8 #[.val (.int p1)] [(.int (255 : Int32)), (.int p1)])) _
    refine XS.icmpYes X0.here hx rfl (pc0 := 8) (pc' := 15) rfl (hb hby d8_8) rfl (tlt (hc8 : (255 : Int32) < p1)).2.2.1 (by decide) (by decide) ?_
    show Steps p.tables e below (s₁.setTop (mkF m 15 #[.val (.int p1)] [])) _
    refine XS.iconst X0.here hx rfl (hb hby d8_15) ?_
    show Steps p.tables e below (s₁.setTop (mkF m 16 #[.val (.int p1)] [(.int (0 : Int32))])) _
    exact retN X0 hx (t := .boolean) Bd.returns (by simp) (hb hby d8_16) hr
  · show QI Z (own_ce p1) h0 n0 _ s₁.heap _
    rw [e0]
    exact ⟨by simp [own_ce, hc1, hc8], N0, rfl⟩
theorem d8_11 : decode jdk_43_method_4_code 11 = .ok (.iconst 1, 1) := by decide +kernel
theorem d8_12 : decode jdk_43_method_4_code 12 = .ok (.goto 4, 3) := by decide +kernel
set_option maxRecDepth 65536 in
set_option maxHeartbeats 40000000 in
theorem rmCec (l : Launch) (Z : State) (a0 : Array Value) (hw : ∀ d ∈ tables_1, d.before a0 Z = true) (ws : List Jvm.Cond) (p1 : Int32) (h0 : Heap) (n0 : Nat) (Z0 : n0 ≤ h0.size) (hc1 : ¬ (p1 < (0 : Int32))) (hc8 : ¬ ((255 : Int32) < p1)) :
    MetFree l (⟨"java/lang/StringLatin1", "canEncode", "(I)Z"⟩ : MethodName) (head1 (Jvm.Cond.code (⟨"java/lang/StringLatin1", "canEncode", "(I)Z"⟩ : MethodName) jdk_43_method_4_code 1 (some .boolean) :: ws) ({ frames := 0, cells := 0, slots := 0, locals := 0 } : Room)) (fun a U => a = #[(.int p1)] ∧ Z.Warmed39 U.vm ∧ U.heap = h0) (fun _ _ _ _ _ => True) (fun _ U o U' => ∃ v L, o = .returned v ∧ QI Z (own_ce p1) h0 n0 v U'.heap L ∧ FrameEnd U o U' L ({ frames := 0, cells := 0, slots := 0, locals := 0 } : Room).cells ({ frames := 0, cells := 0, slots := 0, locals := 0 } : Room).slots) := by
  refine MetFree.of_bodySF (plainFor_of_name pn_8) hisR ?_
  intro p e s m args below meth c s₁ Bd hml0 hP hK
  obtain ⟨rfl, hZ, hh⟩ := hP
  have hx := Bd.exec
  have hby := Bd.bytes
  have hml : c.maxLocals = 1 := hml0
  have hown : s.vm.findClass "java/lang/StringLatin1" = some m.cls := findClass_of_methodNamed Bd.named
  have hnm := (name_of_methodNamed Bd.named Bd.method).1
  have X0 : Stand p l e ({ frames := 0, cells := 0, slots := 0, locals := 0 } : Room) s m #[(.int p1)] below meth c s₁ [] 0 0 := Stand.of_body Bd
  have e0 : s₁.heap = h0 := by rw [← hh, Bd.state]; rfl
  have N0 := Fr.nil n0
  have pre0 : ∀ tz, Steps p.tables e below (s₁.setTop (mkF m 0 #[.val (.int p1)] [])) tz → Steps p.tables e below (s₁.setTop (entryFrame m #[(.int p1)] 1)) tz := fun tz kz => castTop (ef_8 m p1) kz
  obtain ⟨fs, hr, hrun, hended, hW, hsame⟩ := X0.leave (v := some (.int (1 : Int32))) (fun h => by rw [Bd.returns] at h; cases h)
  refine ⟨_, _, pre0 _ ?_, hrun, hended, _, _, rfl, ?_, ⟨_, rfl⟩, hW, hsame.mono (by decide) (by decide)⟩
  · show Steps p.tables e below (s₁.setTop (mkF m 0 #[.val (.int p1)] [])) _
    refine XS.iloadN X0.here hx rfl (hb hby d8_0) rfl ?_
    show Steps p.tables e below (s₁.setTop (mkF m 1 #[.val (.int p1)] [(.int p1)])) _
    refine XS.ifNo X0.here hx rfl (hb hby d8_1) rfl ((if0 _ _).trans (flt (hc1 : ¬ (p1 < (0 : Int32)))).1) ?_
    show Steps p.tables e below (s₁.setTop (mkF m 4 #[.val (.int p1)] [])) _
    refine XS.iloadN X0.here hx rfl (hb hby d8_4) rfl ?_
    show Steps p.tables e below (s₁.setTop (mkF m 5 #[.val (.int p1)] [(.int p1)])) _
    refine XS.sipush X0.here hx rfl (hb hby d8_5) ?_
    show Steps p.tables e below (s₁.setTop (mkF m 8 #[.val (.int p1)] [(.int (255 : Int32)), (.int p1)])) _
    refine XS.icmpNo X0.here hx rfl (hb hby d8_8) rfl (flt (hc8 : ¬ ((255 : Int32) < p1))).2.2.1 ?_
    show Steps p.tables e below (s₁.setTop (mkF m 11 #[.val (.int p1)] [])) _
    refine XS.iconst X0.here hx rfl (hb hby d8_11) ?_
    show Steps p.tables e below (s₁.setTop (mkF m 12 #[.val (.int p1)] [(.int (1 : Int32))])) _
    refine XS.goto X0.here hx rfl (pc0 := 12) (pc' := 16) rfl (hb hby d8_12) (by decide) (by decide) ?_
    show Steps p.tables e below (s₁.setTop (mkF m 16 #[.val (.int p1)] [(.int (1 : Int32))])) _
    exact retN X0 hx (t := .boolean) Bd.returns (by simp) (hb hby d8_16) hr
  · show QI Z (own_ce p1) h0 n0 _ s₁.heap _
    rw [e0]
    exact ⟨by simp [own_ce, hc1, hc8], N0, rfl⟩
theorem rmCe (l : Launch) (Z : State) (a0 : Array Value) (hw : ∀ d ∈ tables_1, d.before a0 Z = true) (ws : List Jvm.Cond) (p1 : Int32) (h0 : Heap) (n0 : Nat) (Z0 : n0 ≤ h0.size) : MetFree l (⟨"java/lang/StringLatin1", "canEncode", "(I)Z"⟩ : MethodName) (head1 (Jvm.Cond.code (⟨"java/lang/StringLatin1", "canEncode", "(I)Z"⟩ : MethodName) jdk_43_method_4_code 1 (some .boolean) :: ws) ({ frames := 0, cells := 0, slots := 0, locals := 0 } : Room)) (fun a U => a = #[(.int p1)] ∧ Z.Warmed39 U.vm ∧ U.heap = h0) (fun _ _ _ _ _ => True) (fun _ U o U' => ∃ v L, o = .returned v ∧ QI Z (own_ce p1) h0 n0 v U'.heap L ∧ FrameEnd U o U' L ({ frames := 0, cells := 0, slots := 0, locals := 0 } : Room).cells ({ frames := 0, cells := 0, slots := 0, locals := 0 } : Room).slots) := by
  by_cases h1 : p1 < (0 : Int32)
  · exact rmCea l Z a0 hw ws p1 h0 n0 Z0 h1
  · by_cases h2 : (255 : Int32) < p1
    · exact rmCeb l Z a0 hw ws p1 h0 n0 Z0 h1 h2
    · exact rmCec l Z a0 hw ws p1 h0 n0 Z0 h1 h2
theorem d9_0 : decode jdk_29_method_65_code 0 = .ok (.iload_n 0, 1) := by decide +kernel
theorem d9_1 : decode jdk_29_method_65_code 1 = .ok (.iload_n 1, 1) := by decide +kernel
theorem d9_2 : decode jdk_29_method_65_code 2 = .ok (.if_icmp .lt 7, 3) := by decide +kernel
theorem d9_5 : decode jdk_29_method_65_code 5 = .ok (.iload_n 0, 1) := by decide +kernel
theorem d9_6 : decode jdk_29_method_65_code 6 = .ok (.goto 4, 3) := by decide +kernel
theorem d9_10 : decode jdk_29_method_65_code 10 = .ok (.ireturn, 1) := by decide +kernel
theorem ef_9 (m : MethodId) (x0 : Int32) (x1 : Int32) : entryFrame m #[(.int x0), (.int x1)] 2 = mkF m 0 #[.val (.int x0), .val (.int x1)] [] := by first | (simp [entryFrame, mkF, argsToLocals, Value.category]; done) | rfl
set_option maxRecDepth 65536 in
set_option maxHeartbeats 40000000 in
theorem rmMax (l : Launch) (Z : State) (a0 : Array Value) (hw : ∀ d ∈ tables_1, d.before a0 Z = true) (ws : List Jvm.Cond)  (h0 : Heap) (n0 : Nat) (Z0 : n0 ≤ h0.size) :
    MetFree l (⟨"java/lang/Math", "max", "(II)I"⟩ : MethodName) (head1 (Jvm.Cond.code (⟨"java/lang/Math", "max", "(II)I"⟩ : MethodName) jdk_29_method_65_code 2 (some .int) :: ws) ({ frames := 0, cells := 0, slots := 0, locals := 0 } : Room)) (fun a U => a = #[(.int (0 : Int32)), (.int (0 : Int32))] ∧ Z.Warmed39 U.vm ∧ U.heap = h0) (fun _ _ _ _ _ => True) (fun _ U o U' => ∃ v L, o = .returned v ∧ QI Z (0 : Int32) h0 n0 v U'.heap L ∧ FrameEnd U o U' L ({ frames := 0, cells := 0, slots := 0, locals := 0 } : Room).cells ({ frames := 0, cells := 0, slots := 0, locals := 0 } : Room).slots) := by
  refine MetFree.of_bodySF (Jvm.Free.JP.mathPlain rfl (by decide +kernel)) hisR ?_
  intro p e s m args below meth c s₁ Bd hml0 hP hK
  obtain ⟨rfl, hZ, hh⟩ := hP
  have hx := Bd.exec
  have hby := Bd.bytes
  have hml : c.maxLocals = 2 := hml0
  have hown : s.vm.findClass "java/lang/Math" = some m.cls := findClass_of_methodNamed Bd.named
  have hnm := (name_of_methodNamed Bd.named Bd.method).1
  have X0 : Stand p l e ({ frames := 0, cells := 0, slots := 0, locals := 0 } : Room) s m #[(.int (0 : Int32)), (.int (0 : Int32))] below meth c s₁ [] 0 0 := Stand.of_body Bd
  have e0 : s₁.heap = h0 := by rw [← hh, Bd.state]; rfl
  have N0 := Fr.nil n0
  have pre0 : ∀ tz, Steps p.tables e below (s₁.setTop (mkF m 0 #[.val (.int (0 : Int32)), .val (.int (0 : Int32))] [])) tz → Steps p.tables e below (s₁.setTop (entryFrame m #[(.int (0 : Int32)), (.int (0 : Int32))] 2)) tz := fun tz kz => castTop (ef_9 m (0 : Int32) (0 : Int32)) kz
  obtain ⟨fs, hr, hrun, hended, hW, hsame⟩ := X0.leave (v := some (.int (0 : Int32))) (fun h => by rw [Bd.returns] at h; cases h)
  refine ⟨_, _, pre0 _ ?_, hrun, hended, _, _, rfl, ?_, ⟨_, rfl⟩, hW, hsame.mono (by decide) (by decide)⟩
  · show Steps p.tables e below (s₁.setTop (mkF m 0 #[.val (.int (0 : Int32)), .val (.int (0 : Int32))] [])) _
    refine XS.iloadN X0.here hx rfl (hb hby d9_0) rfl ?_
    show Steps p.tables e below (s₁.setTop (mkF m 1 #[.val (.int (0 : Int32)), .val (.int (0 : Int32))] [(.int (0 : Int32))])) _
    refine XS.iloadN X0.here hx rfl (hb hby d9_1) rfl ?_
    show Steps p.tables e below (s₁.setTop (mkF m 2 #[.val (.int (0 : Int32)), .val (.int (0 : Int32))] [(.int (0 : Int32)), (.int (0 : Int32))])) _
    refine XS.icmpNo X0.here hx rfl (hb hby d9_2) rfl (flt ((by decide) : ¬ ((0 : Int32) < (0 : Int32)))).1 ?_
    show Steps p.tables e below (s₁.setTop (mkF m 5 #[.val (.int (0 : Int32)), .val (.int (0 : Int32))] [])) _
    refine XS.iloadN X0.here hx rfl (hb hby d9_5) rfl ?_
    show Steps p.tables e below (s₁.setTop (mkF m 6 #[.val (.int (0 : Int32)), .val (.int (0 : Int32))] [(.int (0 : Int32))])) _
    refine XS.goto X0.here hx rfl (pc0 := 6) (pc' := 10) rfl (hb hby d9_6) (by decide) (by decide) ?_
    show Steps p.tables e below (s₁.setTop (mkF m 10 #[.val (.int (0 : Int32)), .val (.int (0 : Int32))] [(.int (0 : Int32))])) _
    exact retI X0 hx Bd.returns (hb hby d9_10) hr
  · show QI Z (0 : Int32) h0 n0 _ s₁.heap _
    rw [e0]
    exact ⟨rfl, N0, rfl⟩
theorem d10_0 : decode jdk_29_method_69_code 0 = .ok (.iload_n 0, 1) := by decide +kernel
theorem d10_1 : decode jdk_29_method_69_code 1 = .ok (.iload_n 1, 1) := by decide +kernel
theorem d10_2 : decode jdk_29_method_69_code 2 = .ok (.if_icmp .gt 7, 3) := by decide +kernel
theorem d10_5 : decode jdk_29_method_69_code 5 = .ok (.iload_n 0, 1) := by decide +kernel
theorem d10_6 : decode jdk_29_method_69_code 6 = .ok (.goto 4, 3) := by decide +kernel
theorem d10_10 : decode jdk_29_method_69_code 10 = .ok (.ireturn, 1) := by decide +kernel
theorem ef_10 (m : MethodId) (x0 : Int32) (x1 : Int32) : entryFrame m #[(.int x0), (.int x1)] 2 = mkF m 0 #[.val (.int x0), .val (.int x1)] [] := by first | (simp [entryFrame, mkF, argsToLocals, Value.category]; done) | rfl
set_option maxRecDepth 65536 in
set_option maxHeartbeats 40000000 in
theorem rmMin (l : Launch) (Z : State) (a0 : Array Value) (hw : ∀ d ∈ tables_1, d.before a0 Z = true) (ws : List Jvm.Cond)  (h0 : Heap) (n0 : Nat) (Z0 : n0 ≤ h0.size) :
    MetFree l (⟨"java/lang/Math", "min", "(II)I"⟩ : MethodName) (head1 (Jvm.Cond.code (⟨"java/lang/Math", "min", "(II)I"⟩ : MethodName) jdk_29_method_69_code 2 (some .int) :: ws) ({ frames := 0, cells := 0, slots := 0, locals := 0 } : Room)) (fun a U => a = #[(.int (17 : Int32)), (.int (17 : Int32))] ∧ Z.Warmed39 U.vm ∧ U.heap = h0) (fun _ _ _ _ _ => True) (fun _ U o U' => ∃ v L, o = .returned v ∧ QI Z (17 : Int32) h0 n0 v U'.heap L ∧ FrameEnd U o U' L ({ frames := 0, cells := 0, slots := 0, locals := 0 } : Room).cells ({ frames := 0, cells := 0, slots := 0, locals := 0 } : Room).slots) := by
  refine MetFree.of_bodySF (Jvm.Free.JP.mathPlain rfl (by decide +kernel)) hisR ?_
  intro p e s m args below meth c s₁ Bd hml0 hP hK
  obtain ⟨rfl, hZ, hh⟩ := hP
  have hx := Bd.exec
  have hby := Bd.bytes
  have hml : c.maxLocals = 2 := hml0
  have hown : s.vm.findClass "java/lang/Math" = some m.cls := findClass_of_methodNamed Bd.named
  have hnm := (name_of_methodNamed Bd.named Bd.method).1
  have X0 : Stand p l e ({ frames := 0, cells := 0, slots := 0, locals := 0 } : Room) s m #[(.int (17 : Int32)), (.int (17 : Int32))] below meth c s₁ [] 0 0 := Stand.of_body Bd
  have e0 : s₁.heap = h0 := by rw [← hh, Bd.state]; rfl
  have N0 := Fr.nil n0
  have pre0 : ∀ tz, Steps p.tables e below (s₁.setTop (mkF m 0 #[.val (.int (17 : Int32)), .val (.int (17 : Int32))] [])) tz → Steps p.tables e below (s₁.setTop (entryFrame m #[(.int (17 : Int32)), (.int (17 : Int32))] 2)) tz := fun tz kz => castTop (ef_10 m (17 : Int32) (17 : Int32)) kz
  obtain ⟨fs, hr, hrun, hended, hW, hsame⟩ := X0.leave (v := some (.int (17 : Int32))) (fun h => by rw [Bd.returns] at h; cases h)
  refine ⟨_, _, pre0 _ ?_, hrun, hended, _, _, rfl, ?_, ⟨_, rfl⟩, hW, hsame.mono (by decide) (by decide)⟩
  · show Steps p.tables e below (s₁.setTop (mkF m 0 #[.val (.int (17 : Int32)), .val (.int (17 : Int32))] [])) _
    refine XS.iloadN X0.here hx rfl (hb hby d10_0) rfl ?_
    show Steps p.tables e below (s₁.setTop (mkF m 1 #[.val (.int (17 : Int32)), .val (.int (17 : Int32))] [(.int (17 : Int32))])) _
    refine XS.iloadN X0.here hx rfl (hb hby d10_1) rfl ?_
    show Steps p.tables e below (s₁.setTop (mkF m 2 #[.val (.int (17 : Int32)), .val (.int (17 : Int32))] [(.int (17 : Int32)), (.int (17 : Int32))])) _
    refine XS.icmpNo X0.here hx rfl (hb hby d10_2) rfl (flt ((by decide) : ¬ ((17 : Int32) < (17 : Int32)))).2.2.1 ?_
    show Steps p.tables e below (s₁.setTop (mkF m 5 #[.val (.int (17 : Int32)), .val (.int (17 : Int32))] [])) _
    refine XS.iloadN X0.here hx rfl (hb hby d10_5) rfl ?_
    show Steps p.tables e below (s₁.setTop (mkF m 6 #[.val (.int (17 : Int32)), .val (.int (17 : Int32))] [(.int (17 : Int32))])) _
    refine XS.goto X0.here hx rfl (pc0 := 6) (pc' := 10) rfl (hb hby d10_6) (by decide) (by decide) ?_
    show Steps p.tables e below (s₁.setTop (mkF m 10 #[.val (.int (17 : Int32)), .val (.int (17 : Int32))] [(.int (17 : Int32))])) _
    exact retI X0 hx Bd.returns (hb hby d10_10) hr
  · show QI Z (17 : Int32) h0 n0 _ s₁.heap _
    rw [e0]
    exact ⟨rfl, N0, rfl⟩
theorem d11_7 : decode jdk_43_method_23_code 7 = .ok (.iload 5, 2) := by decide +kernel
theorem d11_9 : decode jdk_43_method_23_code 9 = .ok (.iload_n 3, 1) := by decide +kernel
theorem d11_10 : decode jdk_43_method_23_code 10 = .ok (.if_icmp .ge 21, 3) := by decide +kernel
theorem d11_13 : decode jdk_43_method_23_code 13 = .ok (.aload_n 0, 1) := by decide +kernel
theorem d11_14 : decode jdk_43_method_23_code 14 = .ok (.iload 5, 2) := by decide +kernel
theorem d11_16 : decode jdk_43_method_23_code 16 = .ok (.baload, 1) := by decide +kernel
theorem d11_17 : decode jdk_43_method_23_code 17 = .ok (.iload 4, 2) := by decide +kernel
theorem d11_19 : decode jdk_43_method_23_code 19 = .ok (.if_icmp .ne 6, 3) := by decide +kernel
theorem d11_25 : decode jdk_43_method_23_code 25 = .ok (.iinc 5 1, 3) := by decide +kernel
theorem d11_28 : decode jdk_43_method_23_code 28 = .ok (.goto (-21), 3) := by decide +kernel
set_option maxRecDepth 65536 in
set_option maxHeartbeats 40000000 in
theorem tnI {p : Program} {l : Launch} {e : Env} {R : Room} {s : State} {m : MethodId} {args : Array Value} {below : List Frame} {meth : Method} {c : Code} {T0 : State} {locs : List Loc} {cells slots : Nat} {Z : State} {a0 : Array Value} {h0 : Heap} {n0 : Nat} (b1 : Addr) (p2 cb i i' x : Int32) (k : ClassId) (X0 : Stand p l e R s m args below meth c T0 locs cells slots) (hx : p.tables.exec = Jvm.exec) (hZ : Z.Warmed39 s.vm) (hw : ∀ d ∈ tables_1, d.before a0 Z = true) (hby : c.code = jdk_43_method_23_code) (hml : c.maxLocals = 6) (hown : s.vm.findClass "java/lang/StringLatin1" = some m.cls) (e0 : T0.heap = h0) (N0 : Fr n0 locs) (Z0 : n0 ≤ h0.size) (V_b : Arv Z h0 b1 k .byte (17 : Int32) [(.int (35 : Int32)), (.int (36 : Int32)), (.int (38 : Int32)), (.int (42 : Int32)), (.int (43 : Int32)), (.int (45 : Int32)), (.int (46 : Int32)), (.int (47 : Int32)), (.int (58 : Int32)), (.int (60 : Int32)), (.int (61 : Int32)), (.int (62 : Int32)), (.int (63 : Int32)), (.int (64 : Int32)), (.int (94 : Int32)), (.int (126 : Int32)), (.int (92 : Int32))] (.int (0 : Int32))) (hlt : i < (17 : Int32)) (hin : ¬ i < 0 ∧ i < (17 : Int32)) (hu : ([(.int (35 : Int32)), (.int (36 : Int32)), (.int (38 : Int32)), (.int (42 : Int32)), (.int (43 : Int32)), (.int (45 : Int32)), (.int (46 : Int32)), (.int (47 : Int32)), (.int (58 : Int32)), (.int (60 : Int32)), (.int (61 : Int32)), (.int (62 : Int32)), (.int (63 : Int32)), (.int (64 : Int32)), (.int (94 : Int32)), (.int (126 : Int32)), (.int (92 : Int32))] : List Value).getD i.toNatClampNeg (.int (0 : Int32)) = (.int x)) (hne : ¬ (x = cb)) (hi' : (i + (1 : Int32)) = i') :
    ∀ target, Steps p.tables e below (T0.setTop (mkF m 7 #[.val (.ref b1), .val (.int p2), .val (.int (0 : Int32)), .val (.int (17 : Int32)), .val (.int cb), .val (.int i')] [])) target → Steps p.tables e below (T0.setTop (mkF m 7 #[.val (.ref b1), .val (.int p2), .val (.int (0 : Int32)), .val (.int (17 : Int32)), .val (.int cb), .val (.int i)] [])) target := by
  obtain ⟨cl1, Ar1, q1, S1, M1, H1, G1⟩ := id V_b
  have hin1 : ¬ (i < 0 ∨ cl1.slots.size ≤ (i).toNatClampNeg) := inb_of S1 hin
  have hat1 : cl1.slots[(i).toNatClampNeg]? = some (.int x) := Has.at H1 hin1 hu
  intro target kt
  show Steps p.tables e below (T0.setTop (mkF m 7 #[.val (.ref b1), .val (.int p2), .val (.int (0 : Int32)), .val (.int (17 : Int32)), .val (.int cb), .val (.int i)] [])) _
  refine XS.iload X0.here hx rfl (hb hby d11_7) rfl ?_
  show Steps p.tables e below (T0.setTop (mkF m 9 #[.val (.ref b1), .val (.int p2), .val (.int (0 : Int32)), .val (.int (17 : Int32)), .val (.int cb), .val (.int i)] [(.int i)])) _
  refine XS.iloadN X0.here hx rfl (hb hby d11_9) rfl ?_
  show Steps p.tables e below (T0.setTop (mkF m 10 #[.val (.ref b1), .val (.int p2), .val (.int (0 : Int32)), .val (.int (17 : Int32)), .val (.int cb), .val (.int i)] [(.int (17 : Int32)), (.int i)])) _
  refine XS.icmpNo X0.here hx rfl (hb hby d11_10) rfl (tlt (hlt : i < (17 : Int32))).2.1 ?_
  show Steps p.tables e below (T0.setTop (mkF m 13 #[.val (.ref b1), .val (.int p2), .val (.int (0 : Int32)), .val (.int (17 : Int32)), .val (.int cb), .val (.int i)] [])) _
  refine XS.aloadN X0.here hx rfl (hb hby d11_13) rfl rfl ?_
  show Steps p.tables e below (T0.setTop (mkF m 14 #[.val (.ref b1), .val (.int p2), .val (.int (0 : Int32)), .val (.int (17 : Int32)), .val (.int cb), .val (.int i)] [(.ref b1)])) _
  refine XS.iload X0.here hx rfl (hb hby d11_14) rfl ?_
  show Steps p.tables e below (T0.setTop (mkF m 16 #[.val (.ref b1), .val (.int p2), .val (.int (0 : Int32)), .val (.int (17 : Int32)), .val (.int cb), .val (.int i)] [(.int i), (.ref b1)])) _
  refine X0.baloadBytes hx (j := i) (v := (.int x)) (by rw [e0]; exact Ar1.1) (State.isArrayOf_alike hZ.alike Ar1.2.1) Ar1.2.2 hin1 hat1 (g := (mkF m 16 #[.val (.ref b1), .val (.int p2), .val (.int (0 : Int32)), .val (.int (17 : Int32)), .val (.int cb), .val (.int i)] [(.int i), (.ref b1)])) rfl rfl (hb hby d11_16) _ ?_
  show Steps p.tables e below (T0.setTop (mkF m 17 #[.val (.ref b1), .val (.int p2), .val (.int (0 : Int32)), .val (.int (17 : Int32)), .val (.int cb), .val (.int i)] [(.int x)])) _
  refine XS.iload X0.here hx rfl (hb hby d11_17) rfl ?_
  show Steps p.tables e below (T0.setTop (mkF m 19 #[.val (.ref b1), .val (.int p2), .val (.int (0 : Int32)), .val (.int (17 : Int32)), .val (.int cb), .val (.int i)] [(.int cb), (.int x)])) _
  refine XS.icmpYes X0.here hx rfl (pc0 := 19) (pc' := 25) rfl (hb hby d11_19) rfl (feq (hne : ¬ (x = cb))).2 (by decide) (by decide) ?_
  show Steps p.tables e below (T0.setTop (mkF m 25 #[.val (.ref b1), .val (.int p2), .val (.int (0 : Int32)), .val (.int (17 : Int32)), .val (.int cb), .val (.int i)] [])) _
  refine XS.iinc X0.here hx rfl (hb hby d11_25) rfl (l' := #[.val (.ref b1), .val (.int p2), .val (.int (0 : Int32)), .val (.int (17 : Int32)), .val (.int cb), .val (.int (i + (1 : Int32)))]) rfl ?_
  show Steps p.tables e below (T0.setTop (mkF m 28 #[.val (.ref b1), .val (.int p2), .val (.int (0 : Int32)), .val (.int (17 : Int32)), .val (.int cb), .val (.int (i + (1 : Int32)))] [])) _
  rw [hi']
  show Steps p.tables e below (T0.setTop (mkF m 28 #[.val (.ref b1), .val (.int p2), .val (.int (0 : Int32)), .val (.int (17 : Int32)), .val (.int cb), .val (.int i')] [])) _
  refine XS.goto X0.here hx rfl (pc0 := 28) (pc' := 7) rfl (hb hby d11_28) (by decide) (by decide) ?_
  show Steps p.tables e below (T0.setTop (mkF m 7 #[.val (.ref b1), .val (.int p2), .val (.int (0 : Int32)), .val (.int (17 : Int32)), .val (.int cb), .val (.int i')] [])) _
  exact kt
theorem d11_0 : decode jdk_43_method_23_code 0 = .ok (.iload_n 1, 1) := by decide +kernel
theorem d11_1 : decode jdk_43_method_23_code 1 = .ok (.i2b, 1) := by decide +kernel
theorem d11_2 : decode jdk_43_method_23_code 2 = .ok (.istore 4, 2) := by decide +kernel
theorem d11_4 : decode jdk_43_method_23_code 4 = .ok (.iload_n 2, 1) := by decide +kernel
theorem d11_5 : decode jdk_43_method_23_code 5 = .ok (.istore 5, 2) := by decide +kernel
theorem d11_22 : decode jdk_43_method_23_code 22 = .ok (.iload 5, 2) := by decide +kernel
theorem d11_24 : decode jdk_43_method_23_code 24 = .ok (.ireturn, 1) := by decide +kernel
theorem pn_11 : plainName "java/lang/StringLatin1" = true := by first | (simp [plainName, overriddenIn]; done) | decide +kernel
theorem ef_11 (m : MethodId) (x0 : Addr) (x1 : Int32) (x2 : Int32) (x3 : Int32) : entryFrame m #[(.ref x0), (.int x1), (.int x2), (.int x3)] 6 = mkF m 0 #[.val (.ref x0), .val (.int x1), .val (.int x2), .val (.int x3), .unset, .unset] [] := by first | (simp [entryFrame, mkF, argsToLocals, Value.category]; done) | rfl
set_option maxRecDepth 65536 in
set_option maxHeartbeats 40000000 in
theorem rmIc_0 (l : Launch) (Z : State) (a0 : Array Value) (hw : ∀ d ∈ tables_1, d.before a0 Z = true) (ws : List Jvm.Cond) (b1 : Addr) (p2 : Int32) (k : ClassId) (h0 : Heap) (n0 : Nat) (Z0 : n0 ≤ h0.size) (V_b : Arv Z h0 b1 k .byte (17 : Int32) [(.int (35 : Int32)), (.int (36 : Int32)), (.int (38 : Int32)), (.int (42 : Int32)), (.int (43 : Int32)), (.int (45 : Int32)), (.int (46 : Int32)), (.int (47 : Int32)), (.int (58 : Int32)), (.int (60 : Int32)), (.int (61 : Int32)), (.int (62 : Int32)), (.int (63 : Int32)), (.int (64 : Int32)), (.int (94 : Int32)), (.int (126 : Int32)), (.int (92 : Int32))] (.int (0 : Int32))) (vh0 : (35 : Int32) = (p2.toInt8.toInt32)) :
    MetFree l (⟨"java/lang/StringLatin1", "indexOfChar", "([BIII)I"⟩ : MethodName) (head1 (Jvm.Cond.code (⟨"java/lang/StringLatin1", "indexOfChar", "([BIII)I"⟩ : MethodName) jdk_43_method_23_code 6 (some .int) :: ws) ({ frames := 0, cells := 0, slots := 0, locals := 0 } : Room)) (fun a U => a = #[(.ref b1), (.int p2), (.int (0 : Int32)), (.int (17 : Int32))] ∧ Z.Warmed39 U.vm ∧ U.heap = h0) (fun _ _ _ _ _ => True) (fun _ U o U' => ∃ v L, o = .returned v ∧ QI Z (own_f (p2.toInt8.toInt32)) h0 n0 v U'.heap L ∧ FrameEnd U o U' L ({ frames := 0, cells := 0, slots := 0, locals := 0 } : Room).cells ({ frames := 0, cells := 0, slots := 0, locals := 0 } : Room).slots) := by
  refine MetFree.of_bodySF (plainFor_of_name pn_11) hisR ?_
  intro p e s m args below meth c s₁ Bd hml0 hP hK
  obtain ⟨rfl, hZ, hh⟩ := hP
  have hx := Bd.exec
  have hby := Bd.bytes
  have hml : c.maxLocals = 6 := hml0
  have hown : s.vm.findClass "java/lang/StringLatin1" = some m.cls := findClass_of_methodNamed Bd.named
  have hnm := (name_of_methodNamed Bd.named Bd.method).1
  have X0 : Stand p l e ({ frames := 0, cells := 0, slots := 0, locals := 0 } : Room) s m #[(.ref b1), (.int p2), (.int (0 : Int32)), (.int (17 : Int32))] below meth c s₁ [] 0 0 := Stand.of_body Bd
  have e0 : s₁.heap = h0 := by rw [← hh, Bd.state]; rfl
  have N0 := Fr.nil n0
  have pre0 : ∀ tz, Steps p.tables e below (s₁.setTop (mkF m 0 #[.val (.ref b1), .val (.int p2), .val (.int (0 : Int32)), .val (.int (17 : Int32)), .unset, .unset] [])) tz → Steps p.tables e below (s₁.setTop (entryFrame m #[(.ref b1), (.int p2), (.int (0 : Int32)), (.int (17 : Int32))] 6)) tz := fun tz kz => castTop (ef_11 m b1 p2 (0 : Int32) (17 : Int32)) kz
  obtain ⟨cl1, Ar1, q1, S1, M1, H1, G1⟩ := id V_b
  have hin1 : ¬ ((0 : Int32) < 0 ∨ cl1.slots.size ≤ ((0 : Int32)).toNatClampNeg) := inb_of S1 ⟨by decide, by decide⟩
  have hat1 : cl1.slots[((0 : Int32)).toNatClampNeg]? = some (.int (35 : Int32)) := Has.at H1 hin1 rfl
  obtain ⟨fs, hr, hrun, hended, hW, hsame⟩ := X0.leave (v := some (.int (0 : Int32))) (fun h => by rw [Bd.returns] at h; cases h)
  refine ⟨_, _, pre0 _ ?_, hrun, hended, _, _, rfl, ?_, ⟨_, rfl⟩, hW, hsame.mono (by decide) (by decide)⟩
  · show Steps p.tables e below (s₁.setTop (mkF m 0 #[.val (.ref b1), .val (.int p2), .val (.int (0 : Int32)), .val (.int (17 : Int32)), .unset, .unset] [])) _
    refine XS.iloadN X0.here hx rfl (hb hby d11_0) rfl ?_
    show Steps p.tables e below (s₁.setTop (mkF m 1 #[.val (.ref b1), .val (.int p2), .val (.int (0 : Int32)), .val (.int (17 : Int32)), .unset, .unset] [(.int p2)])) _
    refine XS.i2b X0.here hx rfl (hb hby d11_1) rfl ?_
    show Steps p.tables e below (s₁.setTop (mkF m 2 #[.val (.ref b1), .val (.int p2), .val (.int (0 : Int32)), .val (.int (17 : Int32)), .unset, .unset] [(.int (p2.toInt8.toInt32))])) _
    refine XS.istore X0.here hx rfl (hb hby d11_2) rfl (l' := #[.val (.ref b1), .val (.int p2), .val (.int (0 : Int32)), .val (.int (17 : Int32)), .val (.int (p2.toInt8.toInt32)), .unset]) rfl ?_
    show Steps p.tables e below (s₁.setTop (mkF m 4 #[.val (.ref b1), .val (.int p2), .val (.int (0 : Int32)), .val (.int (17 : Int32)), .val (.int (p2.toInt8.toInt32)), .unset] [])) _
    refine XS.iloadN X0.here hx rfl (hb hby d11_4) rfl ?_
    show Steps p.tables e below (s₁.setTop (mkF m 5 #[.val (.ref b1), .val (.int p2), .val (.int (0 : Int32)), .val (.int (17 : Int32)), .val (.int (p2.toInt8.toInt32)), .unset] [(.int (0 : Int32))])) _
    refine XS.istore X0.here hx rfl (hb hby d11_5) rfl (l' := #[.val (.ref b1), .val (.int p2), .val (.int (0 : Int32)), .val (.int (17 : Int32)), .val (.int (p2.toInt8.toInt32)), .val (.int (0 : Int32))]) rfl ?_
    show Steps p.tables e below (s₁.setTop (mkF m 7 #[.val (.ref b1), .val (.int p2), .val (.int (0 : Int32)), .val (.int (17 : Int32)), .val (.int (p2.toInt8.toInt32)), .val (.int (0 : Int32))] [])) _
    refine XS.iload X0.here hx rfl (hb hby d11_7) rfl ?_
    show Steps p.tables e below (s₁.setTop (mkF m 9 #[.val (.ref b1), .val (.int p2), .val (.int (0 : Int32)), .val (.int (17 : Int32)), .val (.int (p2.toInt8.toInt32)), .val (.int (0 : Int32))] [(.int (0 : Int32))])) _
    refine XS.iloadN X0.here hx rfl (hb hby d11_9) rfl ?_
    show Steps p.tables e below (s₁.setTop (mkF m 10 #[.val (.ref b1), .val (.int p2), .val (.int (0 : Int32)), .val (.int (17 : Int32)), .val (.int (p2.toInt8.toInt32)), .val (.int (0 : Int32))] [(.int (17 : Int32)), (.int (0 : Int32))])) _
    refine XS.icmpNo X0.here hx rfl (hb hby d11_10) rfl (tlt ((by decide) : (0 : Int32) < (17 : Int32))).2.1 ?_
    show Steps p.tables e below (s₁.setTop (mkF m 13 #[.val (.ref b1), .val (.int p2), .val (.int (0 : Int32)), .val (.int (17 : Int32)), .val (.int (p2.toInt8.toInt32)), .val (.int (0 : Int32))] [])) _
    refine XS.aloadN X0.here hx rfl (hb hby d11_13) rfl rfl ?_
    show Steps p.tables e below (s₁.setTop (mkF m 14 #[.val (.ref b1), .val (.int p2), .val (.int (0 : Int32)), .val (.int (17 : Int32)), .val (.int (p2.toInt8.toInt32)), .val (.int (0 : Int32))] [(.ref b1)])) _
    refine XS.iload X0.here hx rfl (hb hby d11_14) rfl ?_
    show Steps p.tables e below (s₁.setTop (mkF m 16 #[.val (.ref b1), .val (.int p2), .val (.int (0 : Int32)), .val (.int (17 : Int32)), .val (.int (p2.toInt8.toInt32)), .val (.int (0 : Int32))] [(.int (0 : Int32)), (.ref b1)])) _
    refine X0.baloadBytes hx (j := (0 : Int32)) (v := (.int (35 : Int32))) (by rw [e0]; exact Ar1.1) (State.isArrayOf_alike hZ.alike Ar1.2.1) Ar1.2.2 hin1 hat1 (g := (mkF m 16 #[.val (.ref b1), .val (.int p2), .val (.int (0 : Int32)), .val (.int (17 : Int32)), .val (.int (p2.toInt8.toInt32)), .val (.int (0 : Int32))] [(.int (0 : Int32)), (.ref b1)])) rfl rfl (hb hby d11_16) _ ?_
    show Steps p.tables e below (s₁.setTop (mkF m 17 #[.val (.ref b1), .val (.int p2), .val (.int (0 : Int32)), .val (.int (17 : Int32)), .val (.int (p2.toInt8.toInt32)), .val (.int (0 : Int32))] [(.int (35 : Int32))])) _
    refine XS.iload X0.here hx rfl (hb hby d11_17) rfl ?_
    show Steps p.tables e below (s₁.setTop (mkF m 19 #[.val (.ref b1), .val (.int p2), .val (.int (0 : Int32)), .val (.int (17 : Int32)), .val (.int (p2.toInt8.toInt32)), .val (.int (0 : Int32))] [(.int (p2.toInt8.toInt32)), (.int (35 : Int32))])) _
    refine XS.icmpNo X0.here hx rfl (hb hby d11_19) rfl (teq (vh0 : (35 : Int32) = (p2.toInt8.toInt32))).2 ?_
    show Steps p.tables e below (s₁.setTop (mkF m 22 #[.val (.ref b1), .val (.int p2), .val (.int (0 : Int32)), .val (.int (17 : Int32)), .val (.int (p2.toInt8.toInt32)), .val (.int (0 : Int32))] [])) _
    refine XS.iload X0.here hx rfl (hb hby d11_22) rfl ?_
    show Steps p.tables e below (s₁.setTop (mkF m 24 #[.val (.ref b1), .val (.int p2), .val (.int (0 : Int32)), .val (.int (17 : Int32)), .val (.int (p2.toInt8.toInt32)), .val (.int (0 : Int32))] [(.int (0 : Int32))])) _
    exact retI X0 hx Bd.returns (hb hby d11_24) hr
  · show QI Z (own_f (p2.toInt8.toInt32)) h0 n0 _ s₁.heap _
    rw [e0]
    exact ⟨congrArg (fun z => some (Value.int z)) (Eq.symm (if_pos vh0)), N0, rfl⟩
set_option maxRecDepth 65536 in
set_option maxHeartbeats 40000000 in
theorem rmIc_1 (l : Launch) (Z : State) (a0 : Array Value) (hw : ∀ d ∈ tables_1, d.before a0 Z = true) (ws : List Jvm.Cond) (b1 : Addr) (p2 : Int32) (k : ClassId) (h0 : Heap) (n0 : Nat) (Z0 : n0 ≤ h0.size) (V_b : Arv Z h0 b1 k .byte (17 : Int32) [(.int (35 : Int32)), (.int (36 : Int32)), (.int (38 : Int32)), (.int (42 : Int32)), (.int (43 : Int32)), (.int (45 : Int32)), (.int (46 : Int32)), (.int (47 : Int32)), (.int (58 : Int32)), (.int (60 : Int32)), (.int (61 : Int32)), (.int (62 : Int32)), (.int (63 : Int32)), (.int (64 : Int32)), (.int (94 : Int32)), (.int (126 : Int32)), (.int (92 : Int32))] (.int (0 : Int32))) (vh0 : ¬ ((35 : Int32) = (p2.toInt8.toInt32))) (vh1 : (36 : Int32) = (p2.toInt8.toInt32)) :
    MetFree l (⟨"java/lang/StringLatin1", "indexOfChar", "([BIII)I"⟩ : MethodName) (head1 (Jvm.Cond.code (⟨"java/lang/StringLatin1", "indexOfChar", "([BIII)I"⟩ : MethodName) jdk_43_method_23_code 6 (some .int) :: ws) ({ frames := 0, cells := 0, slots := 0, locals := 0 } : Room)) (fun a U => a = #[(.ref b1), (.int p2), (.int (0 : Int32)), (.int (17 : Int32))] ∧ Z.Warmed39 U.vm ∧ U.heap = h0) (fun _ _ _ _ _ => True) (fun _ U o U' => ∃ v L, o = .returned v ∧ QI Z (own_f (p2.toInt8.toInt32)) h0 n0 v U'.heap L ∧ FrameEnd U o U' L ({ frames := 0, cells := 0, slots := 0, locals := 0 } : Room).cells ({ frames := 0, cells := 0, slots := 0, locals := 0 } : Room).slots) := by
  refine MetFree.of_bodySF (plainFor_of_name pn_11) hisR ?_
  intro p e s m args below meth c s₁ Bd hml0 hP hK
  obtain ⟨rfl, hZ, hh⟩ := hP
  have hx := Bd.exec
  have hby := Bd.bytes
  have hml : c.maxLocals = 6 := hml0
  have hown : s.vm.findClass "java/lang/StringLatin1" = some m.cls := findClass_of_methodNamed Bd.named
  have hnm := (name_of_methodNamed Bd.named Bd.method).1
  have X0 : Stand p l e ({ frames := 0, cells := 0, slots := 0, locals := 0 } : Room) s m #[(.ref b1), (.int p2), (.int (0 : Int32)), (.int (17 : Int32))] below meth c s₁ [] 0 0 := Stand.of_body Bd
  have e0 : s₁.heap = h0 := by rw [← hh, Bd.state]; rfl
  have N0 := Fr.nil n0
  have pre0 : ∀ tz, Steps p.tables e below (s₁.setTop (mkF m 0 #[.val (.ref b1), .val (.int p2), .val (.int (0 : Int32)), .val (.int (17 : Int32)), .unset, .unset] [])) tz → Steps p.tables e below (s₁.setTop (entryFrame m #[(.ref b1), (.int p2), (.int (0 : Int32)), (.int (17 : Int32))] 6)) tz := fun tz kz => castTop (ef_11 m b1 p2 (0 : Int32) (17 : Int32)) kz
  obtain ⟨cl1, Ar1, q1, S1, M1, H1, G1⟩ := id V_b
  have hin1 : ¬ ((1 : Int32) < 0 ∨ cl1.slots.size ≤ ((1 : Int32)).toNatClampNeg) := inb_of S1 ⟨by decide, by decide⟩
  have hat1 : cl1.slots[((1 : Int32)).toNatClampNeg]? = some (.int (36 : Int32)) := Has.at H1 hin1 rfl
  obtain ⟨fs, hr, hrun, hended, hW, hsame⟩ := X0.leave (v := some (.int (1 : Int32))) (fun h => by rw [Bd.returns] at h; cases h)
  refine ⟨_, _, pre0 _ ?_, hrun, hended, _, _, rfl, ?_, ⟨_, rfl⟩, hW, hsame.mono (by decide) (by decide)⟩
  · show Steps p.tables e below (s₁.setTop (mkF m 0 #[.val (.ref b1), .val (.int p2), .val (.int (0 : Int32)), .val (.int (17 : Int32)), .unset, .unset] [])) _
    refine XS.iloadN X0.here hx rfl (hb hby d11_0) rfl ?_
    show Steps p.tables e below (s₁.setTop (mkF m 1 #[.val (.ref b1), .val (.int p2), .val (.int (0 : Int32)), .val (.int (17 : Int32)), .unset, .unset] [(.int p2)])) _
    refine XS.i2b X0.here hx rfl (hb hby d11_1) rfl ?_
    show Steps p.tables e below (s₁.setTop (mkF m 2 #[.val (.ref b1), .val (.int p2), .val (.int (0 : Int32)), .val (.int (17 : Int32)), .unset, .unset] [(.int (p2.toInt8.toInt32))])) _
    refine XS.istore X0.here hx rfl (hb hby d11_2) rfl (l' := #[.val (.ref b1), .val (.int p2), .val (.int (0 : Int32)), .val (.int (17 : Int32)), .val (.int (p2.toInt8.toInt32)), .unset]) rfl ?_
    show Steps p.tables e below (s₁.setTop (mkF m 4 #[.val (.ref b1), .val (.int p2), .val (.int (0 : Int32)), .val (.int (17 : Int32)), .val (.int (p2.toInt8.toInt32)), .unset] [])) _
    refine XS.iloadN X0.here hx rfl (hb hby d11_4) rfl ?_
    show Steps p.tables e below (s₁.setTop (mkF m 5 #[.val (.ref b1), .val (.int p2), .val (.int (0 : Int32)), .val (.int (17 : Int32)), .val (.int (p2.toInt8.toInt32)), .unset] [(.int (0 : Int32))])) _
    refine XS.istore X0.here hx rfl (hb hby d11_5) rfl (l' := #[.val (.ref b1), .val (.int p2), .val (.int (0 : Int32)), .val (.int (17 : Int32)), .val (.int (p2.toInt8.toInt32)), .val (.int (0 : Int32))]) rfl ?_
    show Steps p.tables e below (s₁.setTop (mkF m 7 #[.val (.ref b1), .val (.int p2), .val (.int (0 : Int32)), .val (.int (17 : Int32)), .val (.int (p2.toInt8.toInt32)), .val (.int (0 : Int32))] [])) _
    refine tnI b1 p2 (p2.toInt8.toInt32) (0 : Int32) (1 : Int32) (35 : Int32) k X0 hx hZ hw hby hml hown e0 N0 Z0 V_b (by decide) ⟨by decide, by decide⟩ rfl vh0 (by decide) _ ?_
    show Steps p.tables e below (s₁.setTop (mkF m 7 #[.val (.ref b1), .val (.int p2), .val (.int (0 : Int32)), .val (.int (17 : Int32)), .val (.int (p2.toInt8.toInt32)), .val (.int (1 : Int32))] [])) _
    refine XS.iload X0.here hx rfl (hb hby d11_7) rfl ?_
    show Steps p.tables e below (s₁.setTop (mkF m 9 #[.val (.ref b1), .val (.int p2), .val (.int (0 : Int32)), .val (.int (17 : Int32)), .val (.int (p2.toInt8.toInt32)), .val (.int (1 : Int32))] [(.int (1 : Int32))])) _
    refine XS.iloadN X0.here hx rfl (hb hby d11_9) rfl ?_
    show Steps p.tables e below (s₁.setTop (mkF m 10 #[.val (.ref b1), .val (.int p2), .val (.int (0 : Int32)), .val (.int (17 : Int32)), .val (.int (p2.toInt8.toInt32)), .val (.int (1 : Int32))] [(.int (17 : Int32)), (.int (1 : Int32))])) _
    refine XS.icmpNo X0.here hx rfl (hb hby d11_10) rfl (tlt ((by decide) : (1 : Int32) < (17 : Int32))).2.1 ?_
    show Steps p.tables e below (s₁.setTop (mkF m 13 #[.val (.ref b1), .val (.int p2), .val (.int (0 : Int32)), .val (.int (17 : Int32)), .val (.int (p2.toInt8.toInt32)), .val (.int (1 : Int32))] [])) _
    refine XS.aloadN X0.here hx rfl (hb hby d11_13) rfl rfl ?_
    show Steps p.tables e below (s₁.setTop (mkF m 14 #[.val (.ref b1), .val (.int p2), .val (.int (0 : Int32)), .val (.int (17 : Int32)), .val (.int (p2.toInt8.toInt32)), .val (.int (1 : Int32))] [(.ref b1)])) _
    refine XS.iload X0.here hx rfl (hb hby d11_14) rfl ?_
    show Steps p.tables e below (s₁.setTop (mkF m 16 #[.val (.ref b1), .val (.int p2), .val (.int (0 : Int32)), .val (.int (17 : Int32)), .val (.int (p2.toInt8.toInt32)), .val (.int (1 : Int32))] [(.int (1 : Int32)), (.ref b1)])) _
    refine X0.baloadBytes hx (j := (1 : Int32)) (v := (.int (36 : Int32))) (by rw [e0]; exact Ar1.1) (State.isArrayOf_alike hZ.alike Ar1.2.1) Ar1.2.2 hin1 hat1 (g := (mkF m 16 #[.val (.ref b1), .val (.int p2), .val (.int (0 : Int32)), .val (.int (17 : Int32)), .val (.int (p2.toInt8.toInt32)), .val (.int (1 : Int32))] [(.int (1 : Int32)), (.ref b1)])) rfl rfl (hb hby d11_16) _ ?_
    show Steps p.tables e below (s₁.setTop (mkF m 17 #[.val (.ref b1), .val (.int p2), .val (.int (0 : Int32)), .val (.int (17 : Int32)), .val (.int (p2.toInt8.toInt32)), .val (.int (1 : Int32))] [(.int (36 : Int32))])) _
    refine XS.iload X0.here hx rfl (hb hby d11_17) rfl ?_
    show Steps p.tables e below (s₁.setTop (mkF m 19 #[.val (.ref b1), .val (.int p2), .val (.int (0 : Int32)), .val (.int (17 : Int32)), .val (.int (p2.toInt8.toInt32)), .val (.int (1 : Int32))] [(.int (p2.toInt8.toInt32)), (.int (36 : Int32))])) _
    refine XS.icmpNo X0.here hx rfl (hb hby d11_19) rfl (teq (vh1 : (36 : Int32) = (p2.toInt8.toInt32))).2 ?_
    show Steps p.tables e below (s₁.setTop (mkF m 22 #[.val (.ref b1), .val (.int p2), .val (.int (0 : Int32)), .val (.int (17 : Int32)), .val (.int (p2.toInt8.toInt32)), .val (.int (1 : Int32))] [])) _
    refine XS.iload X0.here hx rfl (hb hby d11_22) rfl ?_
    show Steps p.tables e below (s₁.setTop (mkF m 24 #[.val (.ref b1), .val (.int p2), .val (.int (0 : Int32)), .val (.int (17 : Int32)), .val (.int (p2.toInt8.toInt32)), .val (.int (1 : Int32))] [(.int (1 : Int32))])) _
    exact retI X0 hx Bd.returns (hb hby d11_24) hr
  · show QI Z (own_f (p2.toInt8.toInt32)) h0 n0 _ s₁.heap _
    rw [e0]
    exact ⟨congrArg (fun z => some (Value.int z)) (Eq.symm ((if_neg vh0).trans (if_pos vh1))), N0, rfl⟩
set_option maxRecDepth 65536 in
set_option maxHeartbeats 40000000 in
theorem rmIc_2 (l : Launch) (Z : State) (a0 : Array Value) (hw : ∀ d ∈ tables_1, d.before a0 Z = true) (ws : List Jvm.Cond) (b1 : Addr) (p2 : Int32) (k : ClassId) (h0 : Heap) (n0 : Nat) (Z0 : n0 ≤ h0.size) (V_b : Arv Z h0 b1 k .byte (17 : Int32) [(.int (35 : Int32)), (.int (36 : Int32)), (.int (38 : Int32)), (.int (42 : Int32)), (.int (43 : Int32)), (.int (45 : Int32)), (.int (46 : Int32)), (.int (47 : Int32)), (.int (58 : Int32)), (.int (60 : Int32)), (.int (61 : Int32)), (.int (62 : Int32)), (.int (63 : Int32)), (.int (64 : Int32)), (.int (94 : Int32)), (.int (126 : Int32)), (.int (92 : Int32))] (.int (0 : Int32))) (vh0 : ¬ ((35 : Int32) = (p2.toInt8.toInt32))) (vh1 : ¬ ((36 : Int32) = (p2.toInt8.toInt32))) (vh2 : (38 : Int32) = (p2.toInt8.toInt32)) :
    MetFree l (⟨"java/lang/StringLatin1", "indexOfChar", "([BIII)I"⟩ : MethodName) (head1 (Jvm.Cond.code (⟨"java/lang/StringLatin1", "indexOfChar", "([BIII)I"⟩ : MethodName) jdk_43_method_23_code 6 (some .int) :: ws) ({ frames := 0, cells := 0, slots := 0, locals := 0 } : Room)) (fun a U => a = #[(.ref b1), (.int p2), (.int (0 : Int32)), (.int (17 : Int32))] ∧ Z.Warmed39 U.vm ∧ U.heap = h0) (fun _ _ _ _ _ => True) (fun _ U o U' => ∃ v L, o = .returned v ∧ QI Z (own_f (p2.toInt8.toInt32)) h0 n0 v U'.heap L ∧ FrameEnd U o U' L ({ frames := 0, cells := 0, slots := 0, locals := 0 } : Room).cells ({ frames := 0, cells := 0, slots := 0, locals := 0 } : Room).slots) := by
  refine MetFree.of_bodySF (plainFor_of_name pn_11) hisR ?_
  intro p e s m args below meth c s₁ Bd hml0 hP hK
  obtain ⟨rfl, hZ, hh⟩ := hP
  have hx := Bd.exec
  have hby := Bd.bytes
  have hml : c.maxLocals = 6 := hml0
  have hown : s.vm.findClass "java/lang/StringLatin1" = some m.cls := findClass_of_methodNamed Bd.named
  have hnm := (name_of_methodNamed Bd.named Bd.method).1
  have X0 : Stand p l e ({ frames := 0, cells := 0, slots := 0, locals := 0 } : Room) s m #[(.ref b1), (.int p2), (.int (0 : Int32)), (.int (17 : Int32))] below meth c s₁ [] 0 0 := Stand.of_body Bd
  have e0 : s₁.heap = h0 := by rw [← hh, Bd.state]; rfl
  have N0 := Fr.nil n0
  have pre0 : ∀ tz, Steps p.tables e below (s₁.setTop (mkF m 0 #[.val (.ref b1), .val (.int p2), .val (.int (0 : Int32)), .val (.int (17 : Int32)), .unset, .unset] [])) tz → Steps p.tables e below (s₁.setTop (entryFrame m #[(.ref b1), (.int p2), (.int (0 : Int32)), (.int (17 : Int32))] 6)) tz := fun tz kz => castTop (ef_11 m b1 p2 (0 : Int32) (17 : Int32)) kz
  obtain ⟨cl1, Ar1, q1, S1, M1, H1, G1⟩ := id V_b
  have hin1 : ¬ ((2 : Int32) < 0 ∨ cl1.slots.size ≤ ((2 : Int32)).toNatClampNeg) := inb_of S1 ⟨by decide, by decide⟩
  have hat1 : cl1.slots[((2 : Int32)).toNatClampNeg]? = some (.int (38 : Int32)) := Has.at H1 hin1 rfl
  obtain ⟨fs, hr, hrun, hended, hW, hsame⟩ := X0.leave (v := some (.int (2 : Int32))) (fun h => by rw [Bd.returns] at h; cases h)
  refine ⟨_, _, pre0 _ ?_, hrun, hended, _, _, rfl, ?_, ⟨_, rfl⟩, hW, hsame.mono (by decide) (by decide)⟩
  · show Steps p.tables e below (s₁.setTop (mkF m 0 #[.val (.ref b1), .val (.int p2), .val (.int (0 : Int32)), .val (.int (17 : Int32)), .unset, .unset] [])) _
    refine XS.iloadN X0.here hx rfl (hb hby d11_0) rfl ?_
    show Steps p.tables e below (s₁.setTop (mkF m 1 #[.val (.ref b1), .val (.int p2), .val (.int (0 : Int32)), .val (.int (17 : Int32)), .unset, .unset] [(.int p2)])) _
    refine XS.i2b X0.here hx rfl (hb hby d11_1) rfl ?_
    show Steps p.tables e below (s₁.setTop (mkF m 2 #[.val (.ref b1), .val (.int p2), .val (.int (0 : Int32)), .val (.int (17 : Int32)), .unset, .unset] [(.int (p2.toInt8.toInt32))])) _
    refine XS.istore X0.here hx rfl (hb hby d11_2) rfl (l' := #[.val (.ref b1), .val (.int p2), .val (.int (0 : Int32)), .val (.int (17 : Int32)), .val (.int (p2.toInt8.toInt32)), .unset]) rfl ?_
    show Steps p.tables e below (s₁.setTop (mkF m 4 #[.val (.ref b1), .val (.int p2), .val (.int (0 : Int32)), .val (.int (17 : Int32)), .val (.int (p2.toInt8.toInt32)), .unset] [])) _
    refine XS.iloadN X0.here hx rfl (hb hby d11_4) rfl ?_
    show Steps p.tables e below (s₁.setTop (mkF m 5 #[.val (.ref b1), .val (.int p2), .val (.int (0 : Int32)), .val (.int (17 : Int32)), .val (.int (p2.toInt8.toInt32)), .unset] [(.int (0 : Int32))])) _
    refine XS.istore X0.here hx rfl (hb hby d11_5) rfl (l' := #[.val (.ref b1), .val (.int p2), .val (.int (0 : Int32)), .val (.int (17 : Int32)), .val (.int (p2.toInt8.toInt32)), .val (.int (0 : Int32))]) rfl ?_
    show Steps p.tables e below (s₁.setTop (mkF m 7 #[.val (.ref b1), .val (.int p2), .val (.int (0 : Int32)), .val (.int (17 : Int32)), .val (.int (p2.toInt8.toInt32)), .val (.int (0 : Int32))] [])) _
    refine tnI b1 p2 (p2.toInt8.toInt32) (0 : Int32) (1 : Int32) (35 : Int32) k X0 hx hZ hw hby hml hown e0 N0 Z0 V_b (by decide) ⟨by decide, by decide⟩ rfl vh0 (by decide) _ ?_
    show Steps p.tables e below (s₁.setTop (mkF m 7 #[.val (.ref b1), .val (.int p2), .val (.int (0 : Int32)), .val (.int (17 : Int32)), .val (.int (p2.toInt8.toInt32)), .val (.int (1 : Int32))] [])) _
    refine tnI b1 p2 (p2.toInt8.toInt32) (1 : Int32) (2 : Int32) (36 : Int32) k X0 hx hZ hw hby hml hown e0 N0 Z0 V_b (by decide) ⟨by decide, by decide⟩ rfl vh1 (by decide) _ ?_
    show Steps p.tables e below (s₁.setTop (mkF m 7 #[.val (.ref b1), .val (.int p2), .val (.int (0 : Int32)), .val (.int (17 : Int32)), .val (.int (p2.toInt8.toInt32)), .val (.int (2 : Int32))] [])) _
    refine XS.iload X0.here hx rfl (hb hby d11_7) rfl ?_
    show Steps p.tables e below (s₁.setTop (mkF m 9 #[.val (.ref b1), .val (.int p2), .val (.int (0 : Int32)), .val (.int (17 : Int32)), .val (.int (p2.toInt8.toInt32)), .val (.int (2 : Int32))] [(.int (2 : Int32))])) _
    refine XS.iloadN X0.here hx rfl (hb hby d11_9) rfl ?_
    show Steps p.tables e below (s₁.setTop (mkF m 10 #[.val (.ref b1), .val (.int p2), .val (.int (0 : Int32)), .val (.int (17 : Int32)), .val (.int (p2.toInt8.toInt32)), .val (.int (2 : Int32))] [(.int (17 : Int32)), (.int (2 : Int32))])) _
    refine XS.icmpNo X0.here hx rfl (hb hby d11_10) rfl (tlt ((by decide) : (2 : Int32) < (17 : Int32))).2.1 ?_
    show Steps p.tables e below (s₁.setTop (mkF m 13 #[.val (.ref b1), .val (.int p2), .val (.int (0 : Int32)), .val (.int (17 : Int32)), .val (.int (p2.toInt8.toInt32)), .val (.int (2 : Int32))] [])) _
    refine XS.aloadN X0.here hx rfl (hb hby d11_13) rfl rfl ?_
    show Steps p.tables e below (s₁.setTop (mkF m 14 #[.val (.ref b1), .val (.int p2), .val (.int (0 : Int32)), .val (.int (17 : Int32)), .val (.int (p2.toInt8.toInt32)), .val (.int (2 : Int32))] [(.ref b1)])) _
    refine XS.iload X0.here hx rfl (hb hby d11_14) rfl ?_
    show Steps p.tables e below (s₁.setTop (mkF m 16 #[.val (.ref b1), .val (.int p2), .val (.int (0 : Int32)), .val (.int (17 : Int32)), .val (.int (p2.toInt8.toInt32)), .val (.int (2 : Int32))] [(.int (2 : Int32)), (.ref b1)])) _
    refine X0.baloadBytes hx (j := (2 : Int32)) (v := (.int (38 : Int32))) (by rw [e0]; exact Ar1.1) (State.isArrayOf_alike hZ.alike Ar1.2.1) Ar1.2.2 hin1 hat1 (g := (mkF m 16 #[.val (.ref b1), .val (.int p2), .val (.int (0 : Int32)), .val (.int (17 : Int32)), .val (.int (p2.toInt8.toInt32)), .val (.int (2 : Int32))] [(.int (2 : Int32)), (.ref b1)])) rfl rfl (hb hby d11_16) _ ?_
    show Steps p.tables e below (s₁.setTop (mkF m 17 #[.val (.ref b1), .val (.int p2), .val (.int (0 : Int32)), .val (.int (17 : Int32)), .val (.int (p2.toInt8.toInt32)), .val (.int (2 : Int32))] [(.int (38 : Int32))])) _
    refine XS.iload X0.here hx rfl (hb hby d11_17) rfl ?_
    show Steps p.tables e below (s₁.setTop (mkF m 19 #[.val (.ref b1), .val (.int p2), .val (.int (0 : Int32)), .val (.int (17 : Int32)), .val (.int (p2.toInt8.toInt32)), .val (.int (2 : Int32))] [(.int (p2.toInt8.toInt32)), (.int (38 : Int32))])) _
    refine XS.icmpNo X0.here hx rfl (hb hby d11_19) rfl (teq (vh2 : (38 : Int32) = (p2.toInt8.toInt32))).2 ?_
    show Steps p.tables e below (s₁.setTop (mkF m 22 #[.val (.ref b1), .val (.int p2), .val (.int (0 : Int32)), .val (.int (17 : Int32)), .val (.int (p2.toInt8.toInt32)), .val (.int (2 : Int32))] [])) _
    refine XS.iload X0.here hx rfl (hb hby d11_22) rfl ?_
    show Steps p.tables e below (s₁.setTop (mkF m 24 #[.val (.ref b1), .val (.int p2), .val (.int (0 : Int32)), .val (.int (17 : Int32)), .val (.int (p2.toInt8.toInt32)), .val (.int (2 : Int32))] [(.int (2 : Int32))])) _
    exact retI X0 hx Bd.returns (hb hby d11_24) hr
  · show QI Z (own_f (p2.toInt8.toInt32)) h0 n0 _ s₁.heap _
    rw [e0]
    exact ⟨congrArg (fun z => some (Value.int z)) (Eq.symm ((if_neg vh0).trans ((if_neg vh1).trans (if_pos vh2)))), N0, rfl⟩
set_option maxRecDepth 65536 in
set_option maxHeartbeats 40000000 in
theorem rmIc_3 (l : Launch) (Z : State) (a0 : Array Value) (hw : ∀ d ∈ tables_1, d.before a0 Z = true) (ws : List Jvm.Cond) (b1 : Addr) (p2 : Int32) (k : ClassId) (h0 : Heap) (n0 : Nat) (Z0 : n0 ≤ h0.size) (V_b : Arv Z h0 b1 k .byte (17 : Int32) [(.int (35 : Int32)), (.int (36 : Int32)), (.int (38 : Int32)), (.int (42 : Int32)), (.int (43 : Int32)), (.int (45 : Int32)), (.int (46 : Int32)), (.int (47 : Int32)), (.int (58 : Int32)), (.int (60 : Int32)), (.int (61 : Int32)), (.int (62 : Int32)), (.int (63 : Int32)), (.int (64 : Int32)), (.int (94 : Int32)), (.int (126 : Int32)), (.int (92 : Int32))] (.int (0 : Int32))) (vh0 : ¬ ((35 : Int32) = (p2.toInt8.toInt32))) (vh1 : ¬ ((36 : Int32) = (p2.toInt8.toInt32))) (vh2 : ¬ ((38 : Int32) = (p2.toInt8.toInt32))) (vh3 : (42 : Int32) = (p2.toInt8.toInt32)) :
    MetFree l (⟨"java/lang/StringLatin1", "indexOfChar", "([BIII)I"⟩ : MethodName) (head1 (Jvm.Cond.code (⟨"java/lang/StringLatin1", "indexOfChar", "([BIII)I"⟩ : MethodName) jdk_43_method_23_code 6 (some .int) :: ws) ({ frames := 0, cells := 0, slots := 0, locals := 0 } : Room)) (fun a U => a = #[(.ref b1), (.int p2), (.int (0 : Int32)), (.int (17 : Int32))] ∧ Z.Warmed39 U.vm ∧ U.heap = h0) (fun _ _ _ _ _ => True) (fun _ U o U' => ∃ v L, o = .returned v ∧ QI Z (own_f (p2.toInt8.toInt32)) h0 n0 v U'.heap L ∧ FrameEnd U o U' L ({ frames := 0, cells := 0, slots := 0, locals := 0 } : Room).cells ({ frames := 0, cells := 0, slots := 0, locals := 0 } : Room).slots) := by
  refine MetFree.of_bodySF (plainFor_of_name pn_11) hisR ?_
  intro p e s m args below meth c s₁ Bd hml0 hP hK
  obtain ⟨rfl, hZ, hh⟩ := hP
  have hx := Bd.exec
  have hby := Bd.bytes
  have hml : c.maxLocals = 6 := hml0
  have hown : s.vm.findClass "java/lang/StringLatin1" = some m.cls := findClass_of_methodNamed Bd.named
  have hnm := (name_of_methodNamed Bd.named Bd.method).1
  have X0 : Stand p l e ({ frames := 0, cells := 0, slots := 0, locals := 0 } : Room) s m #[(.ref b1), (.int p2), (.int (0 : Int32)), (.int (17 : Int32))] below meth c s₁ [] 0 0 := Stand.of_body Bd
  have e0 : s₁.heap = h0 := by rw [← hh, Bd.state]; rfl
  have N0 := Fr.nil n0
  have pre0 : ∀ tz, Steps p.tables e below (s₁.setTop (mkF m 0 #[.val (.ref b1), .val (.int p2), .val (.int (0 : Int32)), .val (.int (17 : Int32)), .unset, .unset] [])) tz → Steps p.tables e below (s₁.setTop (entryFrame m #[(.ref b1), (.int p2), (.int (0 : Int32)), (.int (17 : Int32))] 6)) tz := fun tz kz => castTop (ef_11 m b1 p2 (0 : Int32) (17 : Int32)) kz
  obtain ⟨cl1, Ar1, q1, S1, M1, H1, G1⟩ := id V_b
  have hin1 : ¬ ((3 : Int32) < 0 ∨ cl1.slots.size ≤ ((3 : Int32)).toNatClampNeg) := inb_of S1 ⟨by decide, by decide⟩
  have hat1 : cl1.slots[((3 : Int32)).toNatClampNeg]? = some (.int (42 : Int32)) := Has.at H1 hin1 rfl
  obtain ⟨fs, hr, hrun, hended, hW, hsame⟩ := X0.leave (v := some (.int (3 : Int32))) (fun h => by rw [Bd.returns] at h; cases h)
  refine ⟨_, _, pre0 _ ?_, hrun, hended, _, _, rfl, ?_, ⟨_, rfl⟩, hW, hsame.mono (by decide) (by decide)⟩
  · show Steps p.tables e below (s₁.setTop (mkF m 0 #[.val (.ref b1), .val (.int p2), .val (.int (0 : Int32)), .val (.int (17 : Int32)), .unset, .unset] [])) _
    refine XS.iloadN X0.here hx rfl (hb hby d11_0) rfl ?_
    show Steps p.tables e below (s₁.setTop (mkF m 1 #[.val (.ref b1), .val (.int p2), .val (.int (0 : Int32)), .val (.int (17 : Int32)), .unset, .unset] [(.int p2)])) _
    refine XS.i2b X0.here hx rfl (hb hby d11_1) rfl ?_
    show Steps p.tables e below (s₁.setTop (mkF m 2 #[.val (.ref b1), .val (.int p2), .val (.int (0 : Int32)), .val (.int (17 : Int32)), .unset, .unset] [(.int (p2.toInt8.toInt32))])) _
    refine XS.istore X0.here hx rfl (hb hby d11_2) rfl (l' := #[.val (.ref b1), .val (.int p2), .val (.int (0 : Int32)), .val (.int (17 : Int32)), .val (.int (p2.toInt8.toInt32)), .unset]) rfl ?_
    show Steps p.tables e below (s₁.setTop (mkF m 4 #[.val (.ref b1), .val (.int p2), .val (.int (0 : Int32)), .val (.int (17 : Int32)), .val (.int (p2.toInt8.toInt32)), .unset] [])) _
    refine XS.iloadN X0.here hx rfl (hb hby d11_4) rfl ?_
    show Steps p.tables e below (s₁.setTop (mkF m 5 #[.val (.ref b1), .val (.int p2), .val (.int (0 : Int32)), .val (.int (17 : Int32)), .val (.int (p2.toInt8.toInt32)), .unset] [(.int (0 : Int32))])) _
    refine XS.istore X0.here hx rfl (hb hby d11_5) rfl (l' := #[.val (.ref b1), .val (.int p2), .val (.int (0 : Int32)), .val (.int (17 : Int32)), .val (.int (p2.toInt8.toInt32)), .val (.int (0 : Int32))]) rfl ?_
    show Steps p.tables e below (s₁.setTop (mkF m 7 #[.val (.ref b1), .val (.int p2), .val (.int (0 : Int32)), .val (.int (17 : Int32)), .val (.int (p2.toInt8.toInt32)), .val (.int (0 : Int32))] [])) _
    refine tnI b1 p2 (p2.toInt8.toInt32) (0 : Int32) (1 : Int32) (35 : Int32) k X0 hx hZ hw hby hml hown e0 N0 Z0 V_b (by decide) ⟨by decide, by decide⟩ rfl vh0 (by decide) _ ?_
    show Steps p.tables e below (s₁.setTop (mkF m 7 #[.val (.ref b1), .val (.int p2), .val (.int (0 : Int32)), .val (.int (17 : Int32)), .val (.int (p2.toInt8.toInt32)), .val (.int (1 : Int32))] [])) _
    refine tnI b1 p2 (p2.toInt8.toInt32) (1 : Int32) (2 : Int32) (36 : Int32) k X0 hx hZ hw hby hml hown e0 N0 Z0 V_b (by decide) ⟨by decide, by decide⟩ rfl vh1 (by decide) _ ?_
    show Steps p.tables e below (s₁.setTop (mkF m 7 #[.val (.ref b1), .val (.int p2), .val (.int (0 : Int32)), .val (.int (17 : Int32)), .val (.int (p2.toInt8.toInt32)), .val (.int (2 : Int32))] [])) _
    refine tnI b1 p2 (p2.toInt8.toInt32) (2 : Int32) (3 : Int32) (38 : Int32) k X0 hx hZ hw hby hml hown e0 N0 Z0 V_b (by decide) ⟨by decide, by decide⟩ rfl vh2 (by decide) _ ?_
    show Steps p.tables e below (s₁.setTop (mkF m 7 #[.val (.ref b1), .val (.int p2), .val (.int (0 : Int32)), .val (.int (17 : Int32)), .val (.int (p2.toInt8.toInt32)), .val (.int (3 : Int32))] [])) _
    refine XS.iload X0.here hx rfl (hb hby d11_7) rfl ?_
    show Steps p.tables e below (s₁.setTop (mkF m 9 #[.val (.ref b1), .val (.int p2), .val (.int (0 : Int32)), .val (.int (17 : Int32)), .val (.int (p2.toInt8.toInt32)), .val (.int (3 : Int32))] [(.int (3 : Int32))])) _
    refine XS.iloadN X0.here hx rfl (hb hby d11_9) rfl ?_
    show Steps p.tables e below (s₁.setTop (mkF m 10 #[.val (.ref b1), .val (.int p2), .val (.int (0 : Int32)), .val (.int (17 : Int32)), .val (.int (p2.toInt8.toInt32)), .val (.int (3 : Int32))] [(.int (17 : Int32)), (.int (3 : Int32))])) _
    refine XS.icmpNo X0.here hx rfl (hb hby d11_10) rfl (tlt ((by decide) : (3 : Int32) < (17 : Int32))).2.1 ?_
    show Steps p.tables e below (s₁.setTop (mkF m 13 #[.val (.ref b1), .val (.int p2), .val (.int (0 : Int32)), .val (.int (17 : Int32)), .val (.int (p2.toInt8.toInt32)), .val (.int (3 : Int32))] [])) _
    refine XS.aloadN X0.here hx rfl (hb hby d11_13) rfl rfl ?_
    show Steps p.tables e below (s₁.setTop (mkF m 14 #[.val (.ref b1), .val (.int p2), .val (.int (0 : Int32)), .val (.int (17 : Int32)), .val (.int (p2.toInt8.toInt32)), .val (.int (3 : Int32))] [(.ref b1)])) _
    refine XS.iload X0.here hx rfl (hb hby d11_14) rfl ?_
    show Steps p.tables e below (s₁.setTop (mkF m 16 #[.val (.ref b1), .val (.int p2), .val (.int (0 : Int32)), .val (.int (17 : Int32)), .val (.int (p2.toInt8.toInt32)), .val (.int (3 : Int32))] [(.int (3 : Int32)), (.ref b1)])) _
    refine X0.baloadBytes hx (j := (3 : Int32)) (v := (.int (42 : Int32))) (by rw [e0]; exact Ar1.1) (State.isArrayOf_alike hZ.alike Ar1.2.1) Ar1.2.2 hin1 hat1 (g := (mkF m 16 #[.val (.ref b1), .val (.int p2), .val (.int (0 : Int32)), .val (.int (17 : Int32)), .val (.int (p2.toInt8.toInt32)), .val (.int (3 : Int32))] [(.int (3 : Int32)), (.ref b1)])) rfl rfl (hb hby d11_16) _ ?_
    show Steps p.tables e below (s₁.setTop (mkF m 17 #[.val (.ref b1), .val (.int p2), .val (.int (0 : Int32)), .val (.int (17 : Int32)), .val (.int (p2.toInt8.toInt32)), .val (.int (3 : Int32))] [(.int (42 : Int32))])) _
    refine XS.iload X0.here hx rfl (hb hby d11_17) rfl ?_
    show Steps p.tables e below (s₁.setTop (mkF m 19 #[.val (.ref b1), .val (.int p2), .val (.int (0 : Int32)), .val (.int (17 : Int32)), .val (.int (p2.toInt8.toInt32)), .val (.int (3 : Int32))] [(.int (p2.toInt8.toInt32)), (.int (42 : Int32))])) _
    refine XS.icmpNo X0.here hx rfl (hb hby d11_19) rfl (teq (vh3 : (42 : Int32) = (p2.toInt8.toInt32))).2 ?_
    show Steps p.tables e below (s₁.setTop (mkF m 22 #[.val (.ref b1), .val (.int p2), .val (.int (0 : Int32)), .val (.int (17 : Int32)), .val (.int (p2.toInt8.toInt32)), .val (.int (3 : Int32))] [])) _
    refine XS.iload X0.here hx rfl (hb hby d11_22) rfl ?_
    show Steps p.tables e below (s₁.setTop (mkF m 24 #[.val (.ref b1), .val (.int p2), .val (.int (0 : Int32)), .val (.int (17 : Int32)), .val (.int (p2.toInt8.toInt32)), .val (.int (3 : Int32))] [(.int (3 : Int32))])) _
    exact retI X0 hx Bd.returns (hb hby d11_24) hr
  · show QI Z (own_f (p2.toInt8.toInt32)) h0 n0 _ s₁.heap _
    rw [e0]
    exact ⟨congrArg (fun z => some (Value.int z)) (Eq.symm ((if_neg vh0).trans ((if_neg vh1).trans ((if_neg vh2).trans (if_pos vh3))))), N0, rfl⟩
set_option maxRecDepth 65536 in
set_option maxHeartbeats 40000000 in
theorem rmIc_4 (l : Launch) (Z : State) (a0 : Array Value) (hw : ∀ d ∈ tables_1, d.before a0 Z = true) (ws : List Jvm.Cond) (b1 : Addr) (p2 : Int32) (k : ClassId) (h0 : Heap) (n0 : Nat) (Z0 : n0 ≤ h0.size) (V_b : Arv Z h0 b1 k .byte (17 : Int32) [(.int (35 : Int32)), (.int (36 : Int32)), (.int (38 : Int32)), (.int (42 : Int32)), (.int (43 : Int32)), (.int (45 : Int32)), (.int (46 : Int32)), (.int (47 : Int32)), (.int (58 : Int32)), (.int (60 : Int32)), (.int (61 : Int32)), (.int (62 : Int32)), (.int (63 : Int32)), (.int (64 : Int32)), (.int (94 : Int32)), (.int (126 : Int32)), (.int (92 : Int32))] (.int (0 : Int32))) (vh0 : ¬ ((35 : Int32) = (p2.toInt8.toInt32))) (vh1 : ¬ ((36 : Int32) = (p2.toInt8.toInt32))) (vh2 : ¬ ((38 : Int32) = (p2.toInt8.toInt32))) (vh3 : ¬ ((42 : Int32) = (p2.toInt8.toInt32))) (vh4 : (43 : Int32) = (p2.toInt8.toInt32)) :
    MetFree l (⟨"java/lang/StringLatin1", "indexOfChar", "([BIII)I"⟩ : MethodName) (head1 (Jvm.Cond.code (⟨"java/lang/StringLatin1", "indexOfChar", "([BIII)I"⟩ : MethodName) jdk_43_method_23_code 6 (some .int) :: ws) ({ frames := 0, cells := 0, slots := 0, locals := 0 } : Room)) (fun a U => a = #[(.ref b1), (.int p2), (.int (0 : Int32)), (.int (17 : Int32))] ∧ Z.Warmed39 U.vm ∧ U.heap = h0) (fun _ _ _ _ _ => True) (fun _ U o U' => ∃ v L, o = .returned v ∧ QI Z (own_f (p2.toInt8.toInt32)) h0 n0 v U'.heap L ∧ FrameEnd U o U' L ({ frames := 0, cells := 0, slots := 0, locals := 0 } : Room).cells ({ frames := 0, cells := 0, slots := 0, locals := 0 } : Room).slots) := by
  refine MetFree.of_bodySF (plainFor_of_name pn_11) hisR ?_
  intro p e s m args below meth c s₁ Bd hml0 hP hK
  obtain ⟨rfl, hZ, hh⟩ := hP
  have hx := Bd.exec
  have hby := Bd.bytes
  have hml : c.maxLocals = 6 := hml0
  have hown : s.vm.findClass "java/lang/StringLatin1" = some m.cls := findClass_of_methodNamed Bd.named
  have hnm := (name_of_methodNamed Bd.named Bd.method).1
  have X0 : Stand p l e ({ frames := 0, cells := 0, slots := 0, locals := 0 } : Room) s m #[(.ref b1), (.int p2), (.int (0 : Int32)), (.int (17 : Int32))] below meth c s₁ [] 0 0 := Stand.of_body Bd
  have e0 : s₁.heap = h0 := by rw [← hh, Bd.state]; rfl
  have N0 := Fr.nil n0
  have pre0 : ∀ tz, Steps p.tables e below (s₁.setTop (mkF m 0 #[.val (.ref b1), .val (.int p2), .val (.int (0 : Int32)), .val (.int (17 : Int32)), .unset, .unset] [])) tz → Steps p.tables e below (s₁.setTop (entryFrame m #[(.ref b1), (.int p2), (.int (0 : Int32)), (.int (17 : Int32))] 6)) tz := fun tz kz => castTop (ef_11 m b1 p2 (0 : Int32) (17 : Int32)) kz
  obtain ⟨cl1, Ar1, q1, S1, M1, H1, G1⟩ := id V_b
  have hin1 : ¬ ((4 : Int32) < 0 ∨ cl1.slots.size ≤ ((4 : Int32)).toNatClampNeg) := inb_of S1 ⟨by decide, by decide⟩
  have hat1 : cl1.slots[((4 : Int32)).toNatClampNeg]? = some (.int (43 : Int32)) := Has.at H1 hin1 rfl
  obtain ⟨fs, hr, hrun, hended, hW, hsame⟩ := X0.leave (v := some (.int (4 : Int32))) (fun h => by rw [Bd.returns] at h; cases h)
  refine ⟨_, _, pre0 _ ?_, hrun, hended, _, _, rfl, ?_, ⟨_, rfl⟩, hW, hsame.mono (by decide) (by decide)⟩
  · show Steps p.tables e below (s₁.setTop (mkF m 0 #[.val (.ref b1), .val (.int p2), .val (.int (0 : Int32)), .val (.int (17 : Int32)), .unset, .unset] [])) _
    refine XS.iloadN X0.here hx rfl (hb hby d11_0) rfl ?_
    show Steps p.tables e below (s₁.setTop (mkF m 1 #[.val (.ref b1), .val (.int p2), .val (.int (0 : Int32)), .val (.int (17 : Int32)), .unset, .unset] [(.int p2)])) _
    refine XS.i2b X0.here hx rfl (hb hby d11_1) rfl ?_
    show Steps p.tables e below (s₁.setTop (mkF m 2 #[.val (.ref b1), .val (.int p2), .val (.int (0 : Int32)), .val (.int (17 : Int32)), .unset, .unset] [(.int (p2.toInt8.toInt32))])) _
    refine XS.istore X0.here hx rfl (hb hby d11_2) rfl (l' := #[.val (.ref b1), .val (.int p2), .val (.int (0 : Int32)), .val (.int (17 : Int32)), .val (.int (p2.toInt8.toInt32)), .unset]) rfl ?_
    show Steps p.tables e below (s₁.setTop (mkF m 4 #[.val (.ref b1), .val (.int p2), .val (.int (0 : Int32)), .val (.int (17 : Int32)), .val (.int (p2.toInt8.toInt32)), .unset] [])) _
    refine XS.iloadN X0.here hx rfl (hb hby d11_4) rfl ?_
    show Steps p.tables e below (s₁.setTop (mkF m 5 #[.val (.ref b1), .val (.int p2), .val (.int (0 : Int32)), .val (.int (17 : Int32)), .val (.int (p2.toInt8.toInt32)), .unset] [(.int (0 : Int32))])) _
    refine XS.istore X0.here hx rfl (hb hby d11_5) rfl (l' := #[.val (.ref b1), .val (.int p2), .val (.int (0 : Int32)), .val (.int (17 : Int32)), .val (.int (p2.toInt8.toInt32)), .val (.int (0 : Int32))]) rfl ?_
    show Steps p.tables e below (s₁.setTop (mkF m 7 #[.val (.ref b1), .val (.int p2), .val (.int (0 : Int32)), .val (.int (17 : Int32)), .val (.int (p2.toInt8.toInt32)), .val (.int (0 : Int32))] [])) _
    refine tnI b1 p2 (p2.toInt8.toInt32) (0 : Int32) (1 : Int32) (35 : Int32) k X0 hx hZ hw hby hml hown e0 N0 Z0 V_b (by decide) ⟨by decide, by decide⟩ rfl vh0 (by decide) _ ?_
    show Steps p.tables e below (s₁.setTop (mkF m 7 #[.val (.ref b1), .val (.int p2), .val (.int (0 : Int32)), .val (.int (17 : Int32)), .val (.int (p2.toInt8.toInt32)), .val (.int (1 : Int32))] [])) _
    refine tnI b1 p2 (p2.toInt8.toInt32) (1 : Int32) (2 : Int32) (36 : Int32) k X0 hx hZ hw hby hml hown e0 N0 Z0 V_b (by decide) ⟨by decide, by decide⟩ rfl vh1 (by decide) _ ?_
    show Steps p.tables e below (s₁.setTop (mkF m 7 #[.val (.ref b1), .val (.int p2), .val (.int (0 : Int32)), .val (.int (17 : Int32)), .val (.int (p2.toInt8.toInt32)), .val (.int (2 : Int32))] [])) _
    refine tnI b1 p2 (p2.toInt8.toInt32) (2 : Int32) (3 : Int32) (38 : Int32) k X0 hx hZ hw hby hml hown e0 N0 Z0 V_b (by decide) ⟨by decide, by decide⟩ rfl vh2 (by decide) _ ?_
    show Steps p.tables e below (s₁.setTop (mkF m 7 #[.val (.ref b1), .val (.int p2), .val (.int (0 : Int32)), .val (.int (17 : Int32)), .val (.int (p2.toInt8.toInt32)), .val (.int (3 : Int32))] [])) _
    refine tnI b1 p2 (p2.toInt8.toInt32) (3 : Int32) (4 : Int32) (42 : Int32) k X0 hx hZ hw hby hml hown e0 N0 Z0 V_b (by decide) ⟨by decide, by decide⟩ rfl vh3 (by decide) _ ?_
    show Steps p.tables e below (s₁.setTop (mkF m 7 #[.val (.ref b1), .val (.int p2), .val (.int (0 : Int32)), .val (.int (17 : Int32)), .val (.int (p2.toInt8.toInt32)), .val (.int (4 : Int32))] [])) _
    refine XS.iload X0.here hx rfl (hb hby d11_7) rfl ?_
    show Steps p.tables e below (s₁.setTop (mkF m 9 #[.val (.ref b1), .val (.int p2), .val (.int (0 : Int32)), .val (.int (17 : Int32)), .val (.int (p2.toInt8.toInt32)), .val (.int (4 : Int32))] [(.int (4 : Int32))])) _
    refine XS.iloadN X0.here hx rfl (hb hby d11_9) rfl ?_
    show Steps p.tables e below (s₁.setTop (mkF m 10 #[.val (.ref b1), .val (.int p2), .val (.int (0 : Int32)), .val (.int (17 : Int32)), .val (.int (p2.toInt8.toInt32)), .val (.int (4 : Int32))] [(.int (17 : Int32)), (.int (4 : Int32))])) _
    refine XS.icmpNo X0.here hx rfl (hb hby d11_10) rfl (tlt ((by decide) : (4 : Int32) < (17 : Int32))).2.1 ?_
    show Steps p.tables e below (s₁.setTop (mkF m 13 #[.val (.ref b1), .val (.int p2), .val (.int (0 : Int32)), .val (.int (17 : Int32)), .val (.int (p2.toInt8.toInt32)), .val (.int (4 : Int32))] [])) _
    refine XS.aloadN X0.here hx rfl (hb hby d11_13) rfl rfl ?_
    show Steps p.tables e below (s₁.setTop (mkF m 14 #[.val (.ref b1), .val (.int p2), .val (.int (0 : Int32)), .val (.int (17 : Int32)), .val (.int (p2.toInt8.toInt32)), .val (.int (4 : Int32))] [(.ref b1)])) _
    refine XS.iload X0.here hx rfl (hb hby d11_14) rfl ?_
    show Steps p.tables e below (s₁.setTop (mkF m 16 #[.val (.ref b1), .val (.int p2), .val (.int (0 : Int32)), .val (.int (17 : Int32)), .val (.int (p2.toInt8.toInt32)), .val (.int (4 : Int32))] [(.int (4 : Int32)), (.ref b1)])) _
    refine X0.baloadBytes hx (j := (4 : Int32)) (v := (.int (43 : Int32))) (by rw [e0]; exact Ar1.1) (State.isArrayOf_alike hZ.alike Ar1.2.1) Ar1.2.2 hin1 hat1 (g := (mkF m 16 #[.val (.ref b1), .val (.int p2), .val (.int (0 : Int32)), .val (.int (17 : Int32)), .val (.int (p2.toInt8.toInt32)), .val (.int (4 : Int32))] [(.int (4 : Int32)), (.ref b1)])) rfl rfl (hb hby d11_16) _ ?_
    show Steps p.tables e below (s₁.setTop (mkF m 17 #[.val (.ref b1), .val (.int p2), .val (.int (0 : Int32)), .val (.int (17 : Int32)), .val (.int (p2.toInt8.toInt32)), .val (.int (4 : Int32))] [(.int (43 : Int32))])) _
    refine XS.iload X0.here hx rfl (hb hby d11_17) rfl ?_
    show Steps p.tables e below (s₁.setTop (mkF m 19 #[.val (.ref b1), .val (.int p2), .val (.int (0 : Int32)), .val (.int (17 : Int32)), .val (.int (p2.toInt8.toInt32)), .val (.int (4 : Int32))] [(.int (p2.toInt8.toInt32)), (.int (43 : Int32))])) _
    refine XS.icmpNo X0.here hx rfl (hb hby d11_19) rfl (teq (vh4 : (43 : Int32) = (p2.toInt8.toInt32))).2 ?_
    show Steps p.tables e below (s₁.setTop (mkF m 22 #[.val (.ref b1), .val (.int p2), .val (.int (0 : Int32)), .val (.int (17 : Int32)), .val (.int (p2.toInt8.toInt32)), .val (.int (4 : Int32))] [])) _
    refine XS.iload X0.here hx rfl (hb hby d11_22) rfl ?_
    show Steps p.tables e below (s₁.setTop (mkF m 24 #[.val (.ref b1), .val (.int p2), .val (.int (0 : Int32)), .val (.int (17 : Int32)), .val (.int (p2.toInt8.toInt32)), .val (.int (4 : Int32))] [(.int (4 : Int32))])) _
    exact retI X0 hx Bd.returns (hb hby d11_24) hr
  · show QI Z (own_f (p2.toInt8.toInt32)) h0 n0 _ s₁.heap _
    rw [e0]
    exact ⟨congrArg (fun z => some (Value.int z)) (Eq.symm ((if_neg vh0).trans ((if_neg vh1).trans ((if_neg vh2).trans ((if_neg vh3).trans (if_pos vh4)))))), N0, rfl⟩
set_option maxRecDepth 65536 in
set_option maxHeartbeats 40000000 in
theorem rmIc_5 (l : Launch) (Z : State) (a0 : Array Value) (hw : ∀ d ∈ tables_1, d.before a0 Z = true) (ws : List Jvm.Cond) (b1 : Addr) (p2 : Int32) (k : ClassId) (h0 : Heap) (n0 : Nat) (Z0 : n0 ≤ h0.size) (V_b : Arv Z h0 b1 k .byte (17 : Int32) [(.int (35 : Int32)), (.int (36 : Int32)), (.int (38 : Int32)), (.int (42 : Int32)), (.int (43 : Int32)), (.int (45 : Int32)), (.int (46 : Int32)), (.int (47 : Int32)), (.int (58 : Int32)), (.int (60 : Int32)), (.int (61 : Int32)), (.int (62 : Int32)), (.int (63 : Int32)), (.int (64 : Int32)), (.int (94 : Int32)), (.int (126 : Int32)), (.int (92 : Int32))] (.int (0 : Int32))) (vh0 : ¬ ((35 : Int32) = (p2.toInt8.toInt32))) (vh1 : ¬ ((36 : Int32) = (p2.toInt8.toInt32))) (vh2 : ¬ ((38 : Int32) = (p2.toInt8.toInt32))) (vh3 : ¬ ((42 : Int32) = (p2.toInt8.toInt32))) (vh4 : ¬ ((43 : Int32) = (p2.toInt8.toInt32))) (vh5 : (45 : Int32) = (p2.toInt8.toInt32)) :
    MetFree l (⟨"java/lang/StringLatin1", "indexOfChar", "([BIII)I"⟩ : MethodName) (head1 (Jvm.Cond.code (⟨"java/lang/StringLatin1", "indexOfChar", "([BIII)I"⟩ : MethodName) jdk_43_method_23_code 6 (some .int) :: ws) ({ frames := 0, cells := 0, slots := 0, locals := 0 } : Room)) (fun a U => a = #[(.ref b1), (.int p2), (.int (0 : Int32)), (.int (17 : Int32))] ∧ Z.Warmed39 U.vm ∧ U.heap = h0) (fun _ _ _ _ _ => True) (fun _ U o U' => ∃ v L, o = .returned v ∧ QI Z (own_f (p2.toInt8.toInt32)) h0 n0 v U'.heap L ∧ FrameEnd U o U' L ({ frames := 0, cells := 0, slots := 0, locals := 0 } : Room).cells ({ frames := 0, cells := 0, slots := 0, locals := 0 } : Room).slots) := by
  refine MetFree.of_bodySF (plainFor_of_name pn_11) hisR ?_
  intro p e s m args below meth c s₁ Bd hml0 hP hK
  obtain ⟨rfl, hZ, hh⟩ := hP
  have hx := Bd.exec
  have hby := Bd.bytes
  have hml : c.maxLocals = 6 := hml0
  have hown : s.vm.findClass "java/lang/StringLatin1" = some m.cls := findClass_of_methodNamed Bd.named
  have hnm := (name_of_methodNamed Bd.named Bd.method).1
  have X0 : Stand p l e ({ frames := 0, cells := 0, slots := 0, locals := 0 } : Room) s m #[(.ref b1), (.int p2), (.int (0 : Int32)), (.int (17 : Int32))] below meth c s₁ [] 0 0 := Stand.of_body Bd
  have e0 : s₁.heap = h0 := by rw [← hh, Bd.state]; rfl
  have N0 := Fr.nil n0
  have pre0 : ∀ tz, Steps p.tables e below (s₁.setTop (mkF m 0 #[.val (.ref b1), .val (.int p2), .val (.int (0 : Int32)), .val (.int (17 : Int32)), .unset, .unset] [])) tz → Steps p.tables e below (s₁.setTop (entryFrame m #[(.ref b1), (.int p2), (.int (0 : Int32)), (.int (17 : Int32))] 6)) tz := fun tz kz => castTop (ef_11 m b1 p2 (0 : Int32) (17 : Int32)) kz
  obtain ⟨cl1, Ar1, q1, S1, M1, H1, G1⟩ := id V_b
  have hin1 : ¬ ((5 : Int32) < 0 ∨ cl1.slots.size ≤ ((5 : Int32)).toNatClampNeg) := inb_of S1 ⟨by decide, by decide⟩
  have hat1 : cl1.slots[((5 : Int32)).toNatClampNeg]? = some (.int (45 : Int32)) := Has.at H1 hin1 rfl
  obtain ⟨fs, hr, hrun, hended, hW, hsame⟩ := X0.leave (v := some (.int (5 : Int32))) (fun h => by rw [Bd.returns] at h; cases h)
  refine ⟨_, _, pre0 _ ?_, hrun, hended, _, _, rfl, ?_, ⟨_, rfl⟩, hW, hsame.mono (by decide) (by decide)⟩
  · show Steps p.tables e below (s₁.setTop (mkF m 0 #[.val (.ref b1), .val (.int p2), .val (.int (0 : Int32)), .val (.int (17 : Int32)), .unset, .unset] [])) _
    refine XS.iloadN X0.here hx rfl (hb hby d11_0) rfl ?_
    show Steps p.tables e below (s₁.setTop (mkF m 1 #[.val (.ref b1), .val (.int p2), .val (.int (0 : Int32)), .val (.int (17 : Int32)), .unset, .unset] [(.int p2)])) _
    refine XS.i2b X0.here hx rfl (hb hby d11_1) rfl ?_
    show Steps p.tables e below (s₁.setTop (mkF m 2 #[.val (.ref b1), .val (.int p2), .val (.int (0 : Int32)), .val (.int (17 : Int32)), .unset, .unset] [(.int (p2.toInt8.toInt32))])) _
    refine XS.istore X0.here hx rfl (hb hby d11_2) rfl (l' := #[.val (.ref b1), .val (.int p2), .val (.int (0 : Int32)), .val (.int (17 : Int32)), .val (.int (p2.toInt8.toInt32)), .unset]) rfl ?_
    show Steps p.tables e below (s₁.setTop (mkF m 4 #[.val (.ref b1), .val (.int p2), .val (.int (0 : Int32)), .val (.int (17 : Int32)), .val (.int (p2.toInt8.toInt32)), .unset] [])) _
    refine XS.iloadN X0.here hx rfl (hb hby d11_4) rfl ?_
    show Steps p.tables e below (s₁.setTop (mkF m 5 #[.val (.ref b1), .val (.int p2), .val (.int (0 : Int32)), .val (.int (17 : Int32)), .val (.int (p2.toInt8.toInt32)), .unset] [(.int (0 : Int32))])) _
    refine XS.istore X0.here hx rfl (hb hby d11_5) rfl (l' := #[.val (.ref b1), .val (.int p2), .val (.int (0 : Int32)), .val (.int (17 : Int32)), .val (.int (p2.toInt8.toInt32)), .val (.int (0 : Int32))]) rfl ?_
    show Steps p.tables e below (s₁.setTop (mkF m 7 #[.val (.ref b1), .val (.int p2), .val (.int (0 : Int32)), .val (.int (17 : Int32)), .val (.int (p2.toInt8.toInt32)), .val (.int (0 : Int32))] [])) _
    refine tnI b1 p2 (p2.toInt8.toInt32) (0 : Int32) (1 : Int32) (35 : Int32) k X0 hx hZ hw hby hml hown e0 N0 Z0 V_b (by decide) ⟨by decide, by decide⟩ rfl vh0 (by decide) _ ?_
    show Steps p.tables e below (s₁.setTop (mkF m 7 #[.val (.ref b1), .val (.int p2), .val (.int (0 : Int32)), .val (.int (17 : Int32)), .val (.int (p2.toInt8.toInt32)), .val (.int (1 : Int32))] [])) _
    refine tnI b1 p2 (p2.toInt8.toInt32) (1 : Int32) (2 : Int32) (36 : Int32) k X0 hx hZ hw hby hml hown e0 N0 Z0 V_b (by decide) ⟨by decide, by decide⟩ rfl vh1 (by decide) _ ?_
    show Steps p.tables e below (s₁.setTop (mkF m 7 #[.val (.ref b1), .val (.int p2), .val (.int (0 : Int32)), .val (.int (17 : Int32)), .val (.int (p2.toInt8.toInt32)), .val (.int (2 : Int32))] [])) _
    refine tnI b1 p2 (p2.toInt8.toInt32) (2 : Int32) (3 : Int32) (38 : Int32) k X0 hx hZ hw hby hml hown e0 N0 Z0 V_b (by decide) ⟨by decide, by decide⟩ rfl vh2 (by decide) _ ?_
    show Steps p.tables e below (s₁.setTop (mkF m 7 #[.val (.ref b1), .val (.int p2), .val (.int (0 : Int32)), .val (.int (17 : Int32)), .val (.int (p2.toInt8.toInt32)), .val (.int (3 : Int32))] [])) _
    refine tnI b1 p2 (p2.toInt8.toInt32) (3 : Int32) (4 : Int32) (42 : Int32) k X0 hx hZ hw hby hml hown e0 N0 Z0 V_b (by decide) ⟨by decide, by decide⟩ rfl vh3 (by decide) _ ?_
    show Steps p.tables e below (s₁.setTop (mkF m 7 #[.val (.ref b1), .val (.int p2), .val (.int (0 : Int32)), .val (.int (17 : Int32)), .val (.int (p2.toInt8.toInt32)), .val (.int (4 : Int32))] [])) _
    refine tnI b1 p2 (p2.toInt8.toInt32) (4 : Int32) (5 : Int32) (43 : Int32) k X0 hx hZ hw hby hml hown e0 N0 Z0 V_b (by decide) ⟨by decide, by decide⟩ rfl vh4 (by decide) _ ?_
    show Steps p.tables e below (s₁.setTop (mkF m 7 #[.val (.ref b1), .val (.int p2), .val (.int (0 : Int32)), .val (.int (17 : Int32)), .val (.int (p2.toInt8.toInt32)), .val (.int (5 : Int32))] [])) _
    refine XS.iload X0.here hx rfl (hb hby d11_7) rfl ?_
    show Steps p.tables e below (s₁.setTop (mkF m 9 #[.val (.ref b1), .val (.int p2), .val (.int (0 : Int32)), .val (.int (17 : Int32)), .val (.int (p2.toInt8.toInt32)), .val (.int (5 : Int32))] [(.int (5 : Int32))])) _
    refine XS.iloadN X0.here hx rfl (hb hby d11_9) rfl ?_
    show Steps p.tables e below (s₁.setTop (mkF m 10 #[.val (.ref b1), .val (.int p2), .val (.int (0 : Int32)), .val (.int (17 : Int32)), .val (.int (p2.toInt8.toInt32)), .val (.int (5 : Int32))] [(.int (17 : Int32)), (.int (5 : Int32))])) _
    refine XS.icmpNo X0.here hx rfl (hb hby d11_10) rfl (tlt ((by decide) : (5 : Int32) < (17 : Int32))).2.1 ?_
    show Steps p.tables e below (s₁.setTop (mkF m 13 #[.val (.ref b1), .val (.int p2), .val (.int (0 : Int32)), .val (.int (17 : Int32)), .val (.int (p2.toInt8.toInt32)), .val (.int (5 : Int32))] [])) _
    refine XS.aloadN X0.here hx rfl (hb hby d11_13) rfl rfl ?_
    show Steps p.tables e below (s₁.setTop (mkF m 14 #[.val (.ref b1), .val (.int p2), .val (.int (0 : Int32)), .val (.int (17 : Int32)), .val (.int (p2.toInt8.toInt32)), .val (.int (5 : Int32))] [(.ref b1)])) _
    refine XS.iload X0.here hx rfl (hb hby d11_14) rfl ?_
    show Steps p.tables e below (s₁.setTop (mkF m 16 #[.val (.ref b1), .val (.int p2), .val (.int (0 : Int32)), .val (.int (17 : Int32)), .val (.int (p2.toInt8.toInt32)), .val (.int (5 : Int32))] [(.int (5 : Int32)), (.ref b1)])) _
    refine X0.baloadBytes hx (j := (5 : Int32)) (v := (.int (45 : Int32))) (by rw [e0]; exact Ar1.1) (State.isArrayOf_alike hZ.alike Ar1.2.1) Ar1.2.2 hin1 hat1 (g := (mkF m 16 #[.val (.ref b1), .val (.int p2), .val (.int (0 : Int32)), .val (.int (17 : Int32)), .val (.int (p2.toInt8.toInt32)), .val (.int (5 : Int32))] [(.int (5 : Int32)), (.ref b1)])) rfl rfl (hb hby d11_16) _ ?_
    show Steps p.tables e below (s₁.setTop (mkF m 17 #[.val (.ref b1), .val (.int p2), .val (.int (0 : Int32)), .val (.int (17 : Int32)), .val (.int (p2.toInt8.toInt32)), .val (.int (5 : Int32))] [(.int (45 : Int32))])) _
    refine XS.iload X0.here hx rfl (hb hby d11_17) rfl ?_
    show Steps p.tables e below (s₁.setTop (mkF m 19 #[.val (.ref b1), .val (.int p2), .val (.int (0 : Int32)), .val (.int (17 : Int32)), .val (.int (p2.toInt8.toInt32)), .val (.int (5 : Int32))] [(.int (p2.toInt8.toInt32)), (.int (45 : Int32))])) _
    refine XS.icmpNo X0.here hx rfl (hb hby d11_19) rfl (teq (vh5 : (45 : Int32) = (p2.toInt8.toInt32))).2 ?_
    show Steps p.tables e below (s₁.setTop (mkF m 22 #[.val (.ref b1), .val (.int p2), .val (.int (0 : Int32)), .val (.int (17 : Int32)), .val (.int (p2.toInt8.toInt32)), .val (.int (5 : Int32))] [])) _
    refine XS.iload X0.here hx rfl (hb hby d11_22) rfl ?_
    show Steps p.tables e below (s₁.setTop (mkF m 24 #[.val (.ref b1), .val (.int p2), .val (.int (0 : Int32)), .val (.int (17 : Int32)), .val (.int (p2.toInt8.toInt32)), .val (.int (5 : Int32))] [(.int (5 : Int32))])) _
    exact retI X0 hx Bd.returns (hb hby d11_24) hr
  · show QI Z (own_f (p2.toInt8.toInt32)) h0 n0 _ s₁.heap _
    rw [e0]
    exact ⟨congrArg (fun z => some (Value.int z)) (Eq.symm ((if_neg vh0).trans ((if_neg vh1).trans ((if_neg vh2).trans ((if_neg vh3).trans ((if_neg vh4).trans (if_pos vh5))))))), N0, rfl⟩
set_option maxRecDepth 65536 in
set_option maxHeartbeats 40000000 in
theorem rmIc_6 (l : Launch) (Z : State) (a0 : Array Value) (hw : ∀ d ∈ tables_1, d.before a0 Z = true) (ws : List Jvm.Cond) (b1 : Addr) (p2 : Int32) (k : ClassId) (h0 : Heap) (n0 : Nat) (Z0 : n0 ≤ h0.size) (V_b : Arv Z h0 b1 k .byte (17 : Int32) [(.int (35 : Int32)), (.int (36 : Int32)), (.int (38 : Int32)), (.int (42 : Int32)), (.int (43 : Int32)), (.int (45 : Int32)), (.int (46 : Int32)), (.int (47 : Int32)), (.int (58 : Int32)), (.int (60 : Int32)), (.int (61 : Int32)), (.int (62 : Int32)), (.int (63 : Int32)), (.int (64 : Int32)), (.int (94 : Int32)), (.int (126 : Int32)), (.int (92 : Int32))] (.int (0 : Int32))) (vh0 : ¬ ((35 : Int32) = (p2.toInt8.toInt32))) (vh1 : ¬ ((36 : Int32) = (p2.toInt8.toInt32))) (vh2 : ¬ ((38 : Int32) = (p2.toInt8.toInt32))) (vh3 : ¬ ((42 : Int32) = (p2.toInt8.toInt32))) (vh4 : ¬ ((43 : Int32) = (p2.toInt8.toInt32))) (vh5 : ¬ ((45 : Int32) = (p2.toInt8.toInt32))) (vh6 : (46 : Int32) = (p2.toInt8.toInt32)) :
    MetFree l (⟨"java/lang/StringLatin1", "indexOfChar", "([BIII)I"⟩ : MethodName) (head1 (Jvm.Cond.code (⟨"java/lang/StringLatin1", "indexOfChar", "([BIII)I"⟩ : MethodName) jdk_43_method_23_code 6 (some .int) :: ws) ({ frames := 0, cells := 0, slots := 0, locals := 0 } : Room)) (fun a U => a = #[(.ref b1), (.int p2), (.int (0 : Int32)), (.int (17 : Int32))] ∧ Z.Warmed39 U.vm ∧ U.heap = h0) (fun _ _ _ _ _ => True) (fun _ U o U' => ∃ v L, o = .returned v ∧ QI Z (own_f (p2.toInt8.toInt32)) h0 n0 v U'.heap L ∧ FrameEnd U o U' L ({ frames := 0, cells := 0, slots := 0, locals := 0 } : Room).cells ({ frames := 0, cells := 0, slots := 0, locals := 0 } : Room).slots) := by
  refine MetFree.of_bodySF (plainFor_of_name pn_11) hisR ?_
  intro p e s m args below meth c s₁ Bd hml0 hP hK
  obtain ⟨rfl, hZ, hh⟩ := hP
  have hx := Bd.exec
  have hby := Bd.bytes
  have hml : c.maxLocals = 6 := hml0
  have hown : s.vm.findClass "java/lang/StringLatin1" = some m.cls := findClass_of_methodNamed Bd.named
  have hnm := (name_of_methodNamed Bd.named Bd.method).1
  have X0 : Stand p l e ({ frames := 0, cells := 0, slots := 0, locals := 0 } : Room) s m #[(.ref b1), (.int p2), (.int (0 : Int32)), (.int (17 : Int32))] below meth c s₁ [] 0 0 := Stand.of_body Bd
  have e0 : s₁.heap = h0 := by rw [← hh, Bd.state]; rfl
  have N0 := Fr.nil n0
  have pre0 : ∀ tz, Steps p.tables e below (s₁.setTop (mkF m 0 #[.val (.ref b1), .val (.int p2), .val (.int (0 : Int32)), .val (.int (17 : Int32)), .unset, .unset] [])) tz → Steps p.tables e below (s₁.setTop (entryFrame m #[(.ref b1), (.int p2), (.int (0 : Int32)), (.int (17 : Int32))] 6)) tz := fun tz kz => castTop (ef_11 m b1 p2 (0 : Int32) (17 : Int32)) kz
  obtain ⟨cl1, Ar1, q1, S1, M1, H1, G1⟩ := id V_b
  have hin1 : ¬ ((6 : Int32) < 0 ∨ cl1.slots.size ≤ ((6 : Int32)).toNatClampNeg) := inb_of S1 ⟨by decide, by decide⟩
  have hat1 : cl1.slots[((6 : Int32)).toNatClampNeg]? = some (.int (46 : Int32)) := Has.at H1 hin1 rfl
  obtain ⟨fs, hr, hrun, hended, hW, hsame⟩ := X0.leave (v := some (.int (6 : Int32))) (fun h => by rw [Bd.returns] at h; cases h)
  refine ⟨_, _, pre0 _ ?_, hrun, hended, _, _, rfl, ?_, ⟨_, rfl⟩, hW, hsame.mono (by decide) (by decide)⟩
  · show Steps p.tables e below (s₁.setTop (mkF m 0 #[.val (.ref b1), .val (.int p2), .val (.int (0 : Int32)), .val (.int (17 : Int32)), .unset, .unset] [])) _
    refine XS.iloadN X0.here hx rfl (hb hby d11_0) rfl ?_
    show Steps p.tables e below (s₁.setTop (mkF m 1 #[.val (.ref b1), .val (.int p2), .val (.int (0 : Int32)), .val (.int (17 : Int32)), .unset, .unset] [(.int p2)])) _
    refine XS.i2b X0.here hx rfl (hb hby d11_1) rfl ?_
    show Steps p.tables e below (s₁.setTop (mkF m 2 #[.val (.ref b1), .val (.int p2), .val (.int (0 : Int32)), .val (.int (17 : Int32)), .unset, .unset] [(.int (p2.toInt8.toInt32))])) _
    refine XS.istore X0.here hx rfl (hb hby d11_2) rfl (l' := #[.val (.ref b1), .val (.int p2), .val (.int (0 : Int32)), .val (.int (17 : Int32)), .val (.int (p2.toInt8.toInt32)), .unset]) rfl ?_
    show Steps p.tables e below (s₁.setTop (mkF m 4 #[.val (.ref b1), .val (.int p2), .val (.int (0 : Int32)), .val (.int (17 : Int32)), .val (.int (p2.toInt8.toInt32)), .unset] [])) _
    refine XS.iloadN X0.here hx rfl (hb hby d11_4) rfl ?_
    show Steps p.tables e below (s₁.setTop (mkF m 5 #[.val (.ref b1), .val (.int p2), .val (.int (0 : Int32)), .val (.int (17 : Int32)), .val (.int (p2.toInt8.toInt32)), .unset] [(.int (0 : Int32))])) _
    refine XS.istore X0.here hx rfl (hb hby d11_5) rfl (l' := #[.val (.ref b1), .val (.int p2), .val (.int (0 : Int32)), .val (.int (17 : Int32)), .val (.int (p2.toInt8.toInt32)), .val (.int (0 : Int32))]) rfl ?_
    show Steps p.tables e below (s₁.setTop (mkF m 7 #[.val (.ref b1), .val (.int p2), .val (.int (0 : Int32)), .val (.int (17 : Int32)), .val (.int (p2.toInt8.toInt32)), .val (.int (0 : Int32))] [])) _
    refine tnI b1 p2 (p2.toInt8.toInt32) (0 : Int32) (1 : Int32) (35 : Int32) k X0 hx hZ hw hby hml hown e0 N0 Z0 V_b (by decide) ⟨by decide, by decide⟩ rfl vh0 (by decide) _ ?_
    show Steps p.tables e below (s₁.setTop (mkF m 7 #[.val (.ref b1), .val (.int p2), .val (.int (0 : Int32)), .val (.int (17 : Int32)), .val (.int (p2.toInt8.toInt32)), .val (.int (1 : Int32))] [])) _
    refine tnI b1 p2 (p2.toInt8.toInt32) (1 : Int32) (2 : Int32) (36 : Int32) k X0 hx hZ hw hby hml hown e0 N0 Z0 V_b (by decide) ⟨by decide, by decide⟩ rfl vh1 (by decide) _ ?_
    show Steps p.tables e below (s₁.setTop (mkF m 7 #[.val (.ref b1), .val (.int p2), .val (.int (0 : Int32)), .val (.int (17 : Int32)), .val (.int (p2.toInt8.toInt32)), .val (.int (2 : Int32))] [])) _
    refine tnI b1 p2 (p2.toInt8.toInt32) (2 : Int32) (3 : Int32) (38 : Int32) k X0 hx hZ hw hby hml hown e0 N0 Z0 V_b (by decide) ⟨by decide, by decide⟩ rfl vh2 (by decide) _ ?_
    show Steps p.tables e below (s₁.setTop (mkF m 7 #[.val (.ref b1), .val (.int p2), .val (.int (0 : Int32)), .val (.int (17 : Int32)), .val (.int (p2.toInt8.toInt32)), .val (.int (3 : Int32))] [])) _
    refine tnI b1 p2 (p2.toInt8.toInt32) (3 : Int32) (4 : Int32) (42 : Int32) k X0 hx hZ hw hby hml hown e0 N0 Z0 V_b (by decide) ⟨by decide, by decide⟩ rfl vh3 (by decide) _ ?_
    show Steps p.tables e below (s₁.setTop (mkF m 7 #[.val (.ref b1), .val (.int p2), .val (.int (0 : Int32)), .val (.int (17 : Int32)), .val (.int (p2.toInt8.toInt32)), .val (.int (4 : Int32))] [])) _
    refine tnI b1 p2 (p2.toInt8.toInt32) (4 : Int32) (5 : Int32) (43 : Int32) k X0 hx hZ hw hby hml hown e0 N0 Z0 V_b (by decide) ⟨by decide, by decide⟩ rfl vh4 (by decide) _ ?_
    show Steps p.tables e below (s₁.setTop (mkF m 7 #[.val (.ref b1), .val (.int p2), .val (.int (0 : Int32)), .val (.int (17 : Int32)), .val (.int (p2.toInt8.toInt32)), .val (.int (5 : Int32))] [])) _
    refine tnI b1 p2 (p2.toInt8.toInt32) (5 : Int32) (6 : Int32) (45 : Int32) k X0 hx hZ hw hby hml hown e0 N0 Z0 V_b (by decide) ⟨by decide, by decide⟩ rfl vh5 (by decide) _ ?_
    show Steps p.tables e below (s₁.setTop (mkF m 7 #[.val (.ref b1), .val (.int p2), .val (.int (0 : Int32)), .val (.int (17 : Int32)), .val (.int (p2.toInt8.toInt32)), .val (.int (6 : Int32))] [])) _
    refine XS.iload X0.here hx rfl (hb hby d11_7) rfl ?_
    show Steps p.tables e below (s₁.setTop (mkF m 9 #[.val (.ref b1), .val (.int p2), .val (.int (0 : Int32)), .val (.int (17 : Int32)), .val (.int (p2.toInt8.toInt32)), .val (.int (6 : Int32))] [(.int (6 : Int32))])) _
    refine XS.iloadN X0.here hx rfl (hb hby d11_9) rfl ?_
    show Steps p.tables e below (s₁.setTop (mkF m 10 #[.val (.ref b1), .val (.int p2), .val (.int (0 : Int32)), .val (.int (17 : Int32)), .val (.int (p2.toInt8.toInt32)), .val (.int (6 : Int32))] [(.int (17 : Int32)), (.int (6 : Int32))])) _
    refine XS.icmpNo X0.here hx rfl (hb hby d11_10) rfl (tlt ((by decide) : (6 : Int32) < (17 : Int32))).2.1 ?_
    show Steps p.tables e below (s₁.setTop (mkF m 13 #[.val (.ref b1), .val (.int p2), .val (.int (0 : Int32)), .val (.int (17 : Int32)), .val (.int (p2.toInt8.toInt32)), .val (.int (6 : Int32))] [])) _
    refine XS.aloadN X0.here hx rfl (hb hby d11_13) rfl rfl ?_
    show Steps p.tables e below (s₁.setTop (mkF m 14 #[.val (.ref b1), .val (.int p2), .val (.int (0 : Int32)), .val (.int (17 : Int32)), .val (.int (p2.toInt8.toInt32)), .val (.int (6 : Int32))] [(.ref b1)])) _
    refine XS.iload X0.here hx rfl (hb hby d11_14) rfl ?_
    show Steps p.tables e below (s₁.setTop (mkF m 16 #[.val (.ref b1), .val (.int p2), .val (.int (0 : Int32)), .val (.int (17 : Int32)), .val (.int (p2.toInt8.toInt32)), .val (.int (6 : Int32))] [(.int (6 : Int32)), (.ref b1)])) _
    refine X0.baloadBytes hx (j := (6 : Int32)) (v := (.int (46 : Int32))) (by rw [e0]; exact Ar1.1) (State.isArrayOf_alike hZ.alike Ar1.2.1) Ar1.2.2 hin1 hat1 (g := (mkF m 16 #[.val (.ref b1), .val (.int p2), .val (.int (0 : Int32)), .val (.int (17 : Int32)), .val (.int (p2.toInt8.toInt32)), .val (.int (6 : Int32))] [(.int (6 : Int32)), (.ref b1)])) rfl rfl (hb hby d11_16) _ ?_
    show Steps p.tables e below (s₁.setTop (mkF m 17 #[.val (.ref b1), .val (.int p2), .val (.int (0 : Int32)), .val (.int (17 : Int32)), .val (.int (p2.toInt8.toInt32)), .val (.int (6 : Int32))] [(.int (46 : Int32))])) _
    refine XS.iload X0.here hx rfl (hb hby d11_17) rfl ?_
    show Steps p.tables e below (s₁.setTop (mkF m 19 #[.val (.ref b1), .val (.int p2), .val (.int (0 : Int32)), .val (.int (17 : Int32)), .val (.int (p2.toInt8.toInt32)), .val (.int (6 : Int32))] [(.int (p2.toInt8.toInt32)), (.int (46 : Int32))])) _
    refine XS.icmpNo X0.here hx rfl (hb hby d11_19) rfl (teq (vh6 : (46 : Int32) = (p2.toInt8.toInt32))).2 ?_
    show Steps p.tables e below (s₁.setTop (mkF m 22 #[.val (.ref b1), .val (.int p2), .val (.int (0 : Int32)), .val (.int (17 : Int32)), .val (.int (p2.toInt8.toInt32)), .val (.int (6 : Int32))] [])) _
    refine XS.iload X0.here hx rfl (hb hby d11_22) rfl ?_
    show Steps p.tables e below (s₁.setTop (mkF m 24 #[.val (.ref b1), .val (.int p2), .val (.int (0 : Int32)), .val (.int (17 : Int32)), .val (.int (p2.toInt8.toInt32)), .val (.int (6 : Int32))] [(.int (6 : Int32))])) _
    exact retI X0 hx Bd.returns (hb hby d11_24) hr
  · show QI Z (own_f (p2.toInt8.toInt32)) h0 n0 _ s₁.heap _
    rw [e0]
    exact ⟨congrArg (fun z => some (Value.int z)) (Eq.symm ((if_neg vh0).trans ((if_neg vh1).trans ((if_neg vh2).trans ((if_neg vh3).trans ((if_neg vh4).trans ((if_neg vh5).trans (if_pos vh6)))))))), N0, rfl⟩
set_option maxRecDepth 65536 in
set_option maxHeartbeats 40000000 in
theorem rmIc_7 (l : Launch) (Z : State) (a0 : Array Value) (hw : ∀ d ∈ tables_1, d.before a0 Z = true) (ws : List Jvm.Cond) (b1 : Addr) (p2 : Int32) (k : ClassId) (h0 : Heap) (n0 : Nat) (Z0 : n0 ≤ h0.size) (V_b : Arv Z h0 b1 k .byte (17 : Int32) [(.int (35 : Int32)), (.int (36 : Int32)), (.int (38 : Int32)), (.int (42 : Int32)), (.int (43 : Int32)), (.int (45 : Int32)), (.int (46 : Int32)), (.int (47 : Int32)), (.int (58 : Int32)), (.int (60 : Int32)), (.int (61 : Int32)), (.int (62 : Int32)), (.int (63 : Int32)), (.int (64 : Int32)), (.int (94 : Int32)), (.int (126 : Int32)), (.int (92 : Int32))] (.int (0 : Int32))) (vh0 : ¬ ((35 : Int32) = (p2.toInt8.toInt32))) (vh1 : ¬ ((36 : Int32) = (p2.toInt8.toInt32))) (vh2 : ¬ ((38 : Int32) = (p2.toInt8.toInt32))) (vh3 : ¬ ((42 : Int32) = (p2.toInt8.toInt32))) (vh4 : ¬ ((43 : Int32) = (p2.toInt8.toInt32))) (vh5 : ¬ ((45 : Int32) = (p2.toInt8.toInt32))) (vh6 : ¬ ((46 : Int32) = (p2.toInt8.toInt32))) (vh7 : (47 : Int32) = (p2.toInt8.toInt32)) :
    MetFree l (⟨"java/lang/StringLatin1", "indexOfChar", "([BIII)I"⟩ : MethodName) (head1 (Jvm.Cond.code (⟨"java/lang/StringLatin1", "indexOfChar", "([BIII)I"⟩ : MethodName) jdk_43_method_23_code 6 (some .int) :: ws) ({ frames := 0, cells := 0, slots := 0, locals := 0 } : Room)) (fun a U => a = #[(.ref b1), (.int p2), (.int (0 : Int32)), (.int (17 : Int32))] ∧ Z.Warmed39 U.vm ∧ U.heap = h0) (fun _ _ _ _ _ => True) (fun _ U o U' => ∃ v L, o = .returned v ∧ QI Z (own_f (p2.toInt8.toInt32)) h0 n0 v U'.heap L ∧ FrameEnd U o U' L ({ frames := 0, cells := 0, slots := 0, locals := 0 } : Room).cells ({ frames := 0, cells := 0, slots := 0, locals := 0 } : Room).slots) := by
  refine MetFree.of_bodySF (plainFor_of_name pn_11) hisR ?_
  intro p e s m args below meth c s₁ Bd hml0 hP hK
  obtain ⟨rfl, hZ, hh⟩ := hP
  have hx := Bd.exec
  have hby := Bd.bytes
  have hml : c.maxLocals = 6 := hml0
  have hown : s.vm.findClass "java/lang/StringLatin1" = some m.cls := findClass_of_methodNamed Bd.named
  have hnm := (name_of_methodNamed Bd.named Bd.method).1
  have X0 : Stand p l e ({ frames := 0, cells := 0, slots := 0, locals := 0 } : Room) s m #[(.ref b1), (.int p2), (.int (0 : Int32)), (.int (17 : Int32))] below meth c s₁ [] 0 0 := Stand.of_body Bd
  have e0 : s₁.heap = h0 := by rw [← hh, Bd.state]; rfl
  have N0 := Fr.nil n0
  have pre0 : ∀ tz, Steps p.tables e below (s₁.setTop (mkF m 0 #[.val (.ref b1), .val (.int p2), .val (.int (0 : Int32)), .val (.int (17 : Int32)), .unset, .unset] [])) tz → Steps p.tables e below (s₁.setTop (entryFrame m #[(.ref b1), (.int p2), (.int (0 : Int32)), (.int (17 : Int32))] 6)) tz := fun tz kz => castTop (ef_11 m b1 p2 (0 : Int32) (17 : Int32)) kz
  obtain ⟨cl1, Ar1, q1, S1, M1, H1, G1⟩ := id V_b
  have hin1 : ¬ ((7 : Int32) < 0 ∨ cl1.slots.size ≤ ((7 : Int32)).toNatClampNeg) := inb_of S1 ⟨by decide, by decide⟩
  have hat1 : cl1.slots[((7 : Int32)).toNatClampNeg]? = some (.int (47 : Int32)) := Has.at H1 hin1 rfl
  obtain ⟨fs, hr, hrun, hended, hW, hsame⟩ := X0.leave (v := some (.int (7 : Int32))) (fun h => by rw [Bd.returns] at h; cases h)
  refine ⟨_, _, pre0 _ ?_, hrun, hended, _, _, rfl, ?_, ⟨_, rfl⟩, hW, hsame.mono (by decide) (by decide)⟩
  · show Steps p.tables e below (s₁.setTop (mkF m 0 #[.val (.ref b1), .val (.int p2), .val (.int (0 : Int32)), .val (.int (17 : Int32)), .unset, .unset] [])) _
    refine XS.iloadN X0.here hx rfl (hb hby d11_0) rfl ?_
    show Steps p.tables e below (s₁.setTop (mkF m 1 #[.val (.ref b1), .val (.int p2), .val (.int (0 : Int32)), .val (.int (17 : Int32)), .unset, .unset] [(.int p2)])) _
    refine XS.i2b X0.here hx rfl (hb hby d11_1) rfl ?_
    show Steps p.tables e below (s₁.setTop (mkF m 2 #[.val (.ref b1), .val (.int p2), .val (.int (0 : Int32)), .val (.int (17 : Int32)), .unset, .unset] [(.int (p2.toInt8.toInt32))])) _
    refine XS.istore X0.here hx rfl (hb hby d11_2) rfl (l' := #[.val (.ref b1), .val (.int p2), .val (.int (0 : Int32)), .val (.int (17 : Int32)), .val (.int (p2.toInt8.toInt32)), .unset]) rfl ?_
    show Steps p.tables e below (s₁.setTop (mkF m 4 #[.val (.ref b1), .val (.int p2), .val (.int (0 : Int32)), .val (.int (17 : Int32)), .val (.int (p2.toInt8.toInt32)), .unset] [])) _
    refine XS.iloadN X0.here hx rfl (hb hby d11_4) rfl ?_
    show Steps p.tables e below (s₁.setTop (mkF m 5 #[.val (.ref b1), .val (.int p2), .val (.int (0 : Int32)), .val (.int (17 : Int32)), .val (.int (p2.toInt8.toInt32)), .unset] [(.int (0 : Int32))])) _
    refine XS.istore X0.here hx rfl (hb hby d11_5) rfl (l' := #[.val (.ref b1), .val (.int p2), .val (.int (0 : Int32)), .val (.int (17 : Int32)), .val (.int (p2.toInt8.toInt32)), .val (.int (0 : Int32))]) rfl ?_
    show Steps p.tables e below (s₁.setTop (mkF m 7 #[.val (.ref b1), .val (.int p2), .val (.int (0 : Int32)), .val (.int (17 : Int32)), .val (.int (p2.toInt8.toInt32)), .val (.int (0 : Int32))] [])) _
    refine tnI b1 p2 (p2.toInt8.toInt32) (0 : Int32) (1 : Int32) (35 : Int32) k X0 hx hZ hw hby hml hown e0 N0 Z0 V_b (by decide) ⟨by decide, by decide⟩ rfl vh0 (by decide) _ ?_
    show Steps p.tables e below (s₁.setTop (mkF m 7 #[.val (.ref b1), .val (.int p2), .val (.int (0 : Int32)), .val (.int (17 : Int32)), .val (.int (p2.toInt8.toInt32)), .val (.int (1 : Int32))] [])) _
    refine tnI b1 p2 (p2.toInt8.toInt32) (1 : Int32) (2 : Int32) (36 : Int32) k X0 hx hZ hw hby hml hown e0 N0 Z0 V_b (by decide) ⟨by decide, by decide⟩ rfl vh1 (by decide) _ ?_
    show Steps p.tables e below (s₁.setTop (mkF m 7 #[.val (.ref b1), .val (.int p2), .val (.int (0 : Int32)), .val (.int (17 : Int32)), .val (.int (p2.toInt8.toInt32)), .val (.int (2 : Int32))] [])) _
    refine tnI b1 p2 (p2.toInt8.toInt32) (2 : Int32) (3 : Int32) (38 : Int32) k X0 hx hZ hw hby hml hown e0 N0 Z0 V_b (by decide) ⟨by decide, by decide⟩ rfl vh2 (by decide) _ ?_
    show Steps p.tables e below (s₁.setTop (mkF m 7 #[.val (.ref b1), .val (.int p2), .val (.int (0 : Int32)), .val (.int (17 : Int32)), .val (.int (p2.toInt8.toInt32)), .val (.int (3 : Int32))] [])) _
    refine tnI b1 p2 (p2.toInt8.toInt32) (3 : Int32) (4 : Int32) (42 : Int32) k X0 hx hZ hw hby hml hown e0 N0 Z0 V_b (by decide) ⟨by decide, by decide⟩ rfl vh3 (by decide) _ ?_
    show Steps p.tables e below (s₁.setTop (mkF m 7 #[.val (.ref b1), .val (.int p2), .val (.int (0 : Int32)), .val (.int (17 : Int32)), .val (.int (p2.toInt8.toInt32)), .val (.int (4 : Int32))] [])) _
    refine tnI b1 p2 (p2.toInt8.toInt32) (4 : Int32) (5 : Int32) (43 : Int32) k X0 hx hZ hw hby hml hown e0 N0 Z0 V_b (by decide) ⟨by decide, by decide⟩ rfl vh4 (by decide) _ ?_
    show Steps p.tables e below (s₁.setTop (mkF m 7 #[.val (.ref b1), .val (.int p2), .val (.int (0 : Int32)), .val (.int (17 : Int32)), .val (.int (p2.toInt8.toInt32)), .val (.int (5 : Int32))] [])) _
    refine tnI b1 p2 (p2.toInt8.toInt32) (5 : Int32) (6 : Int32) (45 : Int32) k X0 hx hZ hw hby hml hown e0 N0 Z0 V_b (by decide) ⟨by decide, by decide⟩ rfl vh5 (by decide) _ ?_
    show Steps p.tables e below (s₁.setTop (mkF m 7 #[.val (.ref b1), .val (.int p2), .val (.int (0 : Int32)), .val (.int (17 : Int32)), .val (.int (p2.toInt8.toInt32)), .val (.int (6 : Int32))] [])) _
    refine tnI b1 p2 (p2.toInt8.toInt32) (6 : Int32) (7 : Int32) (46 : Int32) k X0 hx hZ hw hby hml hown e0 N0 Z0 V_b (by decide) ⟨by decide, by decide⟩ rfl vh6 (by decide) _ ?_
    show Steps p.tables e below (s₁.setTop (mkF m 7 #[.val (.ref b1), .val (.int p2), .val (.int (0 : Int32)), .val (.int (17 : Int32)), .val (.int (p2.toInt8.toInt32)), .val (.int (7 : Int32))] [])) _
    refine XS.iload X0.here hx rfl (hb hby d11_7) rfl ?_
    show Steps p.tables e below (s₁.setTop (mkF m 9 #[.val (.ref b1), .val (.int p2), .val (.int (0 : Int32)), .val (.int (17 : Int32)), .val (.int (p2.toInt8.toInt32)), .val (.int (7 : Int32))] [(.int (7 : Int32))])) _
    refine XS.iloadN X0.here hx rfl (hb hby d11_9) rfl ?_
    show Steps p.tables e below (s₁.setTop (mkF m 10 #[.val (.ref b1), .val (.int p2), .val (.int (0 : Int32)), .val (.int (17 : Int32)), .val (.int (p2.toInt8.toInt32)), .val (.int (7 : Int32))] [(.int (17 : Int32)), (.int (7 : Int32))])) _
    refine XS.icmpNo X0.here hx rfl (hb hby d11_10) rfl (tlt ((by decide) : (7 : Int32) < (17 : Int32))).2.1 ?_
    show Steps p.tables e below (s₁.setTop (mkF m 13 #[.val (.ref b1), .val (.int p2), .val (.int (0 : Int32)), .val (.int (17 : Int32)), .val (.int (p2.toInt8.toInt32)), .val (.int (7 : Int32))] [])) _
    refine XS.aloadN X0.here hx rfl (hb hby d11_13) rfl rfl ?_
    show Steps p.tables e below (s₁.setTop (mkF m 14 #[.val (.ref b1), .val (.int p2), .val (.int (0 : Int32)), .val (.int (17 : Int32)), .val (.int (p2.toInt8.toInt32)), .val (.int (7 : Int32))] [(.ref b1)])) _
    refine XS.iload X0.here hx rfl (hb hby d11_14) rfl ?_
    show Steps p.tables e below (s₁.setTop (mkF m 16 #[.val (.ref b1), .val (.int p2), .val (.int (0 : Int32)), .val (.int (17 : Int32)), .val (.int (p2.toInt8.toInt32)), .val (.int (7 : Int32))] [(.int (7 : Int32)), (.ref b1)])) _
    refine X0.baloadBytes hx (j := (7 : Int32)) (v := (.int (47 : Int32))) (by rw [e0]; exact Ar1.1) (State.isArrayOf_alike hZ.alike Ar1.2.1) Ar1.2.2 hin1 hat1 (g := (mkF m 16 #[.val (.ref b1), .val (.int p2), .val (.int (0 : Int32)), .val (.int (17 : Int32)), .val (.int (p2.toInt8.toInt32)), .val (.int (7 : Int32))] [(.int (7 : Int32)), (.ref b1)])) rfl rfl (hb hby d11_16) _ ?_
    show Steps p.tables e below (s₁.setTop (mkF m 17 #[.val (.ref b1), .val (.int p2), .val (.int (0 : Int32)), .val (.int (17 : Int32)), .val (.int (p2.toInt8.toInt32)), .val (.int (7 : Int32))] [(.int (47 : Int32))])) _
    refine XS.iload X0.here hx rfl (hb hby d11_17) rfl ?_
    show Steps p.tables e below (s₁.setTop (mkF m 19 #[.val (.ref b1), .val (.int p2), .val (.int (0 : Int32)), .val (.int (17 : Int32)), .val (.int (p2.toInt8.toInt32)), .val (.int (7 : Int32))] [(.int (p2.toInt8.toInt32)), (.int (47 : Int32))])) _
    refine XS.icmpNo X0.here hx rfl (hb hby d11_19) rfl (teq (vh7 : (47 : Int32) = (p2.toInt8.toInt32))).2 ?_
    show Steps p.tables e below (s₁.setTop (mkF m 22 #[.val (.ref b1), .val (.int p2), .val (.int (0 : Int32)), .val (.int (17 : Int32)), .val (.int (p2.toInt8.toInt32)), .val (.int (7 : Int32))] [])) _
    refine XS.iload X0.here hx rfl (hb hby d11_22) rfl ?_
    show Steps p.tables e below (s₁.setTop (mkF m 24 #[.val (.ref b1), .val (.int p2), .val (.int (0 : Int32)), .val (.int (17 : Int32)), .val (.int (p2.toInt8.toInt32)), .val (.int (7 : Int32))] [(.int (7 : Int32))])) _
    exact retI X0 hx Bd.returns (hb hby d11_24) hr
  · show QI Z (own_f (p2.toInt8.toInt32)) h0 n0 _ s₁.heap _
    rw [e0]
    exact ⟨congrArg (fun z => some (Value.int z)) (Eq.symm ((if_neg vh0).trans ((if_neg vh1).trans ((if_neg vh2).trans ((if_neg vh3).trans ((if_neg vh4).trans ((if_neg vh5).trans ((if_neg vh6).trans (if_pos vh7))))))))), N0, rfl⟩
set_option maxRecDepth 65536 in
set_option maxHeartbeats 40000000 in
theorem rmIc_8 (l : Launch) (Z : State) (a0 : Array Value) (hw : ∀ d ∈ tables_1, d.before a0 Z = true) (ws : List Jvm.Cond) (b1 : Addr) (p2 : Int32) (k : ClassId) (h0 : Heap) (n0 : Nat) (Z0 : n0 ≤ h0.size) (V_b : Arv Z h0 b1 k .byte (17 : Int32) [(.int (35 : Int32)), (.int (36 : Int32)), (.int (38 : Int32)), (.int (42 : Int32)), (.int (43 : Int32)), (.int (45 : Int32)), (.int (46 : Int32)), (.int (47 : Int32)), (.int (58 : Int32)), (.int (60 : Int32)), (.int (61 : Int32)), (.int (62 : Int32)), (.int (63 : Int32)), (.int (64 : Int32)), (.int (94 : Int32)), (.int (126 : Int32)), (.int (92 : Int32))] (.int (0 : Int32))) (vh0 : ¬ ((35 : Int32) = (p2.toInt8.toInt32))) (vh1 : ¬ ((36 : Int32) = (p2.toInt8.toInt32))) (vh2 : ¬ ((38 : Int32) = (p2.toInt8.toInt32))) (vh3 : ¬ ((42 : Int32) = (p2.toInt8.toInt32))) (vh4 : ¬ ((43 : Int32) = (p2.toInt8.toInt32))) (vh5 : ¬ ((45 : Int32) = (p2.toInt8.toInt32))) (vh6 : ¬ ((46 : Int32) = (p2.toInt8.toInt32))) (vh7 : ¬ ((47 : Int32) = (p2.toInt8.toInt32))) (vh8 : (58 : Int32) = (p2.toInt8.toInt32)) :
    MetFree l (⟨"java/lang/StringLatin1", "indexOfChar", "([BIII)I"⟩ : MethodName) (head1 (Jvm.Cond.code (⟨"java/lang/StringLatin1", "indexOfChar", "([BIII)I"⟩ : MethodName) jdk_43_method_23_code 6 (some .int) :: ws) ({ frames := 0, cells := 0, slots := 0, locals := 0 } : Room)) (fun a U => a = #[(.ref b1), (.int p2), (.int (0 : Int32)), (.int (17 : Int32))] ∧ Z.Warmed39 U.vm ∧ U.heap = h0) (fun _ _ _ _ _ => True) (fun _ U o U' => ∃ v L, o = .returned v ∧ QI Z (own_f (p2.toInt8.toInt32)) h0 n0 v U'.heap L ∧ FrameEnd U o U' L ({ frames := 0, cells := 0, slots := 0, locals := 0 } : Room).cells ({ frames := 0, cells := 0, slots := 0, locals := 0 } : Room).slots) := by
  refine MetFree.of_bodySF (plainFor_of_name pn_11) hisR ?_
  intro p e s m args below meth c s₁ Bd hml0 hP hK
  obtain ⟨rfl, hZ, hh⟩ := hP
  have hx := Bd.exec
  have hby := Bd.bytes
  have hml : c.maxLocals = 6 := hml0
  have hown : s.vm.findClass "java/lang/StringLatin1" = some m.cls := findClass_of_methodNamed Bd.named
  have hnm := (name_of_methodNamed Bd.named Bd.method).1
  have X0 : Stand p l e ({ frames := 0, cells := 0, slots := 0, locals := 0 } : Room) s m #[(.ref b1), (.int p2), (.int (0 : Int32)), (.int (17 : Int32))] below meth c s₁ [] 0 0 := Stand.of_body Bd
  have e0 : s₁.heap = h0 := by rw [← hh, Bd.state]; rfl
  have N0 := Fr.nil n0
  have pre0 : ∀ tz, Steps p.tables e below (s₁.setTop (mkF m 0 #[.val (.ref b1), .val (.int p2), .val (.int (0 : Int32)), .val (.int (17 : Int32)), .unset, .unset] [])) tz → Steps p.tables e below (s₁.setTop (entryFrame m #[(.ref b1), (.int p2), (.int (0 : Int32)), (.int (17 : Int32))] 6)) tz := fun tz kz => castTop (ef_11 m b1 p2 (0 : Int32) (17 : Int32)) kz
  obtain ⟨cl1, Ar1, q1, S1, M1, H1, G1⟩ := id V_b
  have hin1 : ¬ ((8 : Int32) < 0 ∨ cl1.slots.size ≤ ((8 : Int32)).toNatClampNeg) := inb_of S1 ⟨by decide, by decide⟩
  have hat1 : cl1.slots[((8 : Int32)).toNatClampNeg]? = some (.int (58 : Int32)) := Has.at H1 hin1 rfl
  obtain ⟨fs, hr, hrun, hended, hW, hsame⟩ := X0.leave (v := some (.int (8 : Int32))) (fun h => by rw [Bd.returns] at h; cases h)
  refine ⟨_, _, pre0 _ ?_, hrun, hended, _, _, rfl, ?_, ⟨_, rfl⟩, hW, hsame.mono (by decide) (by decide)⟩
  · show Steps p.tables e below (s₁.setTop (mkF m 0 #[.val (.ref b1), .val (.int p2), .val (.int (0 : Int32)), .val (.int (17 : Int32)), .unset, .unset] [])) _
    refine XS.iloadN X0.here hx rfl (hb hby d11_0) rfl ?_
    show Steps p.tables e below (s₁.setTop (mkF m 1 #[.val (.ref b1), .val (.int p2), .val (.int (0 : Int32)), .val (.int (17 : Int32)), .unset, .unset] [(.int p2)])) _
    refine XS.i2b X0.here hx rfl (hb hby d11_1) rfl ?_
    show Steps p.tables e below (s₁.setTop (mkF m 2 #[.val (.ref b1), .val (.int p2), .val (.int (0 : Int32)), .val (.int (17 : Int32)), .unset, .unset] [(.int (p2.toInt8.toInt32))])) _
    refine XS.istore X0.here hx rfl (hb hby d11_2) rfl (l' := #[.val (.ref b1), .val (.int p2), .val (.int (0 : Int32)), .val (.int (17 : Int32)), .val (.int (p2.toInt8.toInt32)), .unset]) rfl ?_
    show Steps p.tables e below (s₁.setTop (mkF m 4 #[.val (.ref b1), .val (.int p2), .val (.int (0 : Int32)), .val (.int (17 : Int32)), .val (.int (p2.toInt8.toInt32)), .unset] [])) _
    refine XS.iloadN X0.here hx rfl (hb hby d11_4) rfl ?_
    show Steps p.tables e below (s₁.setTop (mkF m 5 #[.val (.ref b1), .val (.int p2), .val (.int (0 : Int32)), .val (.int (17 : Int32)), .val (.int (p2.toInt8.toInt32)), .unset] [(.int (0 : Int32))])) _
    refine XS.istore X0.here hx rfl (hb hby d11_5) rfl (l' := #[.val (.ref b1), .val (.int p2), .val (.int (0 : Int32)), .val (.int (17 : Int32)), .val (.int (p2.toInt8.toInt32)), .val (.int (0 : Int32))]) rfl ?_
    show Steps p.tables e below (s₁.setTop (mkF m 7 #[.val (.ref b1), .val (.int p2), .val (.int (0 : Int32)), .val (.int (17 : Int32)), .val (.int (p2.toInt8.toInt32)), .val (.int (0 : Int32))] [])) _
    refine tnI b1 p2 (p2.toInt8.toInt32) (0 : Int32) (1 : Int32) (35 : Int32) k X0 hx hZ hw hby hml hown e0 N0 Z0 V_b (by decide) ⟨by decide, by decide⟩ rfl vh0 (by decide) _ ?_
    show Steps p.tables e below (s₁.setTop (mkF m 7 #[.val (.ref b1), .val (.int p2), .val (.int (0 : Int32)), .val (.int (17 : Int32)), .val (.int (p2.toInt8.toInt32)), .val (.int (1 : Int32))] [])) _
    refine tnI b1 p2 (p2.toInt8.toInt32) (1 : Int32) (2 : Int32) (36 : Int32) k X0 hx hZ hw hby hml hown e0 N0 Z0 V_b (by decide) ⟨by decide, by decide⟩ rfl vh1 (by decide) _ ?_
    show Steps p.tables e below (s₁.setTop (mkF m 7 #[.val (.ref b1), .val (.int p2), .val (.int (0 : Int32)), .val (.int (17 : Int32)), .val (.int (p2.toInt8.toInt32)), .val (.int (2 : Int32))] [])) _
    refine tnI b1 p2 (p2.toInt8.toInt32) (2 : Int32) (3 : Int32) (38 : Int32) k X0 hx hZ hw hby hml hown e0 N0 Z0 V_b (by decide) ⟨by decide, by decide⟩ rfl vh2 (by decide) _ ?_
    show Steps p.tables e below (s₁.setTop (mkF m 7 #[.val (.ref b1), .val (.int p2), .val (.int (0 : Int32)), .val (.int (17 : Int32)), .val (.int (p2.toInt8.toInt32)), .val (.int (3 : Int32))] [])) _
    refine tnI b1 p2 (p2.toInt8.toInt32) (3 : Int32) (4 : Int32) (42 : Int32) k X0 hx hZ hw hby hml hown e0 N0 Z0 V_b (by decide) ⟨by decide, by decide⟩ rfl vh3 (by decide) _ ?_
    show Steps p.tables e below (s₁.setTop (mkF m 7 #[.val (.ref b1), .val (.int p2), .val (.int (0 : Int32)), .val (.int (17 : Int32)), .val (.int (p2.toInt8.toInt32)), .val (.int (4 : Int32))] [])) _
    refine tnI b1 p2 (p2.toInt8.toInt32) (4 : Int32) (5 : Int32) (43 : Int32) k X0 hx hZ hw hby hml hown e0 N0 Z0 V_b (by decide) ⟨by decide, by decide⟩ rfl vh4 (by decide) _ ?_
    show Steps p.tables e below (s₁.setTop (mkF m 7 #[.val (.ref b1), .val (.int p2), .val (.int (0 : Int32)), .val (.int (17 : Int32)), .val (.int (p2.toInt8.toInt32)), .val (.int (5 : Int32))] [])) _
    refine tnI b1 p2 (p2.toInt8.toInt32) (5 : Int32) (6 : Int32) (45 : Int32) k X0 hx hZ hw hby hml hown e0 N0 Z0 V_b (by decide) ⟨by decide, by decide⟩ rfl vh5 (by decide) _ ?_
    show Steps p.tables e below (s₁.setTop (mkF m 7 #[.val (.ref b1), .val (.int p2), .val (.int (0 : Int32)), .val (.int (17 : Int32)), .val (.int (p2.toInt8.toInt32)), .val (.int (6 : Int32))] [])) _
    refine tnI b1 p2 (p2.toInt8.toInt32) (6 : Int32) (7 : Int32) (46 : Int32) k X0 hx hZ hw hby hml hown e0 N0 Z0 V_b (by decide) ⟨by decide, by decide⟩ rfl vh6 (by decide) _ ?_
    show Steps p.tables e below (s₁.setTop (mkF m 7 #[.val (.ref b1), .val (.int p2), .val (.int (0 : Int32)), .val (.int (17 : Int32)), .val (.int (p2.toInt8.toInt32)), .val (.int (7 : Int32))] [])) _
    refine tnI b1 p2 (p2.toInt8.toInt32) (7 : Int32) (8 : Int32) (47 : Int32) k X0 hx hZ hw hby hml hown e0 N0 Z0 V_b (by decide) ⟨by decide, by decide⟩ rfl vh7 (by decide) _ ?_
    show Steps p.tables e below (s₁.setTop (mkF m 7 #[.val (.ref b1), .val (.int p2), .val (.int (0 : Int32)), .val (.int (17 : Int32)), .val (.int (p2.toInt8.toInt32)), .val (.int (8 : Int32))] [])) _
    refine XS.iload X0.here hx rfl (hb hby d11_7) rfl ?_
    show Steps p.tables e below (s₁.setTop (mkF m 9 #[.val (.ref b1), .val (.int p2), .val (.int (0 : Int32)), .val (.int (17 : Int32)), .val (.int (p2.toInt8.toInt32)), .val (.int (8 : Int32))] [(.int (8 : Int32))])) _
    refine XS.iloadN X0.here hx rfl (hb hby d11_9) rfl ?_
    show Steps p.tables e below (s₁.setTop (mkF m 10 #[.val (.ref b1), .val (.int p2), .val (.int (0 : Int32)), .val (.int (17 : Int32)), .val (.int (p2.toInt8.toInt32)), .val (.int (8 : Int32))] [(.int (17 : Int32)), (.int (8 : Int32))])) _
    refine XS.icmpNo X0.here hx rfl (hb hby d11_10) rfl (tlt ((by decide) : (8 : Int32) < (17 : Int32))).2.1 ?_
    show Steps p.tables e below (s₁.setTop (mkF m 13 #[.val (.ref b1), .val (.int p2), .val (.int (0 : Int32)), .val (.int (17 : Int32)), .val (.int (p2.toInt8.toInt32)), .val (.int (8 : Int32))] [])) _
    refine XS.aloadN X0.here hx rfl (hb hby d11_13) rfl rfl ?_
    show Steps p.tables e below (s₁.setTop (mkF m 14 #[.val (.ref b1), .val (.int p2), .val (.int (0 : Int32)), .val (.int (17 : Int32)), .val (.int (p2.toInt8.toInt32)), .val (.int (8 : Int32))] [(.ref b1)])) _
    refine XS.iload X0.here hx rfl (hb hby d11_14) rfl ?_
    show Steps p.tables e below (s₁.setTop (mkF m 16 #[.val (.ref b1), .val (.int p2), .val (.int (0 : Int32)), .val (.int (17 : Int32)), .val (.int (p2.toInt8.toInt32)), .val (.int (8 : Int32))] [(.int (8 : Int32)), (.ref b1)])) _
    refine X0.baloadBytes hx (j := (8 : Int32)) (v := (.int (58 : Int32))) (by rw [e0]; exact Ar1.1) (State.isArrayOf_alike hZ.alike Ar1.2.1) Ar1.2.2 hin1 hat1 (g := (mkF m 16 #[.val (.ref b1), .val (.int p2), .val (.int (0 : Int32)), .val (.int (17 : Int32)), .val (.int (p2.toInt8.toInt32)), .val (.int (8 : Int32))] [(.int (8 : Int32)), (.ref b1)])) rfl rfl (hb hby d11_16) _ ?_
    show Steps p.tables e below (s₁.setTop (mkF m 17 #[.val (.ref b1), .val (.int p2), .val (.int (0 : Int32)), .val (.int (17 : Int32)), .val (.int (p2.toInt8.toInt32)), .val (.int (8 : Int32))] [(.int (58 : Int32))])) _
    refine XS.iload X0.here hx rfl (hb hby d11_17) rfl ?_
    show Steps p.tables e below (s₁.setTop (mkF m 19 #[.val (.ref b1), .val (.int p2), .val (.int (0 : Int32)), .val (.int (17 : Int32)), .val (.int (p2.toInt8.toInt32)), .val (.int (8 : Int32))] [(.int (p2.toInt8.toInt32)), (.int (58 : Int32))])) _
    refine XS.icmpNo X0.here hx rfl (hb hby d11_19) rfl (teq (vh8 : (58 : Int32) = (p2.toInt8.toInt32))).2 ?_
    show Steps p.tables e below (s₁.setTop (mkF m 22 #[.val (.ref b1), .val (.int p2), .val (.int (0 : Int32)), .val (.int (17 : Int32)), .val (.int (p2.toInt8.toInt32)), .val (.int (8 : Int32))] [])) _
    refine XS.iload X0.here hx rfl (hb hby d11_22) rfl ?_
    show Steps p.tables e below (s₁.setTop (mkF m 24 #[.val (.ref b1), .val (.int p2), .val (.int (0 : Int32)), .val (.int (17 : Int32)), .val (.int (p2.toInt8.toInt32)), .val (.int (8 : Int32))] [(.int (8 : Int32))])) _
    exact retI X0 hx Bd.returns (hb hby d11_24) hr
  · show QI Z (own_f (p2.toInt8.toInt32)) h0 n0 _ s₁.heap _
    rw [e0]
    exact ⟨congrArg (fun z => some (Value.int z)) (Eq.symm ((if_neg vh0).trans ((if_neg vh1).trans ((if_neg vh2).trans ((if_neg vh3).trans ((if_neg vh4).trans ((if_neg vh5).trans ((if_neg vh6).trans ((if_neg vh7).trans (if_pos vh8)))))))))), N0, rfl⟩
set_option maxRecDepth 65536 in
set_option maxHeartbeats 40000000 in
theorem rmIc_9 (l : Launch) (Z : State) (a0 : Array Value) (hw : ∀ d ∈ tables_1, d.before a0 Z = true) (ws : List Jvm.Cond) (b1 : Addr) (p2 : Int32) (k : ClassId) (h0 : Heap) (n0 : Nat) (Z0 : n0 ≤ h0.size) (V_b : Arv Z h0 b1 k .byte (17 : Int32) [(.int (35 : Int32)), (.int (36 : Int32)), (.int (38 : Int32)), (.int (42 : Int32)), (.int (43 : Int32)), (.int (45 : Int32)), (.int (46 : Int32)), (.int (47 : Int32)), (.int (58 : Int32)), (.int (60 : Int32)), (.int (61 : Int32)), (.int (62 : Int32)), (.int (63 : Int32)), (.int (64 : Int32)), (.int (94 : Int32)), (.int (126 : Int32)), (.int (92 : Int32))] (.int (0 : Int32))) (vh0 : ¬ ((35 : Int32) = (p2.toInt8.toInt32))) (vh1 : ¬ ((36 : Int32) = (p2.toInt8.toInt32))) (vh2 : ¬ ((38 : Int32) = (p2.toInt8.toInt32))) (vh3 : ¬ ((42 : Int32) = (p2.toInt8.toInt32))) (vh4 : ¬ ((43 : Int32) = (p2.toInt8.toInt32))) (vh5 : ¬ ((45 : Int32) = (p2.toInt8.toInt32))) (vh6 : ¬ ((46 : Int32) = (p2.toInt8.toInt32))) (vh7 : ¬ ((47 : Int32) = (p2.toInt8.toInt32))) (vh8 : ¬ ((58 : Int32) = (p2.toInt8.toInt32))) (vh9 : (60 : Int32) = (p2.toInt8.toInt32)) :
    MetFree l (⟨"java/lang/StringLatin1", "indexOfChar", "([BIII)I"⟩ : MethodName) (head1 (Jvm.Cond.code (⟨"java/lang/StringLatin1", "indexOfChar", "([BIII)I"⟩ : MethodName) jdk_43_method_23_code 6 (some .int) :: ws) ({ frames := 0, cells := 0, slots := 0, locals := 0 } : Room)) (fun a U => a = #[(.ref b1), (.int p2), (.int (0 : Int32)), (.int (17 : Int32))] ∧ Z.Warmed39 U.vm ∧ U.heap = h0) (fun _ _ _ _ _ => True) (fun _ U o U' => ∃ v L, o = .returned v ∧ QI Z (own_f (p2.toInt8.toInt32)) h0 n0 v U'.heap L ∧ FrameEnd U o U' L ({ frames := 0, cells := 0, slots := 0, locals := 0 } : Room).cells ({ frames := 0, cells := 0, slots := 0, locals := 0 } : Room).slots) := by
  refine MetFree.of_bodySF (plainFor_of_name pn_11) hisR ?_
  intro p e s m args below meth c s₁ Bd hml0 hP hK
  obtain ⟨rfl, hZ, hh⟩ := hP
  have hx := Bd.exec
  have hby := Bd.bytes
  have hml : c.maxLocals = 6 := hml0
  have hown : s.vm.findClass "java/lang/StringLatin1" = some m.cls := findClass_of_methodNamed Bd.named
  have hnm := (name_of_methodNamed Bd.named Bd.method).1
  have X0 : Stand p l e ({ frames := 0, cells := 0, slots := 0, locals := 0 } : Room) s m #[(.ref b1), (.int p2), (.int (0 : Int32)), (.int (17 : Int32))] below meth c s₁ [] 0 0 := Stand.of_body Bd
  have e0 : s₁.heap = h0 := by rw [← hh, Bd.state]; rfl
  have N0 := Fr.nil n0
  have pre0 : ∀ tz, Steps p.tables e below (s₁.setTop (mkF m 0 #[.val (.ref b1), .val (.int p2), .val (.int (0 : Int32)), .val (.int (17 : Int32)), .unset, .unset] [])) tz → Steps p.tables e below (s₁.setTop (entryFrame m #[(.ref b1), (.int p2), (.int (0 : Int32)), (.int (17 : Int32))] 6)) tz := fun tz kz => castTop (ef_11 m b1 p2 (0 : Int32) (17 : Int32)) kz
  obtain ⟨cl1, Ar1, q1, S1, M1, H1, G1⟩ := id V_b
  have hin1 : ¬ ((9 : Int32) < 0 ∨ cl1.slots.size ≤ ((9 : Int32)).toNatClampNeg) := inb_of S1 ⟨by decide, by decide⟩
  have hat1 : cl1.slots[((9 : Int32)).toNatClampNeg]? = some (.int (60 : Int32)) := Has.at H1 hin1 rfl
  obtain ⟨fs, hr, hrun, hended, hW, hsame⟩ := X0.leave (v := some (.int (9 : Int32))) (fun h => by rw [Bd.returns] at h; cases h)
  refine ⟨_, _, pre0 _ ?_, hrun, hended, _, _, rfl, ?_, ⟨_, rfl⟩, hW, hsame.mono (by decide) (by decide)⟩
  · show Steps p.tables e below (s₁.setTop (mkF m 0 #[.val (.ref b1), .val (.int p2), .val (.int (0 : Int32)), .val (.int (17 : Int32)), .unset, .unset] [])) _
    refine XS.iloadN X0.here hx rfl (hb hby d11_0) rfl ?_
    show Steps p.tables e below (s₁.setTop (mkF m 1 #[.val (.ref b1), .val (.int p2), .val (.int (0 : Int32)), .val (.int (17 : Int32)), .unset, .unset] [(.int p2)])) _
    refine XS.i2b X0.here hx rfl (hb hby d11_1) rfl ?_
    show Steps p.tables e below (s₁.setTop (mkF m 2 #[.val (.ref b1), .val (.int p2), .val (.int (0 : Int32)), .val (.int (17 : Int32)), .unset, .unset] [(.int (p2.toInt8.toInt32))])) _
    refine XS.istore X0.here hx rfl (hb hby d11_2) rfl (l' := #[.val (.ref b1), .val (.int p2), .val (.int (0 : Int32)), .val (.int (17 : Int32)), .val (.int (p2.toInt8.toInt32)), .unset]) rfl ?_
    show Steps p.tables e below (s₁.setTop (mkF m 4 #[.val (.ref b1), .val (.int p2), .val (.int (0 : Int32)), .val (.int (17 : Int32)), .val (.int (p2.toInt8.toInt32)), .unset] [])) _
    refine XS.iloadN X0.here hx rfl (hb hby d11_4) rfl ?_
    show Steps p.tables e below (s₁.setTop (mkF m 5 #[.val (.ref b1), .val (.int p2), .val (.int (0 : Int32)), .val (.int (17 : Int32)), .val (.int (p2.toInt8.toInt32)), .unset] [(.int (0 : Int32))])) _
    refine XS.istore X0.here hx rfl (hb hby d11_5) rfl (l' := #[.val (.ref b1), .val (.int p2), .val (.int (0 : Int32)), .val (.int (17 : Int32)), .val (.int (p2.toInt8.toInt32)), .val (.int (0 : Int32))]) rfl ?_
    show Steps p.tables e below (s₁.setTop (mkF m 7 #[.val (.ref b1), .val (.int p2), .val (.int (0 : Int32)), .val (.int (17 : Int32)), .val (.int (p2.toInt8.toInt32)), .val (.int (0 : Int32))] [])) _
    refine tnI b1 p2 (p2.toInt8.toInt32) (0 : Int32) (1 : Int32) (35 : Int32) k X0 hx hZ hw hby hml hown e0 N0 Z0 V_b (by decide) ⟨by decide, by decide⟩ rfl vh0 (by decide) _ ?_
    show Steps p.tables e below (s₁.setTop (mkF m 7 #[.val (.ref b1), .val (.int p2), .val (.int (0 : Int32)), .val (.int (17 : Int32)), .val (.int (p2.toInt8.toInt32)), .val (.int (1 : Int32))] [])) _
    refine tnI b1 p2 (p2.toInt8.toInt32) (1 : Int32) (2 : Int32) (36 : Int32) k X0 hx hZ hw hby hml hown e0 N0 Z0 V_b (by decide) ⟨by decide, by decide⟩ rfl vh1 (by decide) _ ?_
    show Steps p.tables e below (s₁.setTop (mkF m 7 #[.val (.ref b1), .val (.int p2), .val (.int (0 : Int32)), .val (.int (17 : Int32)), .val (.int (p2.toInt8.toInt32)), .val (.int (2 : Int32))] [])) _
    refine tnI b1 p2 (p2.toInt8.toInt32) (2 : Int32) (3 : Int32) (38 : Int32) k X0 hx hZ hw hby hml hown e0 N0 Z0 V_b (by decide) ⟨by decide, by decide⟩ rfl vh2 (by decide) _ ?_
    show Steps p.tables e below (s₁.setTop (mkF m 7 #[.val (.ref b1), .val (.int p2), .val (.int (0 : Int32)), .val (.int (17 : Int32)), .val (.int (p2.toInt8.toInt32)), .val (.int (3 : Int32))] [])) _
    refine tnI b1 p2 (p2.toInt8.toInt32) (3 : Int32) (4 : Int32) (42 : Int32) k X0 hx hZ hw hby hml hown e0 N0 Z0 V_b (by decide) ⟨by decide, by decide⟩ rfl vh3 (by decide) _ ?_
    show Steps p.tables e below (s₁.setTop (mkF m 7 #[.val (.ref b1), .val (.int p2), .val (.int (0 : Int32)), .val (.int (17 : Int32)), .val (.int (p2.toInt8.toInt32)), .val (.int (4 : Int32))] [])) _
    refine tnI b1 p2 (p2.toInt8.toInt32) (4 : Int32) (5 : Int32) (43 : Int32) k X0 hx hZ hw hby hml hown e0 N0 Z0 V_b (by decide) ⟨by decide, by decide⟩ rfl vh4 (by decide) _ ?_
    show Steps p.tables e below (s₁.setTop (mkF m 7 #[.val (.ref b1), .val (.int p2), .val (.int (0 : Int32)), .val (.int (17 : Int32)), .val (.int (p2.toInt8.toInt32)), .val (.int (5 : Int32))] [])) _
    refine tnI b1 p2 (p2.toInt8.toInt32) (5 : Int32) (6 : Int32) (45 : Int32) k X0 hx hZ hw hby hml hown e0 N0 Z0 V_b (by decide) ⟨by decide, by decide⟩ rfl vh5 (by decide) _ ?_
    show Steps p.tables e below (s₁.setTop (mkF m 7 #[.val (.ref b1), .val (.int p2), .val (.int (0 : Int32)), .val (.int (17 : Int32)), .val (.int (p2.toInt8.toInt32)), .val (.int (6 : Int32))] [])) _
    refine tnI b1 p2 (p2.toInt8.toInt32) (6 : Int32) (7 : Int32) (46 : Int32) k X0 hx hZ hw hby hml hown e0 N0 Z0 V_b (by decide) ⟨by decide, by decide⟩ rfl vh6 (by decide) _ ?_
    show Steps p.tables e below (s₁.setTop (mkF m 7 #[.val (.ref b1), .val (.int p2), .val (.int (0 : Int32)), .val (.int (17 : Int32)), .val (.int (p2.toInt8.toInt32)), .val (.int (7 : Int32))] [])) _
    refine tnI b1 p2 (p2.toInt8.toInt32) (7 : Int32) (8 : Int32) (47 : Int32) k X0 hx hZ hw hby hml hown e0 N0 Z0 V_b (by decide) ⟨by decide, by decide⟩ rfl vh7 (by decide) _ ?_
    show Steps p.tables e below (s₁.setTop (mkF m 7 #[.val (.ref b1), .val (.int p2), .val (.int (0 : Int32)), .val (.int (17 : Int32)), .val (.int (p2.toInt8.toInt32)), .val (.int (8 : Int32))] [])) _
    refine tnI b1 p2 (p2.toInt8.toInt32) (8 : Int32) (9 : Int32) (58 : Int32) k X0 hx hZ hw hby hml hown e0 N0 Z0 V_b (by decide) ⟨by decide, by decide⟩ rfl vh8 (by decide) _ ?_
    show Steps p.tables e below (s₁.setTop (mkF m 7 #[.val (.ref b1), .val (.int p2), .val (.int (0 : Int32)), .val (.int (17 : Int32)), .val (.int (p2.toInt8.toInt32)), .val (.int (9 : Int32))] [])) _
    refine XS.iload X0.here hx rfl (hb hby d11_7) rfl ?_
    show Steps p.tables e below (s₁.setTop (mkF m 9 #[.val (.ref b1), .val (.int p2), .val (.int (0 : Int32)), .val (.int (17 : Int32)), .val (.int (p2.toInt8.toInt32)), .val (.int (9 : Int32))] [(.int (9 : Int32))])) _
    refine XS.iloadN X0.here hx rfl (hb hby d11_9) rfl ?_
    show Steps p.tables e below (s₁.setTop (mkF m 10 #[.val (.ref b1), .val (.int p2), .val (.int (0 : Int32)), .val (.int (17 : Int32)), .val (.int (p2.toInt8.toInt32)), .val (.int (9 : Int32))] [(.int (17 : Int32)), (.int (9 : Int32))])) _
    refine XS.icmpNo X0.here hx rfl (hb hby d11_10) rfl (tlt ((by decide) : (9 : Int32) < (17 : Int32))).2.1 ?_
    show Steps p.tables e below (s₁.setTop (mkF m 13 #[.val (.ref b1), .val (.int p2), .val (.int (0 : Int32)), .val (.int (17 : Int32)), .val (.int (p2.toInt8.toInt32)), .val (.int (9 : Int32))] [])) _
    refine XS.aloadN X0.here hx rfl (hb hby d11_13) rfl rfl ?_
    show Steps p.tables e below (s₁.setTop (mkF m 14 #[.val (.ref b1), .val (.int p2), .val (.int (0 : Int32)), .val (.int (17 : Int32)), .val (.int (p2.toInt8.toInt32)), .val (.int (9 : Int32))] [(.ref b1)])) _
    refine XS.iload X0.here hx rfl (hb hby d11_14) rfl ?_
    show Steps p.tables e below (s₁.setTop (mkF m 16 #[.val (.ref b1), .val (.int p2), .val (.int (0 : Int32)), .val (.int (17 : Int32)), .val (.int (p2.toInt8.toInt32)), .val (.int (9 : Int32))] [(.int (9 : Int32)), (.ref b1)])) _
    refine X0.baloadBytes hx (j := (9 : Int32)) (v := (.int (60 : Int32))) (by rw [e0]; exact Ar1.1) (State.isArrayOf_alike hZ.alike Ar1.2.1) Ar1.2.2 hin1 hat1 (g := (mkF m 16 #[.val (.ref b1), .val (.int p2), .val (.int (0 : Int32)), .val (.int (17 : Int32)), .val (.int (p2.toInt8.toInt32)), .val (.int (9 : Int32))] [(.int (9 : Int32)), (.ref b1)])) rfl rfl (hb hby d11_16) _ ?_
    show Steps p.tables e below (s₁.setTop (mkF m 17 #[.val (.ref b1), .val (.int p2), .val (.int (0 : Int32)), .val (.int (17 : Int32)), .val (.int (p2.toInt8.toInt32)), .val (.int (9 : Int32))] [(.int (60 : Int32))])) _
    refine XS.iload X0.here hx rfl (hb hby d11_17) rfl ?_
    show Steps p.tables e below (s₁.setTop (mkF m 19 #[.val (.ref b1), .val (.int p2), .val (.int (0 : Int32)), .val (.int (17 : Int32)), .val (.int (p2.toInt8.toInt32)), .val (.int (9 : Int32))] [(.int (p2.toInt8.toInt32)), (.int (60 : Int32))])) _
    refine XS.icmpNo X0.here hx rfl (hb hby d11_19) rfl (teq (vh9 : (60 : Int32) = (p2.toInt8.toInt32))).2 ?_
    show Steps p.tables e below (s₁.setTop (mkF m 22 #[.val (.ref b1), .val (.int p2), .val (.int (0 : Int32)), .val (.int (17 : Int32)), .val (.int (p2.toInt8.toInt32)), .val (.int (9 : Int32))] [])) _
    refine XS.iload X0.here hx rfl (hb hby d11_22) rfl ?_
    show Steps p.tables e below (s₁.setTop (mkF m 24 #[.val (.ref b1), .val (.int p2), .val (.int (0 : Int32)), .val (.int (17 : Int32)), .val (.int (p2.toInt8.toInt32)), .val (.int (9 : Int32))] [(.int (9 : Int32))])) _
    exact retI X0 hx Bd.returns (hb hby d11_24) hr
  · show QI Z (own_f (p2.toInt8.toInt32)) h0 n0 _ s₁.heap _
    rw [e0]
    exact ⟨congrArg (fun z => some (Value.int z)) (Eq.symm ((if_neg vh0).trans ((if_neg vh1).trans ((if_neg vh2).trans ((if_neg vh3).trans ((if_neg vh4).trans ((if_neg vh5).trans ((if_neg vh6).trans ((if_neg vh7).trans ((if_neg vh8).trans (if_pos vh9))))))))))), N0, rfl⟩
set_option maxRecDepth 65536 in
set_option maxHeartbeats 40000000 in
theorem rmIc_10 (l : Launch) (Z : State) (a0 : Array Value) (hw : ∀ d ∈ tables_1, d.before a0 Z = true) (ws : List Jvm.Cond) (b1 : Addr) (p2 : Int32) (k : ClassId) (h0 : Heap) (n0 : Nat) (Z0 : n0 ≤ h0.size) (V_b : Arv Z h0 b1 k .byte (17 : Int32) [(.int (35 : Int32)), (.int (36 : Int32)), (.int (38 : Int32)), (.int (42 : Int32)), (.int (43 : Int32)), (.int (45 : Int32)), (.int (46 : Int32)), (.int (47 : Int32)), (.int (58 : Int32)), (.int (60 : Int32)), (.int (61 : Int32)), (.int (62 : Int32)), (.int (63 : Int32)), (.int (64 : Int32)), (.int (94 : Int32)), (.int (126 : Int32)), (.int (92 : Int32))] (.int (0 : Int32))) (vh0 : ¬ ((35 : Int32) = (p2.toInt8.toInt32))) (vh1 : ¬ ((36 : Int32) = (p2.toInt8.toInt32))) (vh2 : ¬ ((38 : Int32) = (p2.toInt8.toInt32))) (vh3 : ¬ ((42 : Int32) = (p2.toInt8.toInt32))) (vh4 : ¬ ((43 : Int32) = (p2.toInt8.toInt32))) (vh5 : ¬ ((45 : Int32) = (p2.toInt8.toInt32))) (vh6 : ¬ ((46 : Int32) = (p2.toInt8.toInt32))) (vh7 : ¬ ((47 : Int32) = (p2.toInt8.toInt32))) (vh8 : ¬ ((58 : Int32) = (p2.toInt8.toInt32))) (vh9 : ¬ ((60 : Int32) = (p2.toInt8.toInt32))) (vh10 : (61 : Int32) = (p2.toInt8.toInt32)) :
    MetFree l (⟨"java/lang/StringLatin1", "indexOfChar", "([BIII)I"⟩ : MethodName) (head1 (Jvm.Cond.code (⟨"java/lang/StringLatin1", "indexOfChar", "([BIII)I"⟩ : MethodName) jdk_43_method_23_code 6 (some .int) :: ws) ({ frames := 0, cells := 0, slots := 0, locals := 0 } : Room)) (fun a U => a = #[(.ref b1), (.int p2), (.int (0 : Int32)), (.int (17 : Int32))] ∧ Z.Warmed39 U.vm ∧ U.heap = h0) (fun _ _ _ _ _ => True) (fun _ U o U' => ∃ v L, o = .returned v ∧ QI Z (own_f (p2.toInt8.toInt32)) h0 n0 v U'.heap L ∧ FrameEnd U o U' L ({ frames := 0, cells := 0, slots := 0, locals := 0 } : Room).cells ({ frames := 0, cells := 0, slots := 0, locals := 0 } : Room).slots) := by
  refine MetFree.of_bodySF (plainFor_of_name pn_11) hisR ?_
  intro p e s m args below meth c s₁ Bd hml0 hP hK
  obtain ⟨rfl, hZ, hh⟩ := hP
  have hx := Bd.exec
  have hby := Bd.bytes
  have hml : c.maxLocals = 6 := hml0
  have hown : s.vm.findClass "java/lang/StringLatin1" = some m.cls := findClass_of_methodNamed Bd.named
  have hnm := (name_of_methodNamed Bd.named Bd.method).1
  have X0 : Stand p l e ({ frames := 0, cells := 0, slots := 0, locals := 0 } : Room) s m #[(.ref b1), (.int p2), (.int (0 : Int32)), (.int (17 : Int32))] below meth c s₁ [] 0 0 := Stand.of_body Bd
  have e0 : s₁.heap = h0 := by rw [← hh, Bd.state]; rfl
  have N0 := Fr.nil n0
  have pre0 : ∀ tz, Steps p.tables e below (s₁.setTop (mkF m 0 #[.val (.ref b1), .val (.int p2), .val (.int (0 : Int32)), .val (.int (17 : Int32)), .unset, .unset] [])) tz → Steps p.tables e below (s₁.setTop (entryFrame m #[(.ref b1), (.int p2), (.int (0 : Int32)), (.int (17 : Int32))] 6)) tz := fun tz kz => castTop (ef_11 m b1 p2 (0 : Int32) (17 : Int32)) kz
  obtain ⟨cl1, Ar1, q1, S1, M1, H1, G1⟩ := id V_b
  have hin1 : ¬ ((10 : Int32) < 0 ∨ cl1.slots.size ≤ ((10 : Int32)).toNatClampNeg) := inb_of S1 ⟨by decide, by decide⟩
  have hat1 : cl1.slots[((10 : Int32)).toNatClampNeg]? = some (.int (61 : Int32)) := Has.at H1 hin1 rfl
  obtain ⟨fs, hr, hrun, hended, hW, hsame⟩ := X0.leave (v := some (.int (10 : Int32))) (fun h => by rw [Bd.returns] at h; cases h)
  refine ⟨_, _, pre0 _ ?_, hrun, hended, _, _, rfl, ?_, ⟨_, rfl⟩, hW, hsame.mono (by decide) (by decide)⟩
  · show Steps p.tables e below (s₁.setTop (mkF m 0 #[.val (.ref b1), .val (.int p2), .val (.int (0 : Int32)), .val (.int (17 : Int32)), .unset, .unset] [])) _
    refine XS.iloadN X0.here hx rfl (hb hby d11_0) rfl ?_
    show Steps p.tables e below (s₁.setTop (mkF m 1 #[.val (.ref b1), .val (.int p2), .val (.int (0 : Int32)), .val (.int (17 : Int32)), .unset, .unset] [(.int p2)])) _
    refine XS.i2b X0.here hx rfl (hb hby d11_1) rfl ?_
    show Steps p.tables e below (s₁.setTop (mkF m 2 #[.val (.ref b1), .val (.int p2), .val (.int (0 : Int32)), .val (.int (17 : Int32)), .unset, .unset] [(.int (p2.toInt8.toInt32))])) _
    refine XS.istore X0.here hx rfl (hb hby d11_2) rfl (l' := #[.val (.ref b1), .val (.int p2), .val (.int (0 : Int32)), .val (.int (17 : Int32)), .val (.int (p2.toInt8.toInt32)), .unset]) rfl ?_
    show Steps p.tables e below (s₁.setTop (mkF m 4 #[.val (.ref b1), .val (.int p2), .val (.int (0 : Int32)), .val (.int (17 : Int32)), .val (.int (p2.toInt8.toInt32)), .unset] [])) _
    refine XS.iloadN X0.here hx rfl (hb hby d11_4) rfl ?_
    show Steps p.tables e below (s₁.setTop (mkF m 5 #[.val (.ref b1), .val (.int p2), .val (.int (0 : Int32)), .val (.int (17 : Int32)), .val (.int (p2.toInt8.toInt32)), .unset] [(.int (0 : Int32))])) _
    refine XS.istore X0.here hx rfl (hb hby d11_5) rfl (l' := #[.val (.ref b1), .val (.int p2), .val (.int (0 : Int32)), .val (.int (17 : Int32)), .val (.int (p2.toInt8.toInt32)), .val (.int (0 : Int32))]) rfl ?_
    show Steps p.tables e below (s₁.setTop (mkF m 7 #[.val (.ref b1), .val (.int p2), .val (.int (0 : Int32)), .val (.int (17 : Int32)), .val (.int (p2.toInt8.toInt32)), .val (.int (0 : Int32))] [])) _
    refine tnI b1 p2 (p2.toInt8.toInt32) (0 : Int32) (1 : Int32) (35 : Int32) k X0 hx hZ hw hby hml hown e0 N0 Z0 V_b (by decide) ⟨by decide, by decide⟩ rfl vh0 (by decide) _ ?_
    show Steps p.tables e below (s₁.setTop (mkF m 7 #[.val (.ref b1), .val (.int p2), .val (.int (0 : Int32)), .val (.int (17 : Int32)), .val (.int (p2.toInt8.toInt32)), .val (.int (1 : Int32))] [])) _
    refine tnI b1 p2 (p2.toInt8.toInt32) (1 : Int32) (2 : Int32) (36 : Int32) k X0 hx hZ hw hby hml hown e0 N0 Z0 V_b (by decide) ⟨by decide, by decide⟩ rfl vh1 (by decide) _ ?_
    show Steps p.tables e below (s₁.setTop (mkF m 7 #[.val (.ref b1), .val (.int p2), .val (.int (0 : Int32)), .val (.int (17 : Int32)), .val (.int (p2.toInt8.toInt32)), .val (.int (2 : Int32))] [])) _
    refine tnI b1 p2 (p2.toInt8.toInt32) (2 : Int32) (3 : Int32) (38 : Int32) k X0 hx hZ hw hby hml hown e0 N0 Z0 V_b (by decide) ⟨by decide, by decide⟩ rfl vh2 (by decide) _ ?_
    show Steps p.tables e below (s₁.setTop (mkF m 7 #[.val (.ref b1), .val (.int p2), .val (.int (0 : Int32)), .val (.int (17 : Int32)), .val (.int (p2.toInt8.toInt32)), .val (.int (3 : Int32))] [])) _
    refine tnI b1 p2 (p2.toInt8.toInt32) (3 : Int32) (4 : Int32) (42 : Int32) k X0 hx hZ hw hby hml hown e0 N0 Z0 V_b (by decide) ⟨by decide, by decide⟩ rfl vh3 (by decide) _ ?_
    show Steps p.tables e below (s₁.setTop (mkF m 7 #[.val (.ref b1), .val (.int p2), .val (.int (0 : Int32)), .val (.int (17 : Int32)), .val (.int (p2.toInt8.toInt32)), .val (.int (4 : Int32))] [])) _
    refine tnI b1 p2 (p2.toInt8.toInt32) (4 : Int32) (5 : Int32) (43 : Int32) k X0 hx hZ hw hby hml hown e0 N0 Z0 V_b (by decide) ⟨by decide, by decide⟩ rfl vh4 (by decide) _ ?_
    show Steps p.tables e below (s₁.setTop (mkF m 7 #[.val (.ref b1), .val (.int p2), .val (.int (0 : Int32)), .val (.int (17 : Int32)), .val (.int (p2.toInt8.toInt32)), .val (.int (5 : Int32))] [])) _
    refine tnI b1 p2 (p2.toInt8.toInt32) (5 : Int32) (6 : Int32) (45 : Int32) k X0 hx hZ hw hby hml hown e0 N0 Z0 V_b (by decide) ⟨by decide, by decide⟩ rfl vh5 (by decide) _ ?_
    show Steps p.tables e below (s₁.setTop (mkF m 7 #[.val (.ref b1), .val (.int p2), .val (.int (0 : Int32)), .val (.int (17 : Int32)), .val (.int (p2.toInt8.toInt32)), .val (.int (6 : Int32))] [])) _
    refine tnI b1 p2 (p2.toInt8.toInt32) (6 : Int32) (7 : Int32) (46 : Int32) k X0 hx hZ hw hby hml hown e0 N0 Z0 V_b (by decide) ⟨by decide, by decide⟩ rfl vh6 (by decide) _ ?_
    show Steps p.tables e below (s₁.setTop (mkF m 7 #[.val (.ref b1), .val (.int p2), .val (.int (0 : Int32)), .val (.int (17 : Int32)), .val (.int (p2.toInt8.toInt32)), .val (.int (7 : Int32))] [])) _
    refine tnI b1 p2 (p2.toInt8.toInt32) (7 : Int32) (8 : Int32) (47 : Int32) k X0 hx hZ hw hby hml hown e0 N0 Z0 V_b (by decide) ⟨by decide, by decide⟩ rfl vh7 (by decide) _ ?_
    show Steps p.tables e below (s₁.setTop (mkF m 7 #[.val (.ref b1), .val (.int p2), .val (.int (0 : Int32)), .val (.int (17 : Int32)), .val (.int (p2.toInt8.toInt32)), .val (.int (8 : Int32))] [])) _
    refine tnI b1 p2 (p2.toInt8.toInt32) (8 : Int32) (9 : Int32) (58 : Int32) k X0 hx hZ hw hby hml hown e0 N0 Z0 V_b (by decide) ⟨by decide, by decide⟩ rfl vh8 (by decide) _ ?_
    show Steps p.tables e below (s₁.setTop (mkF m 7 #[.val (.ref b1), .val (.int p2), .val (.int (0 : Int32)), .val (.int (17 : Int32)), .val (.int (p2.toInt8.toInt32)), .val (.int (9 : Int32))] [])) _
    refine tnI b1 p2 (p2.toInt8.toInt32) (9 : Int32) (10 : Int32) (60 : Int32) k X0 hx hZ hw hby hml hown e0 N0 Z0 V_b (by decide) ⟨by decide, by decide⟩ rfl vh9 (by decide) _ ?_
    show Steps p.tables e below (s₁.setTop (mkF m 7 #[.val (.ref b1), .val (.int p2), .val (.int (0 : Int32)), .val (.int (17 : Int32)), .val (.int (p2.toInt8.toInt32)), .val (.int (10 : Int32))] [])) _
    refine XS.iload X0.here hx rfl (hb hby d11_7) rfl ?_
    show Steps p.tables e below (s₁.setTop (mkF m 9 #[.val (.ref b1), .val (.int p2), .val (.int (0 : Int32)), .val (.int (17 : Int32)), .val (.int (p2.toInt8.toInt32)), .val (.int (10 : Int32))] [(.int (10 : Int32))])) _
    refine XS.iloadN X0.here hx rfl (hb hby d11_9) rfl ?_
    show Steps p.tables e below (s₁.setTop (mkF m 10 #[.val (.ref b1), .val (.int p2), .val (.int (0 : Int32)), .val (.int (17 : Int32)), .val (.int (p2.toInt8.toInt32)), .val (.int (10 : Int32))] [(.int (17 : Int32)), (.int (10 : Int32))])) _
    refine XS.icmpNo X0.here hx rfl (hb hby d11_10) rfl (tlt ((by decide) : (10 : Int32) < (17 : Int32))).2.1 ?_
    show Steps p.tables e below (s₁.setTop (mkF m 13 #[.val (.ref b1), .val (.int p2), .val (.int (0 : Int32)), .val (.int (17 : Int32)), .val (.int (p2.toInt8.toInt32)), .val (.int (10 : Int32))] [])) _
    refine XS.aloadN X0.here hx rfl (hb hby d11_13) rfl rfl ?_
    show Steps p.tables e below (s₁.setTop (mkF m 14 #[.val (.ref b1), .val (.int p2), .val (.int (0 : Int32)), .val (.int (17 : Int32)), .val (.int (p2.toInt8.toInt32)), .val (.int (10 : Int32))] [(.ref b1)])) _
    refine XS.iload X0.here hx rfl (hb hby d11_14) rfl ?_
    show Steps p.tables e below (s₁.setTop (mkF m 16 #[.val (.ref b1), .val (.int p2), .val (.int (0 : Int32)), .val (.int (17 : Int32)), .val (.int (p2.toInt8.toInt32)), .val (.int (10 : Int32))] [(.int (10 : Int32)), (.ref b1)])) _
    refine X0.baloadBytes hx (j := (10 : Int32)) (v := (.int (61 : Int32))) (by rw [e0]; exact Ar1.1) (State.isArrayOf_alike hZ.alike Ar1.2.1) Ar1.2.2 hin1 hat1 (g := (mkF m 16 #[.val (.ref b1), .val (.int p2), .val (.int (0 : Int32)), .val (.int (17 : Int32)), .val (.int (p2.toInt8.toInt32)), .val (.int (10 : Int32))] [(.int (10 : Int32)), (.ref b1)])) rfl rfl (hb hby d11_16) _ ?_
    show Steps p.tables e below (s₁.setTop (mkF m 17 #[.val (.ref b1), .val (.int p2), .val (.int (0 : Int32)), .val (.int (17 : Int32)), .val (.int (p2.toInt8.toInt32)), .val (.int (10 : Int32))] [(.int (61 : Int32))])) _
    refine XS.iload X0.here hx rfl (hb hby d11_17) rfl ?_
    show Steps p.tables e below (s₁.setTop (mkF m 19 #[.val (.ref b1), .val (.int p2), .val (.int (0 : Int32)), .val (.int (17 : Int32)), .val (.int (p2.toInt8.toInt32)), .val (.int (10 : Int32))] [(.int (p2.toInt8.toInt32)), (.int (61 : Int32))])) _
    refine XS.icmpNo X0.here hx rfl (hb hby d11_19) rfl (teq (vh10 : (61 : Int32) = (p2.toInt8.toInt32))).2 ?_
    show Steps p.tables e below (s₁.setTop (mkF m 22 #[.val (.ref b1), .val (.int p2), .val (.int (0 : Int32)), .val (.int (17 : Int32)), .val (.int (p2.toInt8.toInt32)), .val (.int (10 : Int32))] [])) _
    refine XS.iload X0.here hx rfl (hb hby d11_22) rfl ?_
    show Steps p.tables e below (s₁.setTop (mkF m 24 #[.val (.ref b1), .val (.int p2), .val (.int (0 : Int32)), .val (.int (17 : Int32)), .val (.int (p2.toInt8.toInt32)), .val (.int (10 : Int32))] [(.int (10 : Int32))])) _
    exact retI X0 hx Bd.returns (hb hby d11_24) hr
  · show QI Z (own_f (p2.toInt8.toInt32)) h0 n0 _ s₁.heap _
    rw [e0]
    exact ⟨congrArg (fun z => some (Value.int z)) (Eq.symm ((if_neg vh0).trans ((if_neg vh1).trans ((if_neg vh2).trans ((if_neg vh3).trans ((if_neg vh4).trans ((if_neg vh5).trans ((if_neg vh6).trans ((if_neg vh7).trans ((if_neg vh8).trans ((if_neg vh9).trans (if_pos vh10)))))))))))), N0, rfl⟩
set_option maxRecDepth 65536 in
set_option maxHeartbeats 40000000 in
theorem rmIc_11 (l : Launch) (Z : State) (a0 : Array Value) (hw : ∀ d ∈ tables_1, d.before a0 Z = true) (ws : List Jvm.Cond) (b1 : Addr) (p2 : Int32) (k : ClassId) (h0 : Heap) (n0 : Nat) (Z0 : n0 ≤ h0.size) (V_b : Arv Z h0 b1 k .byte (17 : Int32) [(.int (35 : Int32)), (.int (36 : Int32)), (.int (38 : Int32)), (.int (42 : Int32)), (.int (43 : Int32)), (.int (45 : Int32)), (.int (46 : Int32)), (.int (47 : Int32)), (.int (58 : Int32)), (.int (60 : Int32)), (.int (61 : Int32)), (.int (62 : Int32)), (.int (63 : Int32)), (.int (64 : Int32)), (.int (94 : Int32)), (.int (126 : Int32)), (.int (92 : Int32))] (.int (0 : Int32))) (vh0 : ¬ ((35 : Int32) = (p2.toInt8.toInt32))) (vh1 : ¬ ((36 : Int32) = (p2.toInt8.toInt32))) (vh2 : ¬ ((38 : Int32) = (p2.toInt8.toInt32))) (vh3 : ¬ ((42 : Int32) = (p2.toInt8.toInt32))) (vh4 : ¬ ((43 : Int32) = (p2.toInt8.toInt32))) (vh5 : ¬ ((45 : Int32) = (p2.toInt8.toInt32))) (vh6 : ¬ ((46 : Int32) = (p2.toInt8.toInt32))) (vh7 : ¬ ((47 : Int32) = (p2.toInt8.toInt32))) (vh8 : ¬ ((58 : Int32) = (p2.toInt8.toInt32))) (vh9 : ¬ ((60 : Int32) = (p2.toInt8.toInt32))) (vh10 : ¬ ((61 : Int32) = (p2.toInt8.toInt32))) (vh11 : (62 : Int32) = (p2.toInt8.toInt32)) :
    MetFree l (⟨"java/lang/StringLatin1", "indexOfChar", "([BIII)I"⟩ : MethodName) (head1 (Jvm.Cond.code (⟨"java/lang/StringLatin1", "indexOfChar", "([BIII)I"⟩ : MethodName) jdk_43_method_23_code 6 (some .int) :: ws) ({ frames := 0, cells := 0, slots := 0, locals := 0 } : Room)) (fun a U => a = #[(.ref b1), (.int p2), (.int (0 : Int32)), (.int (17 : Int32))] ∧ Z.Warmed39 U.vm ∧ U.heap = h0) (fun _ _ _ _ _ => True) (fun _ U o U' => ∃ v L, o = .returned v ∧ QI Z (own_f (p2.toInt8.toInt32)) h0 n0 v U'.heap L ∧ FrameEnd U o U' L ({ frames := 0, cells := 0, slots := 0, locals := 0 } : Room).cells ({ frames := 0, cells := 0, slots := 0, locals := 0 } : Room).slots) := by
  refine MetFree.of_bodySF (plainFor_of_name pn_11) hisR ?_
  intro p e s m args below meth c s₁ Bd hml0 hP hK
  obtain ⟨rfl, hZ, hh⟩ := hP
  have hx := Bd.exec
  have hby := Bd.bytes
  have hml : c.maxLocals = 6 := hml0
  have hown : s.vm.findClass "java/lang/StringLatin1" = some m.cls := findClass_of_methodNamed Bd.named
  have hnm := (name_of_methodNamed Bd.named Bd.method).1
  have X0 : Stand p l e ({ frames := 0, cells := 0, slots := 0, locals := 0 } : Room) s m #[(.ref b1), (.int p2), (.int (0 : Int32)), (.int (17 : Int32))] below meth c s₁ [] 0 0 := Stand.of_body Bd
  have e0 : s₁.heap = h0 := by rw [← hh, Bd.state]; rfl
  have N0 := Fr.nil n0
  have pre0 : ∀ tz, Steps p.tables e below (s₁.setTop (mkF m 0 #[.val (.ref b1), .val (.int p2), .val (.int (0 : Int32)), .val (.int (17 : Int32)), .unset, .unset] [])) tz → Steps p.tables e below (s₁.setTop (entryFrame m #[(.ref b1), (.int p2), (.int (0 : Int32)), (.int (17 : Int32))] 6)) tz := fun tz kz => castTop (ef_11 m b1 p2 (0 : Int32) (17 : Int32)) kz
  obtain ⟨cl1, Ar1, q1, S1, M1, H1, G1⟩ := id V_b
  have hin1 : ¬ ((11 : Int32) < 0 ∨ cl1.slots.size ≤ ((11 : Int32)).toNatClampNeg) := inb_of S1 ⟨by decide, by decide⟩
  have hat1 : cl1.slots[((11 : Int32)).toNatClampNeg]? = some (.int (62 : Int32)) := Has.at H1 hin1 rfl
  obtain ⟨fs, hr, hrun, hended, hW, hsame⟩ := X0.leave (v := some (.int (11 : Int32))) (fun h => by rw [Bd.returns] at h; cases h)
  refine ⟨_, _, pre0 _ ?_, hrun, hended, _, _, rfl, ?_, ⟨_, rfl⟩, hW, hsame.mono (by decide) (by decide)⟩
  · show Steps p.tables e below (s₁.setTop (mkF m 0 #[.val (.ref b1), .val (.int p2), .val (.int (0 : Int32)), .val (.int (17 : Int32)), .unset, .unset] [])) _
    refine XS.iloadN X0.here hx rfl (hb hby d11_0) rfl ?_
    show Steps p.tables e below (s₁.setTop (mkF m 1 #[.val (.ref b1), .val (.int p2), .val (.int (0 : Int32)), .val (.int (17 : Int32)), .unset, .unset] [(.int p2)])) _
    refine XS.i2b X0.here hx rfl (hb hby d11_1) rfl ?_
    show Steps p.tables e below (s₁.setTop (mkF m 2 #[.val (.ref b1), .val (.int p2), .val (.int (0 : Int32)), .val (.int (17 : Int32)), .unset, .unset] [(.int (p2.toInt8.toInt32))])) _
    refine XS.istore X0.here hx rfl (hb hby d11_2) rfl (l' := #[.val (.ref b1), .val (.int p2), .val (.int (0 : Int32)), .val (.int (17 : Int32)), .val (.int (p2.toInt8.toInt32)), .unset]) rfl ?_
    show Steps p.tables e below (s₁.setTop (mkF m 4 #[.val (.ref b1), .val (.int p2), .val (.int (0 : Int32)), .val (.int (17 : Int32)), .val (.int (p2.toInt8.toInt32)), .unset] [])) _
    refine XS.iloadN X0.here hx rfl (hb hby d11_4) rfl ?_
    show Steps p.tables e below (s₁.setTop (mkF m 5 #[.val (.ref b1), .val (.int p2), .val (.int (0 : Int32)), .val (.int (17 : Int32)), .val (.int (p2.toInt8.toInt32)), .unset] [(.int (0 : Int32))])) _
    refine XS.istore X0.here hx rfl (hb hby d11_5) rfl (l' := #[.val (.ref b1), .val (.int p2), .val (.int (0 : Int32)), .val (.int (17 : Int32)), .val (.int (p2.toInt8.toInt32)), .val (.int (0 : Int32))]) rfl ?_
    show Steps p.tables e below (s₁.setTop (mkF m 7 #[.val (.ref b1), .val (.int p2), .val (.int (0 : Int32)), .val (.int (17 : Int32)), .val (.int (p2.toInt8.toInt32)), .val (.int (0 : Int32))] [])) _
    refine tnI b1 p2 (p2.toInt8.toInt32) (0 : Int32) (1 : Int32) (35 : Int32) k X0 hx hZ hw hby hml hown e0 N0 Z0 V_b (by decide) ⟨by decide, by decide⟩ rfl vh0 (by decide) _ ?_
    show Steps p.tables e below (s₁.setTop (mkF m 7 #[.val (.ref b1), .val (.int p2), .val (.int (0 : Int32)), .val (.int (17 : Int32)), .val (.int (p2.toInt8.toInt32)), .val (.int (1 : Int32))] [])) _
    refine tnI b1 p2 (p2.toInt8.toInt32) (1 : Int32) (2 : Int32) (36 : Int32) k X0 hx hZ hw hby hml hown e0 N0 Z0 V_b (by decide) ⟨by decide, by decide⟩ rfl vh1 (by decide) _ ?_
    show Steps p.tables e below (s₁.setTop (mkF m 7 #[.val (.ref b1), .val (.int p2), .val (.int (0 : Int32)), .val (.int (17 : Int32)), .val (.int (p2.toInt8.toInt32)), .val (.int (2 : Int32))] [])) _
    refine tnI b1 p2 (p2.toInt8.toInt32) (2 : Int32) (3 : Int32) (38 : Int32) k X0 hx hZ hw hby hml hown e0 N0 Z0 V_b (by decide) ⟨by decide, by decide⟩ rfl vh2 (by decide) _ ?_
    show Steps p.tables e below (s₁.setTop (mkF m 7 #[.val (.ref b1), .val (.int p2), .val (.int (0 : Int32)), .val (.int (17 : Int32)), .val (.int (p2.toInt8.toInt32)), .val (.int (3 : Int32))] [])) _
    refine tnI b1 p2 (p2.toInt8.toInt32) (3 : Int32) (4 : Int32) (42 : Int32) k X0 hx hZ hw hby hml hown e0 N0 Z0 V_b (by decide) ⟨by decide, by decide⟩ rfl vh3 (by decide) _ ?_
    show Steps p.tables e below (s₁.setTop (mkF m 7 #[.val (.ref b1), .val (.int p2), .val (.int (0 : Int32)), .val (.int (17 : Int32)), .val (.int (p2.toInt8.toInt32)), .val (.int (4 : Int32))] [])) _
    refine tnI b1 p2 (p2.toInt8.toInt32) (4 : Int32) (5 : Int32) (43 : Int32) k X0 hx hZ hw hby hml hown e0 N0 Z0 V_b (by decide) ⟨by decide, by decide⟩ rfl vh4 (by decide) _ ?_
    show Steps p.tables e below (s₁.setTop (mkF m 7 #[.val (.ref b1), .val (.int p2), .val (.int (0 : Int32)), .val (.int (17 : Int32)), .val (.int (p2.toInt8.toInt32)), .val (.int (5 : Int32))] [])) _
    refine tnI b1 p2 (p2.toInt8.toInt32) (5 : Int32) (6 : Int32) (45 : Int32) k X0 hx hZ hw hby hml hown e0 N0 Z0 V_b (by decide) ⟨by decide, by decide⟩ rfl vh5 (by decide) _ ?_
    show Steps p.tables e below (s₁.setTop (mkF m 7 #[.val (.ref b1), .val (.int p2), .val (.int (0 : Int32)), .val (.int (17 : Int32)), .val (.int (p2.toInt8.toInt32)), .val (.int (6 : Int32))] [])) _
    refine tnI b1 p2 (p2.toInt8.toInt32) (6 : Int32) (7 : Int32) (46 : Int32) k X0 hx hZ hw hby hml hown e0 N0 Z0 V_b (by decide) ⟨by decide, by decide⟩ rfl vh6 (by decide) _ ?_
    show Steps p.tables e below (s₁.setTop (mkF m 7 #[.val (.ref b1), .val (.int p2), .val (.int (0 : Int32)), .val (.int (17 : Int32)), .val (.int (p2.toInt8.toInt32)), .val (.int (7 : Int32))] [])) _
    refine tnI b1 p2 (p2.toInt8.toInt32) (7 : Int32) (8 : Int32) (47 : Int32) k X0 hx hZ hw hby hml hown e0 N0 Z0 V_b (by decide) ⟨by decide, by decide⟩ rfl vh7 (by decide) _ ?_
    show Steps p.tables e below (s₁.setTop (mkF m 7 #[.val (.ref b1), .val (.int p2), .val (.int (0 : Int32)), .val (.int (17 : Int32)), .val (.int (p2.toInt8.toInt32)), .val (.int (8 : Int32))] [])) _
    refine tnI b1 p2 (p2.toInt8.toInt32) (8 : Int32) (9 : Int32) (58 : Int32) k X0 hx hZ hw hby hml hown e0 N0 Z0 V_b (by decide) ⟨by decide, by decide⟩ rfl vh8 (by decide) _ ?_
    show Steps p.tables e below (s₁.setTop (mkF m 7 #[.val (.ref b1), .val (.int p2), .val (.int (0 : Int32)), .val (.int (17 : Int32)), .val (.int (p2.toInt8.toInt32)), .val (.int (9 : Int32))] [])) _
    refine tnI b1 p2 (p2.toInt8.toInt32) (9 : Int32) (10 : Int32) (60 : Int32) k X0 hx hZ hw hby hml hown e0 N0 Z0 V_b (by decide) ⟨by decide, by decide⟩ rfl vh9 (by decide) _ ?_
    show Steps p.tables e below (s₁.setTop (mkF m 7 #[.val (.ref b1), .val (.int p2), .val (.int (0 : Int32)), .val (.int (17 : Int32)), .val (.int (p2.toInt8.toInt32)), .val (.int (10 : Int32))] [])) _
    refine tnI b1 p2 (p2.toInt8.toInt32) (10 : Int32) (11 : Int32) (61 : Int32) k X0 hx hZ hw hby hml hown e0 N0 Z0 V_b (by decide) ⟨by decide, by decide⟩ rfl vh10 (by decide) _ ?_
    show Steps p.tables e below (s₁.setTop (mkF m 7 #[.val (.ref b1), .val (.int p2), .val (.int (0 : Int32)), .val (.int (17 : Int32)), .val (.int (p2.toInt8.toInt32)), .val (.int (11 : Int32))] [])) _
    refine XS.iload X0.here hx rfl (hb hby d11_7) rfl ?_
    show Steps p.tables e below (s₁.setTop (mkF m 9 #[.val (.ref b1), .val (.int p2), .val (.int (0 : Int32)), .val (.int (17 : Int32)), .val (.int (p2.toInt8.toInt32)), .val (.int (11 : Int32))] [(.int (11 : Int32))])) _
    refine XS.iloadN X0.here hx rfl (hb hby d11_9) rfl ?_
    show Steps p.tables e below (s₁.setTop (mkF m 10 #[.val (.ref b1), .val (.int p2), .val (.int (0 : Int32)), .val (.int (17 : Int32)), .val (.int (p2.toInt8.toInt32)), .val (.int (11 : Int32))] [(.int (17 : Int32)), (.int (11 : Int32))])) _
    refine XS.icmpNo X0.here hx rfl (hb hby d11_10) rfl (tlt ((by decide) : (11 : Int32) < (17 : Int32))).2.1 ?_
    show Steps p.tables e below (s₁.setTop (mkF m 13 #[.val (.ref b1), .val (.int p2), .val (.int (0 : Int32)), .val (.int (17 : Int32)), .val (.int (p2.toInt8.toInt32)), .val (.int (11 : Int32))] [])) _
    refine XS.aloadN X0.here hx rfl (hb hby d11_13) rfl rfl ?_
    show Steps p.tables e below (s₁.setTop (mkF m 14 #[.val (.ref b1), .val (.int p2), .val (.int (0 : Int32)), .val (.int (17 : Int32)), .val (.int (p2.toInt8.toInt32)), .val (.int (11 : Int32))] [(.ref b1)])) _
    refine XS.iload X0.here hx rfl (hb hby d11_14) rfl ?_
    show Steps p.tables e below (s₁.setTop (mkF m 16 #[.val (.ref b1), .val (.int p2), .val (.int (0 : Int32)), .val (.int (17 : Int32)), .val (.int (p2.toInt8.toInt32)), .val (.int (11 : Int32))] [(.int (11 : Int32)), (.ref b1)])) _
    refine X0.baloadBytes hx (j := (11 : Int32)) (v := (.int (62 : Int32))) (by rw [e0]; exact Ar1.1) (State.isArrayOf_alike hZ.alike Ar1.2.1) Ar1.2.2 hin1 hat1 (g := (mkF m 16 #[.val (.ref b1), .val (.int p2), .val (.int (0 : Int32)), .val (.int (17 : Int32)), .val (.int (p2.toInt8.toInt32)), .val (.int (11 : Int32))] [(.int (11 : Int32)), (.ref b1)])) rfl rfl (hb hby d11_16) _ ?_
    show Steps p.tables e below (s₁.setTop (mkF m 17 #[.val (.ref b1), .val (.int p2), .val (.int (0 : Int32)), .val (.int (17 : Int32)), .val (.int (p2.toInt8.toInt32)), .val (.int (11 : Int32))] [(.int (62 : Int32))])) _
    refine XS.iload X0.here hx rfl (hb hby d11_17) rfl ?_
    show Steps p.tables e below (s₁.setTop (mkF m 19 #[.val (.ref b1), .val (.int p2), .val (.int (0 : Int32)), .val (.int (17 : Int32)), .val (.int (p2.toInt8.toInt32)), .val (.int (11 : Int32))] [(.int (p2.toInt8.toInt32)), (.int (62 : Int32))])) _
    refine XS.icmpNo X0.here hx rfl (hb hby d11_19) rfl (teq (vh11 : (62 : Int32) = (p2.toInt8.toInt32))).2 ?_
    show Steps p.tables e below (s₁.setTop (mkF m 22 #[.val (.ref b1), .val (.int p2), .val (.int (0 : Int32)), .val (.int (17 : Int32)), .val (.int (p2.toInt8.toInt32)), .val (.int (11 : Int32))] [])) _
    refine XS.iload X0.here hx rfl (hb hby d11_22) rfl ?_
    show Steps p.tables e below (s₁.setTop (mkF m 24 #[.val (.ref b1), .val (.int p2), .val (.int (0 : Int32)), .val (.int (17 : Int32)), .val (.int (p2.toInt8.toInt32)), .val (.int (11 : Int32))] [(.int (11 : Int32))])) _
    exact retI X0 hx Bd.returns (hb hby d11_24) hr
  · show QI Z (own_f (p2.toInt8.toInt32)) h0 n0 _ s₁.heap _
    rw [e0]
    exact ⟨congrArg (fun z => some (Value.int z)) (Eq.symm ((if_neg vh0).trans ((if_neg vh1).trans ((if_neg vh2).trans ((if_neg vh3).trans ((if_neg vh4).trans ((if_neg vh5).trans ((if_neg vh6).trans ((if_neg vh7).trans ((if_neg vh8).trans ((if_neg vh9).trans ((if_neg vh10).trans (if_pos vh11))))))))))))), N0, rfl⟩
set_option maxRecDepth 65536 in
set_option maxHeartbeats 40000000 in
theorem rmIc_12 (l : Launch) (Z : State) (a0 : Array Value) (hw : ∀ d ∈ tables_1, d.before a0 Z = true) (ws : List Jvm.Cond) (b1 : Addr) (p2 : Int32) (k : ClassId) (h0 : Heap) (n0 : Nat) (Z0 : n0 ≤ h0.size) (V_b : Arv Z h0 b1 k .byte (17 : Int32) [(.int (35 : Int32)), (.int (36 : Int32)), (.int (38 : Int32)), (.int (42 : Int32)), (.int (43 : Int32)), (.int (45 : Int32)), (.int (46 : Int32)), (.int (47 : Int32)), (.int (58 : Int32)), (.int (60 : Int32)), (.int (61 : Int32)), (.int (62 : Int32)), (.int (63 : Int32)), (.int (64 : Int32)), (.int (94 : Int32)), (.int (126 : Int32)), (.int (92 : Int32))] (.int (0 : Int32))) (vh0 : ¬ ((35 : Int32) = (p2.toInt8.toInt32))) (vh1 : ¬ ((36 : Int32) = (p2.toInt8.toInt32))) (vh2 : ¬ ((38 : Int32) = (p2.toInt8.toInt32))) (vh3 : ¬ ((42 : Int32) = (p2.toInt8.toInt32))) (vh4 : ¬ ((43 : Int32) = (p2.toInt8.toInt32))) (vh5 : ¬ ((45 : Int32) = (p2.toInt8.toInt32))) (vh6 : ¬ ((46 : Int32) = (p2.toInt8.toInt32))) (vh7 : ¬ ((47 : Int32) = (p2.toInt8.toInt32))) (vh8 : ¬ ((58 : Int32) = (p2.toInt8.toInt32))) (vh9 : ¬ ((60 : Int32) = (p2.toInt8.toInt32))) (vh10 : ¬ ((61 : Int32) = (p2.toInt8.toInt32))) (vh11 : ¬ ((62 : Int32) = (p2.toInt8.toInt32))) (vh12 : (63 : Int32) = (p2.toInt8.toInt32)) :
    MetFree l (⟨"java/lang/StringLatin1", "indexOfChar", "([BIII)I"⟩ : MethodName) (head1 (Jvm.Cond.code (⟨"java/lang/StringLatin1", "indexOfChar", "([BIII)I"⟩ : MethodName) jdk_43_method_23_code 6 (some .int) :: ws) ({ frames := 0, cells := 0, slots := 0, locals := 0 } : Room)) (fun a U => a = #[(.ref b1), (.int p2), (.int (0 : Int32)), (.int (17 : Int32))] ∧ Z.Warmed39 U.vm ∧ U.heap = h0) (fun _ _ _ _ _ => True) (fun _ U o U' => ∃ v L, o = .returned v ∧ QI Z (own_f (p2.toInt8.toInt32)) h0 n0 v U'.heap L ∧ FrameEnd U o U' L ({ frames := 0, cells := 0, slots := 0, locals := 0 } : Room).cells ({ frames := 0, cells := 0, slots := 0, locals := 0 } : Room).slots) := by
  refine MetFree.of_bodySF (plainFor_of_name pn_11) hisR ?_
  intro p e s m args below meth c s₁ Bd hml0 hP hK
  obtain ⟨rfl, hZ, hh⟩ := hP
  have hx := Bd.exec
  have hby := Bd.bytes
  have hml : c.maxLocals = 6 := hml0
  have hown : s.vm.findClass "java/lang/StringLatin1" = some m.cls := findClass_of_methodNamed Bd.named
  have hnm := (name_of_methodNamed Bd.named Bd.method).1
  have X0 : Stand p l e ({ frames := 0, cells := 0, slots := 0, locals := 0 } : Room) s m #[(.ref b1), (.int p2), (.int (0 : Int32)), (.int (17 : Int32))] below meth c s₁ [] 0 0 := Stand.of_body Bd
  have e0 : s₁.heap = h0 := by rw [← hh, Bd.state]; rfl
  have N0 := Fr.nil n0
  have pre0 : ∀ tz, Steps p.tables e below (s₁.setTop (mkF m 0 #[.val (.ref b1), .val (.int p2), .val (.int (0 : Int32)), .val (.int (17 : Int32)), .unset, .unset] [])) tz → Steps p.tables e below (s₁.setTop (entryFrame m #[(.ref b1), (.int p2), (.int (0 : Int32)), (.int (17 : Int32))] 6)) tz := fun tz kz => castTop (ef_11 m b1 p2 (0 : Int32) (17 : Int32)) kz
  obtain ⟨cl1, Ar1, q1, S1, M1, H1, G1⟩ := id V_b
  have hin1 : ¬ ((12 : Int32) < 0 ∨ cl1.slots.size ≤ ((12 : Int32)).toNatClampNeg) := inb_of S1 ⟨by decide, by decide⟩
  have hat1 : cl1.slots[((12 : Int32)).toNatClampNeg]? = some (.int (63 : Int32)) := Has.at H1 hin1 rfl
  obtain ⟨fs, hr, hrun, hended, hW, hsame⟩ := X0.leave (v := some (.int (12 : Int32))) (fun h => by rw [Bd.returns] at h; cases h)
  refine ⟨_, _, pre0 _ ?_, hrun, hended, _, _, rfl, ?_, ⟨_, rfl⟩, hW, hsame.mono (by decide) (by decide)⟩
  · show Steps p.tables e below (s₁.setTop (mkF m 0 #[.val (.ref b1), .val (.int p2), .val (.int (0 : Int32)), .val (.int (17 : Int32)), .unset, .unset] [])) _
    refine XS.iloadN X0.here hx rfl (hb hby d11_0) rfl ?_
    show Steps p.tables e below (s₁.setTop (mkF m 1 #[.val (.ref b1), .val (.int p2), .val (.int (0 : Int32)), .val (.int (17 : Int32)), .unset, .unset] [(.int p2)])) _
    refine XS.i2b X0.here hx rfl (hb hby d11_1) rfl ?_
    show Steps p.tables e below (s₁.setTop (mkF m 2 #[.val (.ref b1), .val (.int p2), .val (.int (0 : Int32)), .val (.int (17 : Int32)), .unset, .unset] [(.int (p2.toInt8.toInt32))])) _
    refine XS.istore X0.here hx rfl (hb hby d11_2) rfl (l' := #[.val (.ref b1), .val (.int p2), .val (.int (0 : Int32)), .val (.int (17 : Int32)), .val (.int (p2.toInt8.toInt32)), .unset]) rfl ?_
    show Steps p.tables e below (s₁.setTop (mkF m 4 #[.val (.ref b1), .val (.int p2), .val (.int (0 : Int32)), .val (.int (17 : Int32)), .val (.int (p2.toInt8.toInt32)), .unset] [])) _
    refine XS.iloadN X0.here hx rfl (hb hby d11_4) rfl ?_
    show Steps p.tables e below (s₁.setTop (mkF m 5 #[.val (.ref b1), .val (.int p2), .val (.int (0 : Int32)), .val (.int (17 : Int32)), .val (.int (p2.toInt8.toInt32)), .unset] [(.int (0 : Int32))])) _
    refine XS.istore X0.here hx rfl (hb hby d11_5) rfl (l' := #[.val (.ref b1), .val (.int p2), .val (.int (0 : Int32)), .val (.int (17 : Int32)), .val (.int (p2.toInt8.toInt32)), .val (.int (0 : Int32))]) rfl ?_
    show Steps p.tables e below (s₁.setTop (mkF m 7 #[.val (.ref b1), .val (.int p2), .val (.int (0 : Int32)), .val (.int (17 : Int32)), .val (.int (p2.toInt8.toInt32)), .val (.int (0 : Int32))] [])) _
    refine tnI b1 p2 (p2.toInt8.toInt32) (0 : Int32) (1 : Int32) (35 : Int32) k X0 hx hZ hw hby hml hown e0 N0 Z0 V_b (by decide) ⟨by decide, by decide⟩ rfl vh0 (by decide) _ ?_
    show Steps p.tables e below (s₁.setTop (mkF m 7 #[.val (.ref b1), .val (.int p2), .val (.int (0 : Int32)), .val (.int (17 : Int32)), .val (.int (p2.toInt8.toInt32)), .val (.int (1 : Int32))] [])) _
    refine tnI b1 p2 (p2.toInt8.toInt32) (1 : Int32) (2 : Int32) (36 : Int32) k X0 hx hZ hw hby hml hown e0 N0 Z0 V_b (by decide) ⟨by decide, by decide⟩ rfl vh1 (by decide) _ ?_
    show Steps p.tables e below (s₁.setTop (mkF m 7 #[.val (.ref b1), .val (.int p2), .val (.int (0 : Int32)), .val (.int (17 : Int32)), .val (.int (p2.toInt8.toInt32)), .val (.int (2 : Int32))] [])) _
    refine tnI b1 p2 (p2.toInt8.toInt32) (2 : Int32) (3 : Int32) (38 : Int32) k X0 hx hZ hw hby hml hown e0 N0 Z0 V_b (by decide) ⟨by decide, by decide⟩ rfl vh2 (by decide) _ ?_
    show Steps p.tables e below (s₁.setTop (mkF m 7 #[.val (.ref b1), .val (.int p2), .val (.int (0 : Int32)), .val (.int (17 : Int32)), .val (.int (p2.toInt8.toInt32)), .val (.int (3 : Int32))] [])) _
    refine tnI b1 p2 (p2.toInt8.toInt32) (3 : Int32) (4 : Int32) (42 : Int32) k X0 hx hZ hw hby hml hown e0 N0 Z0 V_b (by decide) ⟨by decide, by decide⟩ rfl vh3 (by decide) _ ?_
    show Steps p.tables e below (s₁.setTop (mkF m 7 #[.val (.ref b1), .val (.int p2), .val (.int (0 : Int32)), .val (.int (17 : Int32)), .val (.int (p2.toInt8.toInt32)), .val (.int (4 : Int32))] [])) _
    refine tnI b1 p2 (p2.toInt8.toInt32) (4 : Int32) (5 : Int32) (43 : Int32) k X0 hx hZ hw hby hml hown e0 N0 Z0 V_b (by decide) ⟨by decide, by decide⟩ rfl vh4 (by decide) _ ?_
    show Steps p.tables e below (s₁.setTop (mkF m 7 #[.val (.ref b1), .val (.int p2), .val (.int (0 : Int32)), .val (.int (17 : Int32)), .val (.int (p2.toInt8.toInt32)), .val (.int (5 : Int32))] [])) _
    refine tnI b1 p2 (p2.toInt8.toInt32) (5 : Int32) (6 : Int32) (45 : Int32) k X0 hx hZ hw hby hml hown e0 N0 Z0 V_b (by decide) ⟨by decide, by decide⟩ rfl vh5 (by decide) _ ?_
    show Steps p.tables e below (s₁.setTop (mkF m 7 #[.val (.ref b1), .val (.int p2), .val (.int (0 : Int32)), .val (.int (17 : Int32)), .val (.int (p2.toInt8.toInt32)), .val (.int (6 : Int32))] [])) _
    refine tnI b1 p2 (p2.toInt8.toInt32) (6 : Int32) (7 : Int32) (46 : Int32) k X0 hx hZ hw hby hml hown e0 N0 Z0 V_b (by decide) ⟨by decide, by decide⟩ rfl vh6 (by decide) _ ?_
    show Steps p.tables e below (s₁.setTop (mkF m 7 #[.val (.ref b1), .val (.int p2), .val (.int (0 : Int32)), .val (.int (17 : Int32)), .val (.int (p2.toInt8.toInt32)), .val (.int (7 : Int32))] [])) _
    refine tnI b1 p2 (p2.toInt8.toInt32) (7 : Int32) (8 : Int32) (47 : Int32) k X0 hx hZ hw hby hml hown e0 N0 Z0 V_b (by decide) ⟨by decide, by decide⟩ rfl vh7 (by decide) _ ?_
    show Steps p.tables e below (s₁.setTop (mkF m 7 #[.val (.ref b1), .val (.int p2), .val (.int (0 : Int32)), .val (.int (17 : Int32)), .val (.int (p2.toInt8.toInt32)), .val (.int (8 : Int32))] [])) _
    refine tnI b1 p2 (p2.toInt8.toInt32) (8 : Int32) (9 : Int32) (58 : Int32) k X0 hx hZ hw hby hml hown e0 N0 Z0 V_b (by decide) ⟨by decide, by decide⟩ rfl vh8 (by decide) _ ?_
    show Steps p.tables e below (s₁.setTop (mkF m 7 #[.val (.ref b1), .val (.int p2), .val (.int (0 : Int32)), .val (.int (17 : Int32)), .val (.int (p2.toInt8.toInt32)), .val (.int (9 : Int32))] [])) _
    refine tnI b1 p2 (p2.toInt8.toInt32) (9 : Int32) (10 : Int32) (60 : Int32) k X0 hx hZ hw hby hml hown e0 N0 Z0 V_b (by decide) ⟨by decide, by decide⟩ rfl vh9 (by decide) _ ?_
    show Steps p.tables e below (s₁.setTop (mkF m 7 #[.val (.ref b1), .val (.int p2), .val (.int (0 : Int32)), .val (.int (17 : Int32)), .val (.int (p2.toInt8.toInt32)), .val (.int (10 : Int32))] [])) _
    refine tnI b1 p2 (p2.toInt8.toInt32) (10 : Int32) (11 : Int32) (61 : Int32) k X0 hx hZ hw hby hml hown e0 N0 Z0 V_b (by decide) ⟨by decide, by decide⟩ rfl vh10 (by decide) _ ?_
    show Steps p.tables e below (s₁.setTop (mkF m 7 #[.val (.ref b1), .val (.int p2), .val (.int (0 : Int32)), .val (.int (17 : Int32)), .val (.int (p2.toInt8.toInt32)), .val (.int (11 : Int32))] [])) _
    refine tnI b1 p2 (p2.toInt8.toInt32) (11 : Int32) (12 : Int32) (62 : Int32) k X0 hx hZ hw hby hml hown e0 N0 Z0 V_b (by decide) ⟨by decide, by decide⟩ rfl vh11 (by decide) _ ?_
    show Steps p.tables e below (s₁.setTop (mkF m 7 #[.val (.ref b1), .val (.int p2), .val (.int (0 : Int32)), .val (.int (17 : Int32)), .val (.int (p2.toInt8.toInt32)), .val (.int (12 : Int32))] [])) _
    refine XS.iload X0.here hx rfl (hb hby d11_7) rfl ?_
    show Steps p.tables e below (s₁.setTop (mkF m 9 #[.val (.ref b1), .val (.int p2), .val (.int (0 : Int32)), .val (.int (17 : Int32)), .val (.int (p2.toInt8.toInt32)), .val (.int (12 : Int32))] [(.int (12 : Int32))])) _
    refine XS.iloadN X0.here hx rfl (hb hby d11_9) rfl ?_
    show Steps p.tables e below (s₁.setTop (mkF m 10 #[.val (.ref b1), .val (.int p2), .val (.int (0 : Int32)), .val (.int (17 : Int32)), .val (.int (p2.toInt8.toInt32)), .val (.int (12 : Int32))] [(.int (17 : Int32)), (.int (12 : Int32))])) _
    refine XS.icmpNo X0.here hx rfl (hb hby d11_10) rfl (tlt ((by decide) : (12 : Int32) < (17 : Int32))).2.1 ?_
    show Steps p.tables e below (s₁.setTop (mkF m 13 #[.val (.ref b1), .val (.int p2), .val (.int (0 : Int32)), .val (.int (17 : Int32)), .val (.int (p2.toInt8.toInt32)), .val (.int (12 : Int32))] [])) _
    refine XS.aloadN X0.here hx rfl (hb hby d11_13) rfl rfl ?_
    show Steps p.tables e below (s₁.setTop (mkF m 14 #[.val (.ref b1), .val (.int p2), .val (.int (0 : Int32)), .val (.int (17 : Int32)), .val (.int (p2.toInt8.toInt32)), .val (.int (12 : Int32))] [(.ref b1)])) _
    refine XS.iload X0.here hx rfl (hb hby d11_14) rfl ?_
    show Steps p.tables e below (s₁.setTop (mkF m 16 #[.val (.ref b1), .val (.int p2), .val (.int (0 : Int32)), .val (.int (17 : Int32)), .val (.int (p2.toInt8.toInt32)), .val (.int (12 : Int32))] [(.int (12 : Int32)), (.ref b1)])) _
    refine X0.baloadBytes hx (j := (12 : Int32)) (v := (.int (63 : Int32))) (by rw [e0]; exact Ar1.1) (State.isArrayOf_alike hZ.alike Ar1.2.1) Ar1.2.2 hin1 hat1 (g := (mkF m 16 #[.val (.ref b1), .val (.int p2), .val (.int (0 : Int32)), .val (.int (17 : Int32)), .val (.int (p2.toInt8.toInt32)), .val (.int (12 : Int32))] [(.int (12 : Int32)), (.ref b1)])) rfl rfl (hb hby d11_16) _ ?_
    show Steps p.tables e below (s₁.setTop (mkF m 17 #[.val (.ref b1), .val (.int p2), .val (.int (0 : Int32)), .val (.int (17 : Int32)), .val (.int (p2.toInt8.toInt32)), .val (.int (12 : Int32))] [(.int (63 : Int32))])) _
    refine XS.iload X0.here hx rfl (hb hby d11_17) rfl ?_
    show Steps p.tables e below (s₁.setTop (mkF m 19 #[.val (.ref b1), .val (.int p2), .val (.int (0 : Int32)), .val (.int (17 : Int32)), .val (.int (p2.toInt8.toInt32)), .val (.int (12 : Int32))] [(.int (p2.toInt8.toInt32)), (.int (63 : Int32))])) _
    refine XS.icmpNo X0.here hx rfl (hb hby d11_19) rfl (teq (vh12 : (63 : Int32) = (p2.toInt8.toInt32))).2 ?_
    show Steps p.tables e below (s₁.setTop (mkF m 22 #[.val (.ref b1), .val (.int p2), .val (.int (0 : Int32)), .val (.int (17 : Int32)), .val (.int (p2.toInt8.toInt32)), .val (.int (12 : Int32))] [])) _
    refine XS.iload X0.here hx rfl (hb hby d11_22) rfl ?_
    show Steps p.tables e below (s₁.setTop (mkF m 24 #[.val (.ref b1), .val (.int p2), .val (.int (0 : Int32)), .val (.int (17 : Int32)), .val (.int (p2.toInt8.toInt32)), .val (.int (12 : Int32))] [(.int (12 : Int32))])) _
    exact retI X0 hx Bd.returns (hb hby d11_24) hr
  · show QI Z (own_f (p2.toInt8.toInt32)) h0 n0 _ s₁.heap _
    rw [e0]
    exact ⟨congrArg (fun z => some (Value.int z)) (Eq.symm ((if_neg vh0).trans ((if_neg vh1).trans ((if_neg vh2).trans ((if_neg vh3).trans ((if_neg vh4).trans ((if_neg vh5).trans ((if_neg vh6).trans ((if_neg vh7).trans ((if_neg vh8).trans ((if_neg vh9).trans ((if_neg vh10).trans ((if_neg vh11).trans (if_pos vh12)))))))))))))), N0, rfl⟩
set_option maxRecDepth 65536 in
set_option maxHeartbeats 40000000 in
theorem rmIc_13 (l : Launch) (Z : State) (a0 : Array Value) (hw : ∀ d ∈ tables_1, d.before a0 Z = true) (ws : List Jvm.Cond) (b1 : Addr) (p2 : Int32) (k : ClassId) (h0 : Heap) (n0 : Nat) (Z0 : n0 ≤ h0.size) (V_b : Arv Z h0 b1 k .byte (17 : Int32) [(.int (35 : Int32)), (.int (36 : Int32)), (.int (38 : Int32)), (.int (42 : Int32)), (.int (43 : Int32)), (.int (45 : Int32)), (.int (46 : Int32)), (.int (47 : Int32)), (.int (58 : Int32)), (.int (60 : Int32)), (.int (61 : Int32)), (.int (62 : Int32)), (.int (63 : Int32)), (.int (64 : Int32)), (.int (94 : Int32)), (.int (126 : Int32)), (.int (92 : Int32))] (.int (0 : Int32))) (vh0 : ¬ ((35 : Int32) = (p2.toInt8.toInt32))) (vh1 : ¬ ((36 : Int32) = (p2.toInt8.toInt32))) (vh2 : ¬ ((38 : Int32) = (p2.toInt8.toInt32))) (vh3 : ¬ ((42 : Int32) = (p2.toInt8.toInt32))) (vh4 : ¬ ((43 : Int32) = (p2.toInt8.toInt32))) (vh5 : ¬ ((45 : Int32) = (p2.toInt8.toInt32))) (vh6 : ¬ ((46 : Int32) = (p2.toInt8.toInt32))) (vh7 : ¬ ((47 : Int32) = (p2.toInt8.toInt32))) (vh8 : ¬ ((58 : Int32) = (p2.toInt8.toInt32))) (vh9 : ¬ ((60 : Int32) = (p2.toInt8.toInt32))) (vh10 : ¬ ((61 : Int32) = (p2.toInt8.toInt32))) (vh11 : ¬ ((62 : Int32) = (p2.toInt8.toInt32))) (vh12 : ¬ ((63 : Int32) = (p2.toInt8.toInt32))) (vh13 : (64 : Int32) = (p2.toInt8.toInt32)) :
    MetFree l (⟨"java/lang/StringLatin1", "indexOfChar", "([BIII)I"⟩ : MethodName) (head1 (Jvm.Cond.code (⟨"java/lang/StringLatin1", "indexOfChar", "([BIII)I"⟩ : MethodName) jdk_43_method_23_code 6 (some .int) :: ws) ({ frames := 0, cells := 0, slots := 0, locals := 0 } : Room)) (fun a U => a = #[(.ref b1), (.int p2), (.int (0 : Int32)), (.int (17 : Int32))] ∧ Z.Warmed39 U.vm ∧ U.heap = h0) (fun _ _ _ _ _ => True) (fun _ U o U' => ∃ v L, o = .returned v ∧ QI Z (own_f (p2.toInt8.toInt32)) h0 n0 v U'.heap L ∧ FrameEnd U o U' L ({ frames := 0, cells := 0, slots := 0, locals := 0 } : Room).cells ({ frames := 0, cells := 0, slots := 0, locals := 0 } : Room).slots) := by
  refine MetFree.of_bodySF (plainFor_of_name pn_11) hisR ?_
  intro p e s m args below meth c s₁ Bd hml0 hP hK
  obtain ⟨rfl, hZ, hh⟩ := hP
  have hx := Bd.exec
  have hby := Bd.bytes
  have hml : c.maxLocals = 6 := hml0
  have hown : s.vm.findClass "java/lang/StringLatin1" = some m.cls := findClass_of_methodNamed Bd.named
  have hnm := (name_of_methodNamed Bd.named Bd.method).1
  have X0 : Stand p l e ({ frames := 0, cells := 0, slots := 0, locals := 0 } : Room) s m #[(.ref b1), (.int p2), (.int (0 : Int32)), (.int (17 : Int32))] below meth c s₁ [] 0 0 := Stand.of_body Bd
  have e0 : s₁.heap = h0 := by rw [← hh, Bd.state]; rfl
  have N0 := Fr.nil n0
  have pre0 : ∀ tz, Steps p.tables e below (s₁.setTop (mkF m 0 #[.val (.ref b1), .val (.int p2), .val (.int (0 : Int32)), .val (.int (17 : Int32)), .unset, .unset] [])) tz → Steps p.tables e below (s₁.setTop (entryFrame m #[(.ref b1), (.int p2), (.int (0 : Int32)), (.int (17 : Int32))] 6)) tz := fun tz kz => castTop (ef_11 m b1 p2 (0 : Int32) (17 : Int32)) kz
  obtain ⟨cl1, Ar1, q1, S1, M1, H1, G1⟩ := id V_b
  have hin1 : ¬ ((13 : Int32) < 0 ∨ cl1.slots.size ≤ ((13 : Int32)).toNatClampNeg) := inb_of S1 ⟨by decide, by decide⟩
  have hat1 : cl1.slots[((13 : Int32)).toNatClampNeg]? = some (.int (64 : Int32)) := Has.at H1 hin1 rfl
  obtain ⟨fs, hr, hrun, hended, hW, hsame⟩ := X0.leave (v := some (.int (13 : Int32))) (fun h => by rw [Bd.returns] at h; cases h)
  refine ⟨_, _, pre0 _ ?_, hrun, hended, _, _, rfl, ?_, ⟨_, rfl⟩, hW, hsame.mono (by decide) (by decide)⟩
  · show Steps p.tables e below (s₁.setTop (mkF m 0 #[.val (.ref b1), .val (.int p2), .val (.int (0 : Int32)), .val (.int (17 : Int32)), .unset, .unset] [])) _
    refine XS.iloadN X0.here hx rfl (hb hby d11_0) rfl ?_
    show Steps p.tables e below (s₁.setTop (mkF m 1 #[.val (.ref b1), .val (.int p2), .val (.int (0 : Int32)), .val (.int (17 : Int32)), .unset, .unset] [(.int p2)])) _
    refine XS.i2b X0.here hx rfl (hb hby d11_1) rfl ?_
    show Steps p.tables e below (s₁.setTop (mkF m 2 #[.val (.ref b1), .val (.int p2), .val (.int (0 : Int32)), .val (.int (17 : Int32)), .unset, .unset] [(.int (p2.toInt8.toInt32))])) _
    refine XS.istore X0.here hx rfl (hb hby d11_2) rfl (l' := #[.val (.ref b1), .val (.int p2), .val (.int (0 : Int32)), .val (.int (17 : Int32)), .val (.int (p2.toInt8.toInt32)), .unset]) rfl ?_
    show Steps p.tables e below (s₁.setTop (mkF m 4 #[.val (.ref b1), .val (.int p2), .val (.int (0 : Int32)), .val (.int (17 : Int32)), .val (.int (p2.toInt8.toInt32)), .unset] [])) _
    refine XS.iloadN X0.here hx rfl (hb hby d11_4) rfl ?_
    show Steps p.tables e below (s₁.setTop (mkF m 5 #[.val (.ref b1), .val (.int p2), .val (.int (0 : Int32)), .val (.int (17 : Int32)), .val (.int (p2.toInt8.toInt32)), .unset] [(.int (0 : Int32))])) _
    refine XS.istore X0.here hx rfl (hb hby d11_5) rfl (l' := #[.val (.ref b1), .val (.int p2), .val (.int (0 : Int32)), .val (.int (17 : Int32)), .val (.int (p2.toInt8.toInt32)), .val (.int (0 : Int32))]) rfl ?_
    show Steps p.tables e below (s₁.setTop (mkF m 7 #[.val (.ref b1), .val (.int p2), .val (.int (0 : Int32)), .val (.int (17 : Int32)), .val (.int (p2.toInt8.toInt32)), .val (.int (0 : Int32))] [])) _
    refine tnI b1 p2 (p2.toInt8.toInt32) (0 : Int32) (1 : Int32) (35 : Int32) k X0 hx hZ hw hby hml hown e0 N0 Z0 V_b (by decide) ⟨by decide, by decide⟩ rfl vh0 (by decide) _ ?_
    show Steps p.tables e below (s₁.setTop (mkF m 7 #[.val (.ref b1), .val (.int p2), .val (.int (0 : Int32)), .val (.int (17 : Int32)), .val (.int (p2.toInt8.toInt32)), .val (.int (1 : Int32))] [])) _
    refine tnI b1 p2 (p2.toInt8.toInt32) (1 : Int32) (2 : Int32) (36 : Int32) k X0 hx hZ hw hby hml hown e0 N0 Z0 V_b (by decide) ⟨by decide, by decide⟩ rfl vh1 (by decide) _ ?_
    show Steps p.tables e below (s₁.setTop (mkF m 7 #[.val (.ref b1), .val (.int p2), .val (.int (0 : Int32)), .val (.int (17 : Int32)), .val (.int (p2.toInt8.toInt32)), .val (.int (2 : Int32))] [])) _
    refine tnI b1 p2 (p2.toInt8.toInt32) (2 : Int32) (3 : Int32) (38 : Int32) k X0 hx hZ hw hby hml hown e0 N0 Z0 V_b (by decide) ⟨by decide, by decide⟩ rfl vh2 (by decide) _ ?_
    show Steps p.tables e below (s₁.setTop (mkF m 7 #[.val (.ref b1), .val (.int p2), .val (.int (0 : Int32)), .val (.int (17 : Int32)), .val (.int (p2.toInt8.toInt32)), .val (.int (3 : Int32))] [])) _
    refine tnI b1 p2 (p2.toInt8.toInt32) (3 : Int32) (4 : Int32) (42 : Int32) k X0 hx hZ hw hby hml hown e0 N0 Z0 V_b (by decide) ⟨by decide, by decide⟩ rfl vh3 (by decide) _ ?_
    show Steps p.tables e below (s₁.setTop (mkF m 7 #[.val (.ref b1), .val (.int p2), .val (.int (0 : Int32)), .val (.int (17 : Int32)), .val (.int (p2.toInt8.toInt32)), .val (.int (4 : Int32))] [])) _
    refine tnI b1 p2 (p2.toInt8.toInt32) (4 : Int32) (5 : Int32) (43 : Int32) k X0 hx hZ hw hby hml hown e0 N0 Z0 V_b (by decide) ⟨by decide, by decide⟩ rfl vh4 (by decide) _ ?_
    show Steps p.tables e below (s₁.setTop (mkF m 7 #[.val (.ref b1), .val (.int p2), .val (.int (0 : Int32)), .val (.int (17 : Int32)), .val (.int (p2.toInt8.toInt32)), .val (.int (5 : Int32))] [])) _
    refine tnI b1 p2 (p2.toInt8.toInt32) (5 : Int32) (6 : Int32) (45 : Int32) k X0 hx hZ hw hby hml hown e0 N0 Z0 V_b (by decide) ⟨by decide, by decide⟩ rfl vh5 (by decide) _ ?_
    show Steps p.tables e below (s₁.setTop (mkF m 7 #[.val (.ref b1), .val (.int p2), .val (.int (0 : Int32)), .val (.int (17 : Int32)), .val (.int (p2.toInt8.toInt32)), .val (.int (6 : Int32))] [])) _
    refine tnI b1 p2 (p2.toInt8.toInt32) (6 : Int32) (7 : Int32) (46 : Int32) k X0 hx hZ hw hby hml hown e0 N0 Z0 V_b (by decide) ⟨by decide, by decide⟩ rfl vh6 (by decide) _ ?_
    show Steps p.tables e below (s₁.setTop (mkF m 7 #[.val (.ref b1), .val (.int p2), .val (.int (0 : Int32)), .val (.int (17 : Int32)), .val (.int (p2.toInt8.toInt32)), .val (.int (7 : Int32))] [])) _
    refine tnI b1 p2 (p2.toInt8.toInt32) (7 : Int32) (8 : Int32) (47 : Int32) k X0 hx hZ hw hby hml hown e0 N0 Z0 V_b (by decide) ⟨by decide, by decide⟩ rfl vh7 (by decide) _ ?_
    show Steps p.tables e below (s₁.setTop (mkF m 7 #[.val (.ref b1), .val (.int p2), .val (.int (0 : Int32)), .val (.int (17 : Int32)), .val (.int (p2.toInt8.toInt32)), .val (.int (8 : Int32))] [])) _
    refine tnI b1 p2 (p2.toInt8.toInt32) (8 : Int32) (9 : Int32) (58 : Int32) k X0 hx hZ hw hby hml hown e0 N0 Z0 V_b (by decide) ⟨by decide, by decide⟩ rfl vh8 (by decide) _ ?_
    show Steps p.tables e below (s₁.setTop (mkF m 7 #[.val (.ref b1), .val (.int p2), .val (.int (0 : Int32)), .val (.int (17 : Int32)), .val (.int (p2.toInt8.toInt32)), .val (.int (9 : Int32))] [])) _
    refine tnI b1 p2 (p2.toInt8.toInt32) (9 : Int32) (10 : Int32) (60 : Int32) k X0 hx hZ hw hby hml hown e0 N0 Z0 V_b (by decide) ⟨by decide, by decide⟩ rfl vh9 (by decide) _ ?_
    show Steps p.tables e below (s₁.setTop (mkF m 7 #[.val (.ref b1), .val (.int p2), .val (.int (0 : Int32)), .val (.int (17 : Int32)), .val (.int (p2.toInt8.toInt32)), .val (.int (10 : Int32))] [])) _
    refine tnI b1 p2 (p2.toInt8.toInt32) (10 : Int32) (11 : Int32) (61 : Int32) k X0 hx hZ hw hby hml hown e0 N0 Z0 V_b (by decide) ⟨by decide, by decide⟩ rfl vh10 (by decide) _ ?_
    show Steps p.tables e below (s₁.setTop (mkF m 7 #[.val (.ref b1), .val (.int p2), .val (.int (0 : Int32)), .val (.int (17 : Int32)), .val (.int (p2.toInt8.toInt32)), .val (.int (11 : Int32))] [])) _
    refine tnI b1 p2 (p2.toInt8.toInt32) (11 : Int32) (12 : Int32) (62 : Int32) k X0 hx hZ hw hby hml hown e0 N0 Z0 V_b (by decide) ⟨by decide, by decide⟩ rfl vh11 (by decide) _ ?_
    show Steps p.tables e below (s₁.setTop (mkF m 7 #[.val (.ref b1), .val (.int p2), .val (.int (0 : Int32)), .val (.int (17 : Int32)), .val (.int (p2.toInt8.toInt32)), .val (.int (12 : Int32))] [])) _
    refine tnI b1 p2 (p2.toInt8.toInt32) (12 : Int32) (13 : Int32) (63 : Int32) k X0 hx hZ hw hby hml hown e0 N0 Z0 V_b (by decide) ⟨by decide, by decide⟩ rfl vh12 (by decide) _ ?_
    show Steps p.tables e below (s₁.setTop (mkF m 7 #[.val (.ref b1), .val (.int p2), .val (.int (0 : Int32)), .val (.int (17 : Int32)), .val (.int (p2.toInt8.toInt32)), .val (.int (13 : Int32))] [])) _
    refine XS.iload X0.here hx rfl (hb hby d11_7) rfl ?_
    show Steps p.tables e below (s₁.setTop (mkF m 9 #[.val (.ref b1), .val (.int p2), .val (.int (0 : Int32)), .val (.int (17 : Int32)), .val (.int (p2.toInt8.toInt32)), .val (.int (13 : Int32))] [(.int (13 : Int32))])) _
    refine XS.iloadN X0.here hx rfl (hb hby d11_9) rfl ?_
    show Steps p.tables e below (s₁.setTop (mkF m 10 #[.val (.ref b1), .val (.int p2), .val (.int (0 : Int32)), .val (.int (17 : Int32)), .val (.int (p2.toInt8.toInt32)), .val (.int (13 : Int32))] [(.int (17 : Int32)), (.int (13 : Int32))])) _
    refine XS.icmpNo X0.here hx rfl (hb hby d11_10) rfl (tlt ((by decide) : (13 : Int32) < (17 : Int32))).2.1 ?_
    show Steps p.tables e below (s₁.setTop (mkF m 13 #[.val (.ref b1), .val (.int p2), .val (.int (0 : Int32)), .val (.int (17 : Int32)), .val (.int (p2.toInt8.toInt32)), .val (.int (13 : Int32))] [])) _
    refine XS.aloadN X0.here hx rfl (hb hby d11_13) rfl rfl ?_
    show Steps p.tables e below (s₁.setTop (mkF m 14 #[.val (.ref b1), .val (.int p2), .val (.int (0 : Int32)), .val (.int (17 : Int32)), .val (.int (p2.toInt8.toInt32)), .val (.int (13 : Int32))] [(.ref b1)])) _
    refine XS.iload X0.here hx rfl (hb hby d11_14) rfl ?_
    show Steps p.tables e below (s₁.setTop (mkF m 16 #[.val (.ref b1), .val (.int p2), .val (.int (0 : Int32)), .val (.int (17 : Int32)), .val (.int (p2.toInt8.toInt32)), .val (.int (13 : Int32))] [(.int (13 : Int32)), (.ref b1)])) _
    refine X0.baloadBytes hx (j := (13 : Int32)) (v := (.int (64 : Int32))) (by rw [e0]; exact Ar1.1) (State.isArrayOf_alike hZ.alike Ar1.2.1) Ar1.2.2 hin1 hat1 (g := (mkF m 16 #[.val (.ref b1), .val (.int p2), .val (.int (0 : Int32)), .val (.int (17 : Int32)), .val (.int (p2.toInt8.toInt32)), .val (.int (13 : Int32))] [(.int (13 : Int32)), (.ref b1)])) rfl rfl (hb hby d11_16) _ ?_
    show Steps p.tables e below (s₁.setTop (mkF m 17 #[.val (.ref b1), .val (.int p2), .val (.int (0 : Int32)), .val (.int (17 : Int32)), .val (.int (p2.toInt8.toInt32)), .val (.int (13 : Int32))] [(.int (64 : Int32))])) _
    refine XS.iload X0.here hx rfl (hb hby d11_17) rfl ?_
    show Steps p.tables e below (s₁.setTop (mkF m 19 #[.val (.ref b1), .val (.int p2), .val (.int (0 : Int32)), .val (.int (17 : Int32)), .val (.int (p2.toInt8.toInt32)), .val (.int (13 : Int32))] [(.int (p2.toInt8.toInt32)), (.int (64 : Int32))])) _
    refine XS.icmpNo X0.here hx rfl (hb hby d11_19) rfl (teq (vh13 : (64 : Int32) = (p2.toInt8.toInt32))).2 ?_
    show Steps p.tables e below (s₁.setTop (mkF m 22 #[.val (.ref b1), .val (.int p2), .val (.int (0 : Int32)), .val (.int (17 : Int32)), .val (.int (p2.toInt8.toInt32)), .val (.int (13 : Int32))] [])) _
    refine XS.iload X0.here hx rfl (hb hby d11_22) rfl ?_
    show Steps p.tables e below (s₁.setTop (mkF m 24 #[.val (.ref b1), .val (.int p2), .val (.int (0 : Int32)), .val (.int (17 : Int32)), .val (.int (p2.toInt8.toInt32)), .val (.int (13 : Int32))] [(.int (13 : Int32))])) _
    exact retI X0 hx Bd.returns (hb hby d11_24) hr
  · show QI Z (own_f (p2.toInt8.toInt32)) h0 n0 _ s₁.heap _
    rw [e0]
    exact ⟨congrArg (fun z => some (Value.int z)) (Eq.symm ((if_neg vh0).trans ((if_neg vh1).trans ((if_neg vh2).trans ((if_neg vh3).trans ((if_neg vh4).trans ((if_neg vh5).trans ((if_neg vh6).trans ((if_neg vh7).trans ((if_neg vh8).trans ((if_neg vh9).trans ((if_neg vh10).trans ((if_neg vh11).trans ((if_neg vh12).trans (if_pos vh13))))))))))))))), N0, rfl⟩
set_option maxRecDepth 65536 in
set_option maxHeartbeats 40000000 in
theorem rmIc_14 (l : Launch) (Z : State) (a0 : Array Value) (hw : ∀ d ∈ tables_1, d.before a0 Z = true) (ws : List Jvm.Cond) (b1 : Addr) (p2 : Int32) (k : ClassId) (h0 : Heap) (n0 : Nat) (Z0 : n0 ≤ h0.size) (V_b : Arv Z h0 b1 k .byte (17 : Int32) [(.int (35 : Int32)), (.int (36 : Int32)), (.int (38 : Int32)), (.int (42 : Int32)), (.int (43 : Int32)), (.int (45 : Int32)), (.int (46 : Int32)), (.int (47 : Int32)), (.int (58 : Int32)), (.int (60 : Int32)), (.int (61 : Int32)), (.int (62 : Int32)), (.int (63 : Int32)), (.int (64 : Int32)), (.int (94 : Int32)), (.int (126 : Int32)), (.int (92 : Int32))] (.int (0 : Int32))) (vh0 : ¬ ((35 : Int32) = (p2.toInt8.toInt32))) (vh1 : ¬ ((36 : Int32) = (p2.toInt8.toInt32))) (vh2 : ¬ ((38 : Int32) = (p2.toInt8.toInt32))) (vh3 : ¬ ((42 : Int32) = (p2.toInt8.toInt32))) (vh4 : ¬ ((43 : Int32) = (p2.toInt8.toInt32))) (vh5 : ¬ ((45 : Int32) = (p2.toInt8.toInt32))) (vh6 : ¬ ((46 : Int32) = (p2.toInt8.toInt32))) (vh7 : ¬ ((47 : Int32) = (p2.toInt8.toInt32))) (vh8 : ¬ ((58 : Int32) = (p2.toInt8.toInt32))) (vh9 : ¬ ((60 : Int32) = (p2.toInt8.toInt32))) (vh10 : ¬ ((61 : Int32) = (p2.toInt8.toInt32))) (vh11 : ¬ ((62 : Int32) = (p2.toInt8.toInt32))) (vh12 : ¬ ((63 : Int32) = (p2.toInt8.toInt32))) (vh13 : ¬ ((64 : Int32) = (p2.toInt8.toInt32))) (vh14 : (94 : Int32) = (p2.toInt8.toInt32)) :
    MetFree l (⟨"java/lang/StringLatin1", "indexOfChar", "([BIII)I"⟩ : MethodName) (head1 (Jvm.Cond.code (⟨"java/lang/StringLatin1", "indexOfChar", "([BIII)I"⟩ : MethodName) jdk_43_method_23_code 6 (some .int) :: ws) ({ frames := 0, cells := 0, slots := 0, locals := 0 } : Room)) (fun a U => a = #[(.ref b1), (.int p2), (.int (0 : Int32)), (.int (17 : Int32))] ∧ Z.Warmed39 U.vm ∧ U.heap = h0) (fun _ _ _ _ _ => True) (fun _ U o U' => ∃ v L, o = .returned v ∧ QI Z (own_f (p2.toInt8.toInt32)) h0 n0 v U'.heap L ∧ FrameEnd U o U' L ({ frames := 0, cells := 0, slots := 0, locals := 0 } : Room).cells ({ frames := 0, cells := 0, slots := 0, locals := 0 } : Room).slots) := by
  refine MetFree.of_bodySF (plainFor_of_name pn_11) hisR ?_
  intro p e s m args below meth c s₁ Bd hml0 hP hK
  obtain ⟨rfl, hZ, hh⟩ := hP
  have hx := Bd.exec
  have hby := Bd.bytes
  have hml : c.maxLocals = 6 := hml0
  have hown : s.vm.findClass "java/lang/StringLatin1" = some m.cls := findClass_of_methodNamed Bd.named
  have hnm := (name_of_methodNamed Bd.named Bd.method).1
  have X0 : Stand p l e ({ frames := 0, cells := 0, slots := 0, locals := 0 } : Room) s m #[(.ref b1), (.int p2), (.int (0 : Int32)), (.int (17 : Int32))] below meth c s₁ [] 0 0 := Stand.of_body Bd
  have e0 : s₁.heap = h0 := by rw [← hh, Bd.state]; rfl
  have N0 := Fr.nil n0
  have pre0 : ∀ tz, Steps p.tables e below (s₁.setTop (mkF m 0 #[.val (.ref b1), .val (.int p2), .val (.int (0 : Int32)), .val (.int (17 : Int32)), .unset, .unset] [])) tz → Steps p.tables e below (s₁.setTop (entryFrame m #[(.ref b1), (.int p2), (.int (0 : Int32)), (.int (17 : Int32))] 6)) tz := fun tz kz => castTop (ef_11 m b1 p2 (0 : Int32) (17 : Int32)) kz
  obtain ⟨cl1, Ar1, q1, S1, M1, H1, G1⟩ := id V_b
  have hin1 : ¬ ((14 : Int32) < 0 ∨ cl1.slots.size ≤ ((14 : Int32)).toNatClampNeg) := inb_of S1 ⟨by decide, by decide⟩
  have hat1 : cl1.slots[((14 : Int32)).toNatClampNeg]? = some (.int (94 : Int32)) := Has.at H1 hin1 rfl
  obtain ⟨fs, hr, hrun, hended, hW, hsame⟩ := X0.leave (v := some (.int (14 : Int32))) (fun h => by rw [Bd.returns] at h; cases h)
  refine ⟨_, _, pre0 _ ?_, hrun, hended, _, _, rfl, ?_, ⟨_, rfl⟩, hW, hsame.mono (by decide) (by decide)⟩
  · show Steps p.tables e below (s₁.setTop (mkF m 0 #[.val (.ref b1), .val (.int p2), .val (.int (0 : Int32)), .val (.int (17 : Int32)), .unset, .unset] [])) _
    refine XS.iloadN X0.here hx rfl (hb hby d11_0) rfl ?_
    show Steps p.tables e below (s₁.setTop (mkF m 1 #[.val (.ref b1), .val (.int p2), .val (.int (0 : Int32)), .val (.int (17 : Int32)), .unset, .unset] [(.int p2)])) _
    refine XS.i2b X0.here hx rfl (hb hby d11_1) rfl ?_
    show Steps p.tables e below (s₁.setTop (mkF m 2 #[.val (.ref b1), .val (.int p2), .val (.int (0 : Int32)), .val (.int (17 : Int32)), .unset, .unset] [(.int (p2.toInt8.toInt32))])) _
    refine XS.istore X0.here hx rfl (hb hby d11_2) rfl (l' := #[.val (.ref b1), .val (.int p2), .val (.int (0 : Int32)), .val (.int (17 : Int32)), .val (.int (p2.toInt8.toInt32)), .unset]) rfl ?_
    show Steps p.tables e below (s₁.setTop (mkF m 4 #[.val (.ref b1), .val (.int p2), .val (.int (0 : Int32)), .val (.int (17 : Int32)), .val (.int (p2.toInt8.toInt32)), .unset] [])) _
    refine XS.iloadN X0.here hx rfl (hb hby d11_4) rfl ?_
    show Steps p.tables e below (s₁.setTop (mkF m 5 #[.val (.ref b1), .val (.int p2), .val (.int (0 : Int32)), .val (.int (17 : Int32)), .val (.int (p2.toInt8.toInt32)), .unset] [(.int (0 : Int32))])) _
    refine XS.istore X0.here hx rfl (hb hby d11_5) rfl (l' := #[.val (.ref b1), .val (.int p2), .val (.int (0 : Int32)), .val (.int (17 : Int32)), .val (.int (p2.toInt8.toInt32)), .val (.int (0 : Int32))]) rfl ?_
    show Steps p.tables e below (s₁.setTop (mkF m 7 #[.val (.ref b1), .val (.int p2), .val (.int (0 : Int32)), .val (.int (17 : Int32)), .val (.int (p2.toInt8.toInt32)), .val (.int (0 : Int32))] [])) _
    refine tnI b1 p2 (p2.toInt8.toInt32) (0 : Int32) (1 : Int32) (35 : Int32) k X0 hx hZ hw hby hml hown e0 N0 Z0 V_b (by decide) ⟨by decide, by decide⟩ rfl vh0 (by decide) _ ?_
    show Steps p.tables e below (s₁.setTop (mkF m 7 #[.val (.ref b1), .val (.int p2), .val (.int (0 : Int32)), .val (.int (17 : Int32)), .val (.int (p2.toInt8.toInt32)), .val (.int (1 : Int32))] [])) _
    refine tnI b1 p2 (p2.toInt8.toInt32) (1 : Int32) (2 : Int32) (36 : Int32) k X0 hx hZ hw hby hml hown e0 N0 Z0 V_b (by decide) ⟨by decide, by decide⟩ rfl vh1 (by decide) _ ?_
    show Steps p.tables e below (s₁.setTop (mkF m 7 #[.val (.ref b1), .val (.int p2), .val (.int (0 : Int32)), .val (.int (17 : Int32)), .val (.int (p2.toInt8.toInt32)), .val (.int (2 : Int32))] [])) _
    refine tnI b1 p2 (p2.toInt8.toInt32) (2 : Int32) (3 : Int32) (38 : Int32) k X0 hx hZ hw hby hml hown e0 N0 Z0 V_b (by decide) ⟨by decide, by decide⟩ rfl vh2 (by decide) _ ?_
    show Steps p.tables e below (s₁.setTop (mkF m 7 #[.val (.ref b1), .val (.int p2), .val (.int (0 : Int32)), .val (.int (17 : Int32)), .val (.int (p2.toInt8.toInt32)), .val (.int (3 : Int32))] [])) _
    refine tnI b1 p2 (p2.toInt8.toInt32) (3 : Int32) (4 : Int32) (42 : Int32) k X0 hx hZ hw hby hml hown e0 N0 Z0 V_b (by decide) ⟨by decide, by decide⟩ rfl vh3 (by decide) _ ?_
    show Steps p.tables e below (s₁.setTop (mkF m 7 #[.val (.ref b1), .val (.int p2), .val (.int (0 : Int32)), .val (.int (17 : Int32)), .val (.int (p2.toInt8.toInt32)), .val (.int (4 : Int32))] [])) _
    refine tnI b1 p2 (p2.toInt8.toInt32) (4 : Int32) (5 : Int32) (43 : Int32) k X0 hx hZ hw hby hml hown e0 N0 Z0 V_b (by decide) ⟨by decide, by decide⟩ rfl vh4 (by decide) _ ?_
    show Steps p.tables e below (s₁.setTop (mkF m 7 #[.val (.ref b1), .val (.int p2), .val (.int (0 : Int32)), .val (.int (17 : Int32)), .val (.int (p2.toInt8.toInt32)), .val (.int (5 : Int32))] [])) _
    refine tnI b1 p2 (p2.toInt8.toInt32) (5 : Int32) (6 : Int32) (45 : Int32) k X0 hx hZ hw hby hml hown e0 N0 Z0 V_b (by decide) ⟨by decide, by decide⟩ rfl vh5 (by decide) _ ?_
    show Steps p.tables e below (s₁.setTop (mkF m 7 #[.val (.ref b1), .val (.int p2), .val (.int (0 : Int32)), .val (.int (17 : Int32)), .val (.int (p2.toInt8.toInt32)), .val (.int (6 : Int32))] [])) _
    refine tnI b1 p2 (p2.toInt8.toInt32) (6 : Int32) (7 : Int32) (46 : Int32) k X0 hx hZ hw hby hml hown e0 N0 Z0 V_b (by decide) ⟨by decide, by decide⟩ rfl vh6 (by decide) _ ?_
    show Steps p.tables e below (s₁.setTop (mkF m 7 #[.val (.ref b1), .val (.int p2), .val (.int (0 : Int32)), .val (.int (17 : Int32)), .val (.int (p2.toInt8.toInt32)), .val (.int (7 : Int32))] [])) _
    refine tnI b1 p2 (p2.toInt8.toInt32) (7 : Int32) (8 : Int32) (47 : Int32) k X0 hx hZ hw hby hml hown e0 N0 Z0 V_b (by decide) ⟨by decide, by decide⟩ rfl vh7 (by decide) _ ?_
    show Steps p.tables e below (s₁.setTop (mkF m 7 #[.val (.ref b1), .val (.int p2), .val (.int (0 : Int32)), .val (.int (17 : Int32)), .val (.int (p2.toInt8.toInt32)), .val (.int (8 : Int32))] [])) _
    refine tnI b1 p2 (p2.toInt8.toInt32) (8 : Int32) (9 : Int32) (58 : Int32) k X0 hx hZ hw hby hml hown e0 N0 Z0 V_b (by decide) ⟨by decide, by decide⟩ rfl vh8 (by decide) _ ?_
    show Steps p.tables e below (s₁.setTop (mkF m 7 #[.val (.ref b1), .val (.int p2), .val (.int (0 : Int32)), .val (.int (17 : Int32)), .val (.int (p2.toInt8.toInt32)), .val (.int (9 : Int32))] [])) _
    refine tnI b1 p2 (p2.toInt8.toInt32) (9 : Int32) (10 : Int32) (60 : Int32) k X0 hx hZ hw hby hml hown e0 N0 Z0 V_b (by decide) ⟨by decide, by decide⟩ rfl vh9 (by decide) _ ?_
    show Steps p.tables e below (s₁.setTop (mkF m 7 #[.val (.ref b1), .val (.int p2), .val (.int (0 : Int32)), .val (.int (17 : Int32)), .val (.int (p2.toInt8.toInt32)), .val (.int (10 : Int32))] [])) _
    refine tnI b1 p2 (p2.toInt8.toInt32) (10 : Int32) (11 : Int32) (61 : Int32) k X0 hx hZ hw hby hml hown e0 N0 Z0 V_b (by decide) ⟨by decide, by decide⟩ rfl vh10 (by decide) _ ?_
    show Steps p.tables e below (s₁.setTop (mkF m 7 #[.val (.ref b1), .val (.int p2), .val (.int (0 : Int32)), .val (.int (17 : Int32)), .val (.int (p2.toInt8.toInt32)), .val (.int (11 : Int32))] [])) _
    refine tnI b1 p2 (p2.toInt8.toInt32) (11 : Int32) (12 : Int32) (62 : Int32) k X0 hx hZ hw hby hml hown e0 N0 Z0 V_b (by decide) ⟨by decide, by decide⟩ rfl vh11 (by decide) _ ?_
    show Steps p.tables e below (s₁.setTop (mkF m 7 #[.val (.ref b1), .val (.int p2), .val (.int (0 : Int32)), .val (.int (17 : Int32)), .val (.int (p2.toInt8.toInt32)), .val (.int (12 : Int32))] [])) _
    refine tnI b1 p2 (p2.toInt8.toInt32) (12 : Int32) (13 : Int32) (63 : Int32) k X0 hx hZ hw hby hml hown e0 N0 Z0 V_b (by decide) ⟨by decide, by decide⟩ rfl vh12 (by decide) _ ?_
    show Steps p.tables e below (s₁.setTop (mkF m 7 #[.val (.ref b1), .val (.int p2), .val (.int (0 : Int32)), .val (.int (17 : Int32)), .val (.int (p2.toInt8.toInt32)), .val (.int (13 : Int32))] [])) _
    refine tnI b1 p2 (p2.toInt8.toInt32) (13 : Int32) (14 : Int32) (64 : Int32) k X0 hx hZ hw hby hml hown e0 N0 Z0 V_b (by decide) ⟨by decide, by decide⟩ rfl vh13 (by decide) _ ?_
    show Steps p.tables e below (s₁.setTop (mkF m 7 #[.val (.ref b1), .val (.int p2), .val (.int (0 : Int32)), .val (.int (17 : Int32)), .val (.int (p2.toInt8.toInt32)), .val (.int (14 : Int32))] [])) _
    refine XS.iload X0.here hx rfl (hb hby d11_7) rfl ?_
    show Steps p.tables e below (s₁.setTop (mkF m 9 #[.val (.ref b1), .val (.int p2), .val (.int (0 : Int32)), .val (.int (17 : Int32)), .val (.int (p2.toInt8.toInt32)), .val (.int (14 : Int32))] [(.int (14 : Int32))])) _
    refine XS.iloadN X0.here hx rfl (hb hby d11_9) rfl ?_
    show Steps p.tables e below (s₁.setTop (mkF m 10 #[.val (.ref b1), .val (.int p2), .val (.int (0 : Int32)), .val (.int (17 : Int32)), .val (.int (p2.toInt8.toInt32)), .val (.int (14 : Int32))] [(.int (17 : Int32)), (.int (14 : Int32))])) _
    refine XS.icmpNo X0.here hx rfl (hb hby d11_10) rfl (tlt ((by decide) : (14 : Int32) < (17 : Int32))).2.1 ?_
    show Steps p.tables e below (s₁.setTop (mkF m 13 #[.val (.ref b1), .val (.int p2), .val (.int (0 : Int32)), .val (.int (17 : Int32)), .val (.int (p2.toInt8.toInt32)), .val (.int (14 : Int32))] [])) _
    refine XS.aloadN X0.here hx rfl (hb hby d11_13) rfl rfl ?_
    show Steps p.tables e below (s₁.setTop (mkF m 14 #[.val (.ref b1), .val (.int p2), .val (.int (0 : Int32)), .val (.int (17 : Int32)), .val (.int (p2.toInt8.toInt32)), .val (.int (14 : Int32))] [(.ref b1)])) _
    refine XS.iload X0.here hx rfl (hb hby d11_14) rfl ?_
    show Steps p.tables e below (s₁.setTop (mkF m 16 #[.val (.ref b1), .val (.int p2), .val (.int (0 : Int32)), .val (.int (17 : Int32)), .val (.int (p2.toInt8.toInt32)), .val (.int (14 : Int32))] [(.int (14 : Int32)), (.ref b1)])) _
    refine X0.baloadBytes hx (j := (14 : Int32)) (v := (.int (94 : Int32))) (by rw [e0]; exact Ar1.1) (State.isArrayOf_alike hZ.alike Ar1.2.1) Ar1.2.2 hin1 hat1 (g := (mkF m 16 #[.val (.ref b1), .val (.int p2), .val (.int (0 : Int32)), .val (.int (17 : Int32)), .val (.int (p2.toInt8.toInt32)), .val (.int (14 : Int32))] [(.int (14 : Int32)), (.ref b1)])) rfl rfl (hb hby d11_16) _ ?_
    show Steps p.tables e below (s₁.setTop (mkF m 17 #[.val (.ref b1), .val (.int p2), .val (.int (0 : Int32)), .val (.int (17 : Int32)), .val (.int (p2.toInt8.toInt32)), .val (.int (14 : Int32))] [(.int (94 : Int32))])) _
    refine XS.iload X0.here hx rfl (hb hby d11_17) rfl ?_
    show Steps p.tables e below (s₁.setTop (mkF m 19 #[.val (.ref b1), .val (.int p2), .val (.int (0 : Int32)), .val (.int (17 : Int32)), .val (.int (p2.toInt8.toInt32)), .val (.int (14 : Int32))] [(.int (p2.toInt8.toInt32)), (.int (94 : Int32))])) _
    refine XS.icmpNo X0.here hx rfl (hb hby d11_19) rfl (teq (vh14 : (94 : Int32) = (p2.toInt8.toInt32))).2 ?_
    show Steps p.tables e below (s₁.setTop (mkF m 22 #[.val (.ref b1), .val (.int p2), .val (.int (0 : Int32)), .val (.int (17 : Int32)), .val (.int (p2.toInt8.toInt32)), .val (.int (14 : Int32))] [])) _
    refine XS.iload X0.here hx rfl (hb hby d11_22) rfl ?_
    show Steps p.tables e below (s₁.setTop (mkF m 24 #[.val (.ref b1), .val (.int p2), .val (.int (0 : Int32)), .val (.int (17 : Int32)), .val (.int (p2.toInt8.toInt32)), .val (.int (14 : Int32))] [(.int (14 : Int32))])) _
    exact retI X0 hx Bd.returns (hb hby d11_24) hr
  · show QI Z (own_f (p2.toInt8.toInt32)) h0 n0 _ s₁.heap _
    rw [e0]
    exact ⟨congrArg (fun z => some (Value.int z)) (Eq.symm ((if_neg vh0).trans ((if_neg vh1).trans ((if_neg vh2).trans ((if_neg vh3).trans ((if_neg vh4).trans ((if_neg vh5).trans ((if_neg vh6).trans ((if_neg vh7).trans ((if_neg vh8).trans ((if_neg vh9).trans ((if_neg vh10).trans ((if_neg vh11).trans ((if_neg vh12).trans ((if_neg vh13).trans (if_pos vh14)))))))))))))))), N0, rfl⟩
set_option maxRecDepth 65536 in
set_option maxHeartbeats 40000000 in
theorem rmIc_15 (l : Launch) (Z : State) (a0 : Array Value) (hw : ∀ d ∈ tables_1, d.before a0 Z = true) (ws : List Jvm.Cond) (b1 : Addr) (p2 : Int32) (k : ClassId) (h0 : Heap) (n0 : Nat) (Z0 : n0 ≤ h0.size) (V_b : Arv Z h0 b1 k .byte (17 : Int32) [(.int (35 : Int32)), (.int (36 : Int32)), (.int (38 : Int32)), (.int (42 : Int32)), (.int (43 : Int32)), (.int (45 : Int32)), (.int (46 : Int32)), (.int (47 : Int32)), (.int (58 : Int32)), (.int (60 : Int32)), (.int (61 : Int32)), (.int (62 : Int32)), (.int (63 : Int32)), (.int (64 : Int32)), (.int (94 : Int32)), (.int (126 : Int32)), (.int (92 : Int32))] (.int (0 : Int32))) (vh0 : ¬ ((35 : Int32) = (p2.toInt8.toInt32))) (vh1 : ¬ ((36 : Int32) = (p2.toInt8.toInt32))) (vh2 : ¬ ((38 : Int32) = (p2.toInt8.toInt32))) (vh3 : ¬ ((42 : Int32) = (p2.toInt8.toInt32))) (vh4 : ¬ ((43 : Int32) = (p2.toInt8.toInt32))) (vh5 : ¬ ((45 : Int32) = (p2.toInt8.toInt32))) (vh6 : ¬ ((46 : Int32) = (p2.toInt8.toInt32))) (vh7 : ¬ ((47 : Int32) = (p2.toInt8.toInt32))) (vh8 : ¬ ((58 : Int32) = (p2.toInt8.toInt32))) (vh9 : ¬ ((60 : Int32) = (p2.toInt8.toInt32))) (vh10 : ¬ ((61 : Int32) = (p2.toInt8.toInt32))) (vh11 : ¬ ((62 : Int32) = (p2.toInt8.toInt32))) (vh12 : ¬ ((63 : Int32) = (p2.toInt8.toInt32))) (vh13 : ¬ ((64 : Int32) = (p2.toInt8.toInt32))) (vh14 : ¬ ((94 : Int32) = (p2.toInt8.toInt32))) (vh15 : (126 : Int32) = (p2.toInt8.toInt32)) :
    MetFree l (⟨"java/lang/StringLatin1", "indexOfChar", "([BIII)I"⟩ : MethodName) (head1 (Jvm.Cond.code (⟨"java/lang/StringLatin1", "indexOfChar", "([BIII)I"⟩ : MethodName) jdk_43_method_23_code 6 (some .int) :: ws) ({ frames := 0, cells := 0, slots := 0, locals := 0 } : Room)) (fun a U => a = #[(.ref b1), (.int p2), (.int (0 : Int32)), (.int (17 : Int32))] ∧ Z.Warmed39 U.vm ∧ U.heap = h0) (fun _ _ _ _ _ => True) (fun _ U o U' => ∃ v L, o = .returned v ∧ QI Z (own_f (p2.toInt8.toInt32)) h0 n0 v U'.heap L ∧ FrameEnd U o U' L ({ frames := 0, cells := 0, slots := 0, locals := 0 } : Room).cells ({ frames := 0, cells := 0, slots := 0, locals := 0 } : Room).slots) := by
  refine MetFree.of_bodySF (plainFor_of_name pn_11) hisR ?_
  intro p e s m args below meth c s₁ Bd hml0 hP hK
  obtain ⟨rfl, hZ, hh⟩ := hP
  have hx := Bd.exec
  have hby := Bd.bytes
  have hml : c.maxLocals = 6 := hml0
  have hown : s.vm.findClass "java/lang/StringLatin1" = some m.cls := findClass_of_methodNamed Bd.named
  have hnm := (name_of_methodNamed Bd.named Bd.method).1
  have X0 : Stand p l e ({ frames := 0, cells := 0, slots := 0, locals := 0 } : Room) s m #[(.ref b1), (.int p2), (.int (0 : Int32)), (.int (17 : Int32))] below meth c s₁ [] 0 0 := Stand.of_body Bd
  have e0 : s₁.heap = h0 := by rw [← hh, Bd.state]; rfl
  have N0 := Fr.nil n0
  have pre0 : ∀ tz, Steps p.tables e below (s₁.setTop (mkF m 0 #[.val (.ref b1), .val (.int p2), .val (.int (0 : Int32)), .val (.int (17 : Int32)), .unset, .unset] [])) tz → Steps p.tables e below (s₁.setTop (entryFrame m #[(.ref b1), (.int p2), (.int (0 : Int32)), (.int (17 : Int32))] 6)) tz := fun tz kz => castTop (ef_11 m b1 p2 (0 : Int32) (17 : Int32)) kz
  obtain ⟨cl1, Ar1, q1, S1, M1, H1, G1⟩ := id V_b
  have hin1 : ¬ ((15 : Int32) < 0 ∨ cl1.slots.size ≤ ((15 : Int32)).toNatClampNeg) := inb_of S1 ⟨by decide, by decide⟩
  have hat1 : cl1.slots[((15 : Int32)).toNatClampNeg]? = some (.int (126 : Int32)) := Has.at H1 hin1 rfl
  obtain ⟨fs, hr, hrun, hended, hW, hsame⟩ := X0.leave (v := some (.int (15 : Int32))) (fun h => by rw [Bd.returns] at h; cases h)
  refine ⟨_, _, pre0 _ ?_, hrun, hended, _, _, rfl, ?_, ⟨_, rfl⟩, hW, hsame.mono (by decide) (by decide)⟩
  · show Steps p.tables e below (s₁.setTop (mkF m 0 #[.val (.ref b1), .val (.int p2), .val (.int (0 : Int32)), .val (.int (17 : Int32)), .unset, .unset] [])) _
    refine XS.iloadN X0.here hx rfl (hb hby d11_0) rfl ?_
    show Steps p.tables e below (s₁.setTop (mkF m 1 #[.val (.ref b1), .val (.int p2), .val (.int (0 : Int32)), .val (.int (17 : Int32)), .unset, .unset] [(.int p2)])) _
    refine XS.i2b X0.here hx rfl (hb hby d11_1) rfl ?_
    show Steps p.tables e below (s₁.setTop (mkF m 2 #[.val (.ref b1), .val (.int p2), .val (.int (0 : Int32)), .val (.int (17 : Int32)), .unset, .unset] [(.int (p2.toInt8.toInt32))])) _
    refine XS.istore X0.here hx rfl (hb hby d11_2) rfl (l' := #[.val (.ref b1), .val (.int p2), .val (.int (0 : Int32)), .val (.int (17 : Int32)), .val (.int (p2.toInt8.toInt32)), .unset]) rfl ?_
    show Steps p.tables e below (s₁.setTop (mkF m 4 #[.val (.ref b1), .val (.int p2), .val (.int (0 : Int32)), .val (.int (17 : Int32)), .val (.int (p2.toInt8.toInt32)), .unset] [])) _
    refine XS.iloadN X0.here hx rfl (hb hby d11_4) rfl ?_
    show Steps p.tables e below (s₁.setTop (mkF m 5 #[.val (.ref b1), .val (.int p2), .val (.int (0 : Int32)), .val (.int (17 : Int32)), .val (.int (p2.toInt8.toInt32)), .unset] [(.int (0 : Int32))])) _
    refine XS.istore X0.here hx rfl (hb hby d11_5) rfl (l' := #[.val (.ref b1), .val (.int p2), .val (.int (0 : Int32)), .val (.int (17 : Int32)), .val (.int (p2.toInt8.toInt32)), .val (.int (0 : Int32))]) rfl ?_
    show Steps p.tables e below (s₁.setTop (mkF m 7 #[.val (.ref b1), .val (.int p2), .val (.int (0 : Int32)), .val (.int (17 : Int32)), .val (.int (p2.toInt8.toInt32)), .val (.int (0 : Int32))] [])) _
    refine tnI b1 p2 (p2.toInt8.toInt32) (0 : Int32) (1 : Int32) (35 : Int32) k X0 hx hZ hw hby hml hown e0 N0 Z0 V_b (by decide) ⟨by decide, by decide⟩ rfl vh0 (by decide) _ ?_
    show Steps p.tables e below (s₁.setTop (mkF m 7 #[.val (.ref b1), .val (.int p2), .val (.int (0 : Int32)), .val (.int (17 : Int32)), .val (.int (p2.toInt8.toInt32)), .val (.int (1 : Int32))] [])) _
    refine tnI b1 p2 (p2.toInt8.toInt32) (1 : Int32) (2 : Int32) (36 : Int32) k X0 hx hZ hw hby hml hown e0 N0 Z0 V_b (by decide) ⟨by decide, by decide⟩ rfl vh1 (by decide) _ ?_
    show Steps p.tables e below (s₁.setTop (mkF m 7 #[.val (.ref b1), .val (.int p2), .val (.int (0 : Int32)), .val (.int (17 : Int32)), .val (.int (p2.toInt8.toInt32)), .val (.int (2 : Int32))] [])) _
    refine tnI b1 p2 (p2.toInt8.toInt32) (2 : Int32) (3 : Int32) (38 : Int32) k X0 hx hZ hw hby hml hown e0 N0 Z0 V_b (by decide) ⟨by decide, by decide⟩ rfl vh2 (by decide) _ ?_
    show Steps p.tables e below (s₁.setTop (mkF m 7 #[.val (.ref b1), .val (.int p2), .val (.int (0 : Int32)), .val (.int (17 : Int32)), .val (.int (p2.toInt8.toInt32)), .val (.int (3 : Int32))] [])) _
    refine tnI b1 p2 (p2.toInt8.toInt32) (3 : Int32) (4 : Int32) (42 : Int32) k X0 hx hZ hw hby hml hown e0 N0 Z0 V_b (by decide) ⟨by decide, by decide⟩ rfl vh3 (by decide) _ ?_
    show Steps p.tables e below (s₁.setTop (mkF m 7 #[.val (.ref b1), .val (.int p2), .val (.int (0 : Int32)), .val (.int (17 : Int32)), .val (.int (p2.toInt8.toInt32)), .val (.int (4 : Int32))] [])) _
    refine tnI b1 p2 (p2.toInt8.toInt32) (4 : Int32) (5 : Int32) (43 : Int32) k X0 hx hZ hw hby hml hown e0 N0 Z0 V_b (by decide) ⟨by decide, by decide⟩ rfl vh4 (by decide) _ ?_
    show Steps p.tables e below (s₁.setTop (mkF m 7 #[.val (.ref b1), .val (.int p2), .val (.int (0 : Int32)), .val (.int (17 : Int32)), .val (.int (p2.toInt8.toInt32)), .val (.int (5 : Int32))] [])) _
    refine tnI b1 p2 (p2.toInt8.toInt32) (5 : Int32) (6 : Int32) (45 : Int32) k X0 hx hZ hw hby hml hown e0 N0 Z0 V_b (by decide) ⟨by decide, by decide⟩ rfl vh5 (by decide) _ ?_
    show Steps p.tables e below (s₁.setTop (mkF m 7 #[.val (.ref b1), .val (.int p2), .val (.int (0 : Int32)), .val (.int (17 : Int32)), .val (.int (p2.toInt8.toInt32)), .val (.int (6 : Int32))] [])) _
    refine tnI b1 p2 (p2.toInt8.toInt32) (6 : Int32) (7 : Int32) (46 : Int32) k X0 hx hZ hw hby hml hown e0 N0 Z0 V_b (by decide) ⟨by decide, by decide⟩ rfl vh6 (by decide) _ ?_
    show Steps p.tables e below (s₁.setTop (mkF m 7 #[.val (.ref b1), .val (.int p2), .val (.int (0 : Int32)), .val (.int (17 : Int32)), .val (.int (p2.toInt8.toInt32)), .val (.int (7 : Int32))] [])) _
    refine tnI b1 p2 (p2.toInt8.toInt32) (7 : Int32) (8 : Int32) (47 : Int32) k X0 hx hZ hw hby hml hown e0 N0 Z0 V_b (by decide) ⟨by decide, by decide⟩ rfl vh7 (by decide) _ ?_
    show Steps p.tables e below (s₁.setTop (mkF m 7 #[.val (.ref b1), .val (.int p2), .val (.int (0 : Int32)), .val (.int (17 : Int32)), .val (.int (p2.toInt8.toInt32)), .val (.int (8 : Int32))] [])) _
    refine tnI b1 p2 (p2.toInt8.toInt32) (8 : Int32) (9 : Int32) (58 : Int32) k X0 hx hZ hw hby hml hown e0 N0 Z0 V_b (by decide) ⟨by decide, by decide⟩ rfl vh8 (by decide) _ ?_
    show Steps p.tables e below (s₁.setTop (mkF m 7 #[.val (.ref b1), .val (.int p2), .val (.int (0 : Int32)), .val (.int (17 : Int32)), .val (.int (p2.toInt8.toInt32)), .val (.int (9 : Int32))] [])) _
    refine tnI b1 p2 (p2.toInt8.toInt32) (9 : Int32) (10 : Int32) (60 : Int32) k X0 hx hZ hw hby hml hown e0 N0 Z0 V_b (by decide) ⟨by decide, by decide⟩ rfl vh9 (by decide) _ ?_
    show Steps p.tables e below (s₁.setTop (mkF m 7 #[.val (.ref b1), .val (.int p2), .val (.int (0 : Int32)), .val (.int (17 : Int32)), .val (.int (p2.toInt8.toInt32)), .val (.int (10 : Int32))] [])) _
    refine tnI b1 p2 (p2.toInt8.toInt32) (10 : Int32) (11 : Int32) (61 : Int32) k X0 hx hZ hw hby hml hown e0 N0 Z0 V_b (by decide) ⟨by decide, by decide⟩ rfl vh10 (by decide) _ ?_
    show Steps p.tables e below (s₁.setTop (mkF m 7 #[.val (.ref b1), .val (.int p2), .val (.int (0 : Int32)), .val (.int (17 : Int32)), .val (.int (p2.toInt8.toInt32)), .val (.int (11 : Int32))] [])) _
    refine tnI b1 p2 (p2.toInt8.toInt32) (11 : Int32) (12 : Int32) (62 : Int32) k X0 hx hZ hw hby hml hown e0 N0 Z0 V_b (by decide) ⟨by decide, by decide⟩ rfl vh11 (by decide) _ ?_
    show Steps p.tables e below (s₁.setTop (mkF m 7 #[.val (.ref b1), .val (.int p2), .val (.int (0 : Int32)), .val (.int (17 : Int32)), .val (.int (p2.toInt8.toInt32)), .val (.int (12 : Int32))] [])) _
    refine tnI b1 p2 (p2.toInt8.toInt32) (12 : Int32) (13 : Int32) (63 : Int32) k X0 hx hZ hw hby hml hown e0 N0 Z0 V_b (by decide) ⟨by decide, by decide⟩ rfl vh12 (by decide) _ ?_
    show Steps p.tables e below (s₁.setTop (mkF m 7 #[.val (.ref b1), .val (.int p2), .val (.int (0 : Int32)), .val (.int (17 : Int32)), .val (.int (p2.toInt8.toInt32)), .val (.int (13 : Int32))] [])) _
    refine tnI b1 p2 (p2.toInt8.toInt32) (13 : Int32) (14 : Int32) (64 : Int32) k X0 hx hZ hw hby hml hown e0 N0 Z0 V_b (by decide) ⟨by decide, by decide⟩ rfl vh13 (by decide) _ ?_
    show Steps p.tables e below (s₁.setTop (mkF m 7 #[.val (.ref b1), .val (.int p2), .val (.int (0 : Int32)), .val (.int (17 : Int32)), .val (.int (p2.toInt8.toInt32)), .val (.int (14 : Int32))] [])) _
    refine tnI b1 p2 (p2.toInt8.toInt32) (14 : Int32) (15 : Int32) (94 : Int32) k X0 hx hZ hw hby hml hown e0 N0 Z0 V_b (by decide) ⟨by decide, by decide⟩ rfl vh14 (by decide) _ ?_
    show Steps p.tables e below (s₁.setTop (mkF m 7 #[.val (.ref b1), .val (.int p2), .val (.int (0 : Int32)), .val (.int (17 : Int32)), .val (.int (p2.toInt8.toInt32)), .val (.int (15 : Int32))] [])) _
    refine XS.iload X0.here hx rfl (hb hby d11_7) rfl ?_
    show Steps p.tables e below (s₁.setTop (mkF m 9 #[.val (.ref b1), .val (.int p2), .val (.int (0 : Int32)), .val (.int (17 : Int32)), .val (.int (p2.toInt8.toInt32)), .val (.int (15 : Int32))] [(.int (15 : Int32))])) _
    refine XS.iloadN X0.here hx rfl (hb hby d11_9) rfl ?_
    show Steps p.tables e below (s₁.setTop (mkF m 10 #[.val (.ref b1), .val (.int p2), .val (.int (0 : Int32)), .val (.int (17 : Int32)), .val (.int (p2.toInt8.toInt32)), .val (.int (15 : Int32))] [(.int (17 : Int32)), (.int (15 : Int32))])) _
    refine XS.icmpNo X0.here hx rfl (hb hby d11_10) rfl (tlt ((by decide) : (15 : Int32) < (17 : Int32))).2.1 ?_
    show Steps p.tables e below (s₁.setTop (mkF m 13 #[.val (.ref b1), .val (.int p2), .val (.int (0 : Int32)), .val (.int (17 : Int32)), .val (.int (p2.toInt8.toInt32)), .val (.int (15 : Int32))] [])) _
    refine XS.aloadN X0.here hx rfl (hb hby d11_13) rfl rfl ?_
    show Steps p.tables e below (s₁.setTop (mkF m 14 #[.val (.ref b1), .val (.int p2), .val (.int (0 : Int32)), .val (.int (17 : Int32)), .val (.int (p2.toInt8.toInt32)), .val (.int (15 : Int32))] [(.ref b1)])) _
    refine XS.iload X0.here hx rfl (hb hby d11_14) rfl ?_
    show Steps p.tables e below (s₁.setTop (mkF m 16 #[.val (.ref b1), .val (.int p2), .val (.int (0 : Int32)), .val (.int (17 : Int32)), .val (.int (p2.toInt8.toInt32)), .val (.int (15 : Int32))] [(.int (15 : Int32)), (.ref b1)])) _
    refine X0.baloadBytes hx (j := (15 : Int32)) (v := (.int (126 : Int32))) (by rw [e0]; exact Ar1.1) (State.isArrayOf_alike hZ.alike Ar1.2.1) Ar1.2.2 hin1 hat1 (g := (mkF m 16 #[.val (.ref b1), .val (.int p2), .val (.int (0 : Int32)), .val (.int (17 : Int32)), .val (.int (p2.toInt8.toInt32)), .val (.int (15 : Int32))] [(.int (15 : Int32)), (.ref b1)])) rfl rfl (hb hby d11_16) _ ?_
    show Steps p.tables e below (s₁.setTop (mkF m 17 #[.val (.ref b1), .val (.int p2), .val (.int (0 : Int32)), .val (.int (17 : Int32)), .val (.int (p2.toInt8.toInt32)), .val (.int (15 : Int32))] [(.int (126 : Int32))])) _
    refine XS.iload X0.here hx rfl (hb hby d11_17) rfl ?_
    show Steps p.tables e below (s₁.setTop (mkF m 19 #[.val (.ref b1), .val (.int p2), .val (.int (0 : Int32)), .val (.int (17 : Int32)), .val (.int (p2.toInt8.toInt32)), .val (.int (15 : Int32))] [(.int (p2.toInt8.toInt32)), (.int (126 : Int32))])) _
    refine XS.icmpNo X0.here hx rfl (hb hby d11_19) rfl (teq (vh15 : (126 : Int32) = (p2.toInt8.toInt32))).2 ?_
    show Steps p.tables e below (s₁.setTop (mkF m 22 #[.val (.ref b1), .val (.int p2), .val (.int (0 : Int32)), .val (.int (17 : Int32)), .val (.int (p2.toInt8.toInt32)), .val (.int (15 : Int32))] [])) _
    refine XS.iload X0.here hx rfl (hb hby d11_22) rfl ?_
    show Steps p.tables e below (s₁.setTop (mkF m 24 #[.val (.ref b1), .val (.int p2), .val (.int (0 : Int32)), .val (.int (17 : Int32)), .val (.int (p2.toInt8.toInt32)), .val (.int (15 : Int32))] [(.int (15 : Int32))])) _
    exact retI X0 hx Bd.returns (hb hby d11_24) hr
  · show QI Z (own_f (p2.toInt8.toInt32)) h0 n0 _ s₁.heap _
    rw [e0]
    exact ⟨congrArg (fun z => some (Value.int z)) (Eq.symm ((if_neg vh0).trans ((if_neg vh1).trans ((if_neg vh2).trans ((if_neg vh3).trans ((if_neg vh4).trans ((if_neg vh5).trans ((if_neg vh6).trans ((if_neg vh7).trans ((if_neg vh8).trans ((if_neg vh9).trans ((if_neg vh10).trans ((if_neg vh11).trans ((if_neg vh12).trans ((if_neg vh13).trans ((if_neg vh14).trans (if_pos vh15))))))))))))))))), N0, rfl⟩
set_option maxRecDepth 65536 in
set_option maxHeartbeats 40000000 in
theorem rmIc_16 (l : Launch) (Z : State) (a0 : Array Value) (hw : ∀ d ∈ tables_1, d.before a0 Z = true) (ws : List Jvm.Cond) (b1 : Addr) (p2 : Int32) (k : ClassId) (h0 : Heap) (n0 : Nat) (Z0 : n0 ≤ h0.size) (V_b : Arv Z h0 b1 k .byte (17 : Int32) [(.int (35 : Int32)), (.int (36 : Int32)), (.int (38 : Int32)), (.int (42 : Int32)), (.int (43 : Int32)), (.int (45 : Int32)), (.int (46 : Int32)), (.int (47 : Int32)), (.int (58 : Int32)), (.int (60 : Int32)), (.int (61 : Int32)), (.int (62 : Int32)), (.int (63 : Int32)), (.int (64 : Int32)), (.int (94 : Int32)), (.int (126 : Int32)), (.int (92 : Int32))] (.int (0 : Int32))) (vh0 : ¬ ((35 : Int32) = (p2.toInt8.toInt32))) (vh1 : ¬ ((36 : Int32) = (p2.toInt8.toInt32))) (vh2 : ¬ ((38 : Int32) = (p2.toInt8.toInt32))) (vh3 : ¬ ((42 : Int32) = (p2.toInt8.toInt32))) (vh4 : ¬ ((43 : Int32) = (p2.toInt8.toInt32))) (vh5 : ¬ ((45 : Int32) = (p2.toInt8.toInt32))) (vh6 : ¬ ((46 : Int32) = (p2.toInt8.toInt32))) (vh7 : ¬ ((47 : Int32) = (p2.toInt8.toInt32))) (vh8 : ¬ ((58 : Int32) = (p2.toInt8.toInt32))) (vh9 : ¬ ((60 : Int32) = (p2.toInt8.toInt32))) (vh10 : ¬ ((61 : Int32) = (p2.toInt8.toInt32))) (vh11 : ¬ ((62 : Int32) = (p2.toInt8.toInt32))) (vh12 : ¬ ((63 : Int32) = (p2.toInt8.toInt32))) (vh13 : ¬ ((64 : Int32) = (p2.toInt8.toInt32))) (vh14 : ¬ ((94 : Int32) = (p2.toInt8.toInt32))) (vh15 : ¬ ((126 : Int32) = (p2.toInt8.toInt32))) (vh16 : (92 : Int32) = (p2.toInt8.toInt32)) :
    MetFree l (⟨"java/lang/StringLatin1", "indexOfChar", "([BIII)I"⟩ : MethodName) (head1 (Jvm.Cond.code (⟨"java/lang/StringLatin1", "indexOfChar", "([BIII)I"⟩ : MethodName) jdk_43_method_23_code 6 (some .int) :: ws) ({ frames := 0, cells := 0, slots := 0, locals := 0 } : Room)) (fun a U => a = #[(.ref b1), (.int p2), (.int (0 : Int32)), (.int (17 : Int32))] ∧ Z.Warmed39 U.vm ∧ U.heap = h0) (fun _ _ _ _ _ => True) (fun _ U o U' => ∃ v L, o = .returned v ∧ QI Z (own_f (p2.toInt8.toInt32)) h0 n0 v U'.heap L ∧ FrameEnd U o U' L ({ frames := 0, cells := 0, slots := 0, locals := 0 } : Room).cells ({ frames := 0, cells := 0, slots := 0, locals := 0 } : Room).slots) := by
  refine MetFree.of_bodySF (plainFor_of_name pn_11) hisR ?_
  intro p e s m args below meth c s₁ Bd hml0 hP hK
  obtain ⟨rfl, hZ, hh⟩ := hP
  have hx := Bd.exec
  have hby := Bd.bytes
  have hml : c.maxLocals = 6 := hml0
  have hown : s.vm.findClass "java/lang/StringLatin1" = some m.cls := findClass_of_methodNamed Bd.named
  have hnm := (name_of_methodNamed Bd.named Bd.method).1
  have X0 : Stand p l e ({ frames := 0, cells := 0, slots := 0, locals := 0 } : Room) s m #[(.ref b1), (.int p2), (.int (0 : Int32)), (.int (17 : Int32))] below meth c s₁ [] 0 0 := Stand.of_body Bd
  have e0 : s₁.heap = h0 := by rw [← hh, Bd.state]; rfl
  have N0 := Fr.nil n0
  have pre0 : ∀ tz, Steps p.tables e below (s₁.setTop (mkF m 0 #[.val (.ref b1), .val (.int p2), .val (.int (0 : Int32)), .val (.int (17 : Int32)), .unset, .unset] [])) tz → Steps p.tables e below (s₁.setTop (entryFrame m #[(.ref b1), (.int p2), (.int (0 : Int32)), (.int (17 : Int32))] 6)) tz := fun tz kz => castTop (ef_11 m b1 p2 (0 : Int32) (17 : Int32)) kz
  obtain ⟨cl1, Ar1, q1, S1, M1, H1, G1⟩ := id V_b
  have hin1 : ¬ ((16 : Int32) < 0 ∨ cl1.slots.size ≤ ((16 : Int32)).toNatClampNeg) := inb_of S1 ⟨by decide, by decide⟩
  have hat1 : cl1.slots[((16 : Int32)).toNatClampNeg]? = some (.int (92 : Int32)) := Has.at H1 hin1 rfl
  obtain ⟨fs, hr, hrun, hended, hW, hsame⟩ := X0.leave (v := some (.int (16 : Int32))) (fun h => by rw [Bd.returns] at h; cases h)
  refine ⟨_, _, pre0 _ ?_, hrun, hended, _, _, rfl, ?_, ⟨_, rfl⟩, hW, hsame.mono (by decide) (by decide)⟩
  · show Steps p.tables e below (s₁.setTop (mkF m 0 #[.val (.ref b1), .val (.int p2), .val (.int (0 : Int32)), .val (.int (17 : Int32)), .unset, .unset] [])) _
    refine XS.iloadN X0.here hx rfl (hb hby d11_0) rfl ?_
    show Steps p.tables e below (s₁.setTop (mkF m 1 #[.val (.ref b1), .val (.int p2), .val (.int (0 : Int32)), .val (.int (17 : Int32)), .unset, .unset] [(.int p2)])) _
    refine XS.i2b X0.here hx rfl (hb hby d11_1) rfl ?_
    show Steps p.tables e below (s₁.setTop (mkF m 2 #[.val (.ref b1), .val (.int p2), .val (.int (0 : Int32)), .val (.int (17 : Int32)), .unset, .unset] [(.int (p2.toInt8.toInt32))])) _
    refine XS.istore X0.here hx rfl (hb hby d11_2) rfl (l' := #[.val (.ref b1), .val (.int p2), .val (.int (0 : Int32)), .val (.int (17 : Int32)), .val (.int (p2.toInt8.toInt32)), .unset]) rfl ?_
    show Steps p.tables e below (s₁.setTop (mkF m 4 #[.val (.ref b1), .val (.int p2), .val (.int (0 : Int32)), .val (.int (17 : Int32)), .val (.int (p2.toInt8.toInt32)), .unset] [])) _
    refine XS.iloadN X0.here hx rfl (hb hby d11_4) rfl ?_
    show Steps p.tables e below (s₁.setTop (mkF m 5 #[.val (.ref b1), .val (.int p2), .val (.int (0 : Int32)), .val (.int (17 : Int32)), .val (.int (p2.toInt8.toInt32)), .unset] [(.int (0 : Int32))])) _
    refine XS.istore X0.here hx rfl (hb hby d11_5) rfl (l' := #[.val (.ref b1), .val (.int p2), .val (.int (0 : Int32)), .val (.int (17 : Int32)), .val (.int (p2.toInt8.toInt32)), .val (.int (0 : Int32))]) rfl ?_
    show Steps p.tables e below (s₁.setTop (mkF m 7 #[.val (.ref b1), .val (.int p2), .val (.int (0 : Int32)), .val (.int (17 : Int32)), .val (.int (p2.toInt8.toInt32)), .val (.int (0 : Int32))] [])) _
    refine tnI b1 p2 (p2.toInt8.toInt32) (0 : Int32) (1 : Int32) (35 : Int32) k X0 hx hZ hw hby hml hown e0 N0 Z0 V_b (by decide) ⟨by decide, by decide⟩ rfl vh0 (by decide) _ ?_
    show Steps p.tables e below (s₁.setTop (mkF m 7 #[.val (.ref b1), .val (.int p2), .val (.int (0 : Int32)), .val (.int (17 : Int32)), .val (.int (p2.toInt8.toInt32)), .val (.int (1 : Int32))] [])) _
    refine tnI b1 p2 (p2.toInt8.toInt32) (1 : Int32) (2 : Int32) (36 : Int32) k X0 hx hZ hw hby hml hown e0 N0 Z0 V_b (by decide) ⟨by decide, by decide⟩ rfl vh1 (by decide) _ ?_
    show Steps p.tables e below (s₁.setTop (mkF m 7 #[.val (.ref b1), .val (.int p2), .val (.int (0 : Int32)), .val (.int (17 : Int32)), .val (.int (p2.toInt8.toInt32)), .val (.int (2 : Int32))] [])) _
    refine tnI b1 p2 (p2.toInt8.toInt32) (2 : Int32) (3 : Int32) (38 : Int32) k X0 hx hZ hw hby hml hown e0 N0 Z0 V_b (by decide) ⟨by decide, by decide⟩ rfl vh2 (by decide) _ ?_
    show Steps p.tables e below (s₁.setTop (mkF m 7 #[.val (.ref b1), .val (.int p2), .val (.int (0 : Int32)), .val (.int (17 : Int32)), .val (.int (p2.toInt8.toInt32)), .val (.int (3 : Int32))] [])) _
    refine tnI b1 p2 (p2.toInt8.toInt32) (3 : Int32) (4 : Int32) (42 : Int32) k X0 hx hZ hw hby hml hown e0 N0 Z0 V_b (by decide) ⟨by decide, by decide⟩ rfl vh3 (by decide) _ ?_
    show Steps p.tables e below (s₁.setTop (mkF m 7 #[.val (.ref b1), .val (.int p2), .val (.int (0 : Int32)), .val (.int (17 : Int32)), .val (.int (p2.toInt8.toInt32)), .val (.int (4 : Int32))] [])) _
    refine tnI b1 p2 (p2.toInt8.toInt32) (4 : Int32) (5 : Int32) (43 : Int32) k X0 hx hZ hw hby hml hown e0 N0 Z0 V_b (by decide) ⟨by decide, by decide⟩ rfl vh4 (by decide) _ ?_
    show Steps p.tables e below (s₁.setTop (mkF m 7 #[.val (.ref b1), .val (.int p2), .val (.int (0 : Int32)), .val (.int (17 : Int32)), .val (.int (p2.toInt8.toInt32)), .val (.int (5 : Int32))] [])) _
    refine tnI b1 p2 (p2.toInt8.toInt32) (5 : Int32) (6 : Int32) (45 : Int32) k X0 hx hZ hw hby hml hown e0 N0 Z0 V_b (by decide) ⟨by decide, by decide⟩ rfl vh5 (by decide) _ ?_
    show Steps p.tables e below (s₁.setTop (mkF m 7 #[.val (.ref b1), .val (.int p2), .val (.int (0 : Int32)), .val (.int (17 : Int32)), .val (.int (p2.toInt8.toInt32)), .val (.int (6 : Int32))] [])) _
    refine tnI b1 p2 (p2.toInt8.toInt32) (6 : Int32) (7 : Int32) (46 : Int32) k X0 hx hZ hw hby hml hown e0 N0 Z0 V_b (by decide) ⟨by decide, by decide⟩ rfl vh6 (by decide) _ ?_
    show Steps p.tables e below (s₁.setTop (mkF m 7 #[.val (.ref b1), .val (.int p2), .val (.int (0 : Int32)), .val (.int (17 : Int32)), .val (.int (p2.toInt8.toInt32)), .val (.int (7 : Int32))] [])) _
    refine tnI b1 p2 (p2.toInt8.toInt32) (7 : Int32) (8 : Int32) (47 : Int32) k X0 hx hZ hw hby hml hown e0 N0 Z0 V_b (by decide) ⟨by decide, by decide⟩ rfl vh7 (by decide) _ ?_
    show Steps p.tables e below (s₁.setTop (mkF m 7 #[.val (.ref b1), .val (.int p2), .val (.int (0 : Int32)), .val (.int (17 : Int32)), .val (.int (p2.toInt8.toInt32)), .val (.int (8 : Int32))] [])) _
    refine tnI b1 p2 (p2.toInt8.toInt32) (8 : Int32) (9 : Int32) (58 : Int32) k X0 hx hZ hw hby hml hown e0 N0 Z0 V_b (by decide) ⟨by decide, by decide⟩ rfl vh8 (by decide) _ ?_
    show Steps p.tables e below (s₁.setTop (mkF m 7 #[.val (.ref b1), .val (.int p2), .val (.int (0 : Int32)), .val (.int (17 : Int32)), .val (.int (p2.toInt8.toInt32)), .val (.int (9 : Int32))] [])) _
    refine tnI b1 p2 (p2.toInt8.toInt32) (9 : Int32) (10 : Int32) (60 : Int32) k X0 hx hZ hw hby hml hown e0 N0 Z0 V_b (by decide) ⟨by decide, by decide⟩ rfl vh9 (by decide) _ ?_
    show Steps p.tables e below (s₁.setTop (mkF m 7 #[.val (.ref b1), .val (.int p2), .val (.int (0 : Int32)), .val (.int (17 : Int32)), .val (.int (p2.toInt8.toInt32)), .val (.int (10 : Int32))] [])) _
    refine tnI b1 p2 (p2.toInt8.toInt32) (10 : Int32) (11 : Int32) (61 : Int32) k X0 hx hZ hw hby hml hown e0 N0 Z0 V_b (by decide) ⟨by decide, by decide⟩ rfl vh10 (by decide) _ ?_
    show Steps p.tables e below (s₁.setTop (mkF m 7 #[.val (.ref b1), .val (.int p2), .val (.int (0 : Int32)), .val (.int (17 : Int32)), .val (.int (p2.toInt8.toInt32)), .val (.int (11 : Int32))] [])) _
    refine tnI b1 p2 (p2.toInt8.toInt32) (11 : Int32) (12 : Int32) (62 : Int32) k X0 hx hZ hw hby hml hown e0 N0 Z0 V_b (by decide) ⟨by decide, by decide⟩ rfl vh11 (by decide) _ ?_
    show Steps p.tables e below (s₁.setTop (mkF m 7 #[.val (.ref b1), .val (.int p2), .val (.int (0 : Int32)), .val (.int (17 : Int32)), .val (.int (p2.toInt8.toInt32)), .val (.int (12 : Int32))] [])) _
    refine tnI b1 p2 (p2.toInt8.toInt32) (12 : Int32) (13 : Int32) (63 : Int32) k X0 hx hZ hw hby hml hown e0 N0 Z0 V_b (by decide) ⟨by decide, by decide⟩ rfl vh12 (by decide) _ ?_
    show Steps p.tables e below (s₁.setTop (mkF m 7 #[.val (.ref b1), .val (.int p2), .val (.int (0 : Int32)), .val (.int (17 : Int32)), .val (.int (p2.toInt8.toInt32)), .val (.int (13 : Int32))] [])) _
    refine tnI b1 p2 (p2.toInt8.toInt32) (13 : Int32) (14 : Int32) (64 : Int32) k X0 hx hZ hw hby hml hown e0 N0 Z0 V_b (by decide) ⟨by decide, by decide⟩ rfl vh13 (by decide) _ ?_
    show Steps p.tables e below (s₁.setTop (mkF m 7 #[.val (.ref b1), .val (.int p2), .val (.int (0 : Int32)), .val (.int (17 : Int32)), .val (.int (p2.toInt8.toInt32)), .val (.int (14 : Int32))] [])) _
    refine tnI b1 p2 (p2.toInt8.toInt32) (14 : Int32) (15 : Int32) (94 : Int32) k X0 hx hZ hw hby hml hown e0 N0 Z0 V_b (by decide) ⟨by decide, by decide⟩ rfl vh14 (by decide) _ ?_
    show Steps p.tables e below (s₁.setTop (mkF m 7 #[.val (.ref b1), .val (.int p2), .val (.int (0 : Int32)), .val (.int (17 : Int32)), .val (.int (p2.toInt8.toInt32)), .val (.int (15 : Int32))] [])) _
    refine tnI b1 p2 (p2.toInt8.toInt32) (15 : Int32) (16 : Int32) (126 : Int32) k X0 hx hZ hw hby hml hown e0 N0 Z0 V_b (by decide) ⟨by decide, by decide⟩ rfl vh15 (by decide) _ ?_
    show Steps p.tables e below (s₁.setTop (mkF m 7 #[.val (.ref b1), .val (.int p2), .val (.int (0 : Int32)), .val (.int (17 : Int32)), .val (.int (p2.toInt8.toInt32)), .val (.int (16 : Int32))] [])) _
    refine XS.iload X0.here hx rfl (hb hby d11_7) rfl ?_
    show Steps p.tables e below (s₁.setTop (mkF m 9 #[.val (.ref b1), .val (.int p2), .val (.int (0 : Int32)), .val (.int (17 : Int32)), .val (.int (p2.toInt8.toInt32)), .val (.int (16 : Int32))] [(.int (16 : Int32))])) _
    refine XS.iloadN X0.here hx rfl (hb hby d11_9) rfl ?_
    show Steps p.tables e below (s₁.setTop (mkF m 10 #[.val (.ref b1), .val (.int p2), .val (.int (0 : Int32)), .val (.int (17 : Int32)), .val (.int (p2.toInt8.toInt32)), .val (.int (16 : Int32))] [(.int (17 : Int32)), (.int (16 : Int32))])) _
    refine XS.icmpNo X0.here hx rfl (hb hby d11_10) rfl (tlt ((by decide) : (16 : Int32) < (17 : Int32))).2.1 ?_
    show Steps p.tables e below (s₁.setTop (mkF m 13 #[.val (.ref b1), .val (.int p2), .val (.int (0 : Int32)), .val (.int (17 : Int32)), .val (.int (p2.toInt8.toInt32)), .val (.int (16 : Int32))] [])) _
    refine XS.aloadN X0.here hx rfl (hb hby d11_13) rfl rfl ?_
    show Steps p.tables e below (s₁.setTop (mkF m 14 #[.val (.ref b1), .val (.int p2), .val (.int (0 : Int32)), .val (.int (17 : Int32)), .val (.int (p2.toInt8.toInt32)), .val (.int (16 : Int32))] [(.ref b1)])) _
    refine XS.iload X0.here hx rfl (hb hby d11_14) rfl ?_
    show Steps p.tables e below (s₁.setTop (mkF m 16 #[.val (.ref b1), .val (.int p2), .val (.int (0 : Int32)), .val (.int (17 : Int32)), .val (.int (p2.toInt8.toInt32)), .val (.int (16 : Int32))] [(.int (16 : Int32)), (.ref b1)])) _
    refine X0.baloadBytes hx (j := (16 : Int32)) (v := (.int (92 : Int32))) (by rw [e0]; exact Ar1.1) (State.isArrayOf_alike hZ.alike Ar1.2.1) Ar1.2.2 hin1 hat1 (g := (mkF m 16 #[.val (.ref b1), .val (.int p2), .val (.int (0 : Int32)), .val (.int (17 : Int32)), .val (.int (p2.toInt8.toInt32)), .val (.int (16 : Int32))] [(.int (16 : Int32)), (.ref b1)])) rfl rfl (hb hby d11_16) _ ?_
    show Steps p.tables e below (s₁.setTop (mkF m 17 #[.val (.ref b1), .val (.int p2), .val (.int (0 : Int32)), .val (.int (17 : Int32)), .val (.int (p2.toInt8.toInt32)), .val (.int (16 : Int32))] [(.int (92 : Int32))])) _
    refine XS.iload X0.here hx rfl (hb hby d11_17) rfl ?_
    show Steps p.tables e below (s₁.setTop (mkF m 19 #[.val (.ref b1), .val (.int p2), .val (.int (0 : Int32)), .val (.int (17 : Int32)), .val (.int (p2.toInt8.toInt32)), .val (.int (16 : Int32))] [(.int (p2.toInt8.toInt32)), (.int (92 : Int32))])) _
    refine XS.icmpNo X0.here hx rfl (hb hby d11_19) rfl (teq (vh16 : (92 : Int32) = (p2.toInt8.toInt32))).2 ?_
    show Steps p.tables e below (s₁.setTop (mkF m 22 #[.val (.ref b1), .val (.int p2), .val (.int (0 : Int32)), .val (.int (17 : Int32)), .val (.int (p2.toInt8.toInt32)), .val (.int (16 : Int32))] [])) _
    refine XS.iload X0.here hx rfl (hb hby d11_22) rfl ?_
    show Steps p.tables e below (s₁.setTop (mkF m 24 #[.val (.ref b1), .val (.int p2), .val (.int (0 : Int32)), .val (.int (17 : Int32)), .val (.int (p2.toInt8.toInt32)), .val (.int (16 : Int32))] [(.int (16 : Int32))])) _
    exact retI X0 hx Bd.returns (hb hby d11_24) hr
  · show QI Z (own_f (p2.toInt8.toInt32)) h0 n0 _ s₁.heap _
    rw [e0]
    exact ⟨congrArg (fun z => some (Value.int z)) (Eq.symm ((if_neg vh0).trans ((if_neg vh1).trans ((if_neg vh2).trans ((if_neg vh3).trans ((if_neg vh4).trans ((if_neg vh5).trans ((if_neg vh6).trans ((if_neg vh7).trans ((if_neg vh8).trans ((if_neg vh9).trans ((if_neg vh10).trans ((if_neg vh11).trans ((if_neg vh12).trans ((if_neg vh13).trans ((if_neg vh14).trans ((if_neg vh15).trans (if_pos vh16)))))))))))))))))), N0, rfl⟩
theorem d11_31 : decode jdk_43_method_23_code 31 = .ok (.iconst (-1), 1) := by decide +kernel
theorem d11_32 : decode jdk_43_method_23_code 32 = .ok (.ireturn, 1) := by decide +kernel
set_option maxRecDepth 65536 in
set_option maxHeartbeats 40000000 in
theorem rmIc_17 (l : Launch) (Z : State) (a0 : Array Value) (hw : ∀ d ∈ tables_1, d.before a0 Z = true) (ws : List Jvm.Cond) (b1 : Addr) (p2 : Int32) (k : ClassId) (h0 : Heap) (n0 : Nat) (Z0 : n0 ≤ h0.size) (V_b : Arv Z h0 b1 k .byte (17 : Int32) [(.int (35 : Int32)), (.int (36 : Int32)), (.int (38 : Int32)), (.int (42 : Int32)), (.int (43 : Int32)), (.int (45 : Int32)), (.int (46 : Int32)), (.int (47 : Int32)), (.int (58 : Int32)), (.int (60 : Int32)), (.int (61 : Int32)), (.int (62 : Int32)), (.int (63 : Int32)), (.int (64 : Int32)), (.int (94 : Int32)), (.int (126 : Int32)), (.int (92 : Int32))] (.int (0 : Int32))) (vh0 : ¬ ((35 : Int32) = (p2.toInt8.toInt32))) (vh1 : ¬ ((36 : Int32) = (p2.toInt8.toInt32))) (vh2 : ¬ ((38 : Int32) = (p2.toInt8.toInt32))) (vh3 : ¬ ((42 : Int32) = (p2.toInt8.toInt32))) (vh4 : ¬ ((43 : Int32) = (p2.toInt8.toInt32))) (vh5 : ¬ ((45 : Int32) = (p2.toInt8.toInt32))) (vh6 : ¬ ((46 : Int32) = (p2.toInt8.toInt32))) (vh7 : ¬ ((47 : Int32) = (p2.toInt8.toInt32))) (vh8 : ¬ ((58 : Int32) = (p2.toInt8.toInt32))) (vh9 : ¬ ((60 : Int32) = (p2.toInt8.toInt32))) (vh10 : ¬ ((61 : Int32) = (p2.toInt8.toInt32))) (vh11 : ¬ ((62 : Int32) = (p2.toInt8.toInt32))) (vh12 : ¬ ((63 : Int32) = (p2.toInt8.toInt32))) (vh13 : ¬ ((64 : Int32) = (p2.toInt8.toInt32))) (vh14 : ¬ ((94 : Int32) = (p2.toInt8.toInt32))) (vh15 : ¬ ((126 : Int32) = (p2.toInt8.toInt32))) (vh16 : ¬ ((92 : Int32) = (p2.toInt8.toInt32))) :
    MetFree l (⟨"java/lang/StringLatin1", "indexOfChar", "([BIII)I"⟩ : MethodName) (head1 (Jvm.Cond.code (⟨"java/lang/StringLatin1", "indexOfChar", "([BIII)I"⟩ : MethodName) jdk_43_method_23_code 6 (some .int) :: ws) ({ frames := 0, cells := 0, slots := 0, locals := 0 } : Room)) (fun a U => a = #[(.ref b1), (.int p2), (.int (0 : Int32)), (.int (17 : Int32))] ∧ Z.Warmed39 U.vm ∧ U.heap = h0) (fun _ _ _ _ _ => True) (fun _ U o U' => ∃ v L, o = .returned v ∧ QI Z (own_f (p2.toInt8.toInt32)) h0 n0 v U'.heap L ∧ FrameEnd U o U' L ({ frames := 0, cells := 0, slots := 0, locals := 0 } : Room).cells ({ frames := 0, cells := 0, slots := 0, locals := 0 } : Room).slots) := by
  refine MetFree.of_bodySF (plainFor_of_name pn_11) hisR ?_
  intro p e s m args below meth c s₁ Bd hml0 hP hK
  obtain ⟨rfl, hZ, hh⟩ := hP
  have hx := Bd.exec
  have hby := Bd.bytes
  have hml : c.maxLocals = 6 := hml0
  have hown : s.vm.findClass "java/lang/StringLatin1" = some m.cls := findClass_of_methodNamed Bd.named
  have hnm := (name_of_methodNamed Bd.named Bd.method).1
  have X0 : Stand p l e ({ frames := 0, cells := 0, slots := 0, locals := 0 } : Room) s m #[(.ref b1), (.int p2), (.int (0 : Int32)), (.int (17 : Int32))] below meth c s₁ [] 0 0 := Stand.of_body Bd
  have e0 : s₁.heap = h0 := by rw [← hh, Bd.state]; rfl
  have N0 := Fr.nil n0
  have pre0 : ∀ tz, Steps p.tables e below (s₁.setTop (mkF m 0 #[.val (.ref b1), .val (.int p2), .val (.int (0 : Int32)), .val (.int (17 : Int32)), .unset, .unset] [])) tz → Steps p.tables e below (s₁.setTop (entryFrame m #[(.ref b1), (.int p2), (.int (0 : Int32)), (.int (17 : Int32))] 6)) tz := fun tz kz => castTop (ef_11 m b1 p2 (0 : Int32) (17 : Int32)) kz
  obtain ⟨fs, hr, hrun, hended, hW, hsame⟩ := X0.leave (v := some (.int (-1 : Int32))) (fun h => by rw [Bd.returns] at h; cases h)
  refine ⟨_, _, pre0 _ ?_, hrun, hended, _, _, rfl, ?_, ⟨_, rfl⟩, hW, hsame.mono (by decide) (by decide)⟩
  · show Steps p.tables e below (s₁.setTop (mkF m 0 #[.val (.ref b1), .val (.int p2), .val (.int (0 : Int32)), .val (.int (17 : Int32)), .unset, .unset] [])) _
    refine XS.iloadN X0.here hx rfl (hb hby d11_0) rfl ?_
    show Steps p.tables e below (s₁.setTop (mkF m 1 #[.val (.ref b1), .val (.int p2), .val (.int (0 : Int32)), .val (.int (17 : Int32)), .unset, .unset] [(.int p2)])) _
    refine XS.i2b X0.here hx rfl (hb hby d11_1) rfl ?_
    show Steps p.tables e below (s₁.setTop (mkF m 2 #[.val (.ref b1), .val (.int p2), .val (.int (0 : Int32)), .val (.int (17 : Int32)), .unset, .unset] [(.int (p2.toInt8.toInt32))])) _
    refine XS.istore X0.here hx rfl (hb hby d11_2) rfl (l' := #[.val (.ref b1), .val (.int p2), .val (.int (0 : Int32)), .val (.int (17 : Int32)), .val (.int (p2.toInt8.toInt32)), .unset]) rfl ?_
    show Steps p.tables e below (s₁.setTop (mkF m 4 #[.val (.ref b1), .val (.int p2), .val (.int (0 : Int32)), .val (.int (17 : Int32)), .val (.int (p2.toInt8.toInt32)), .unset] [])) _
    refine XS.iloadN X0.here hx rfl (hb hby d11_4) rfl ?_
    show Steps p.tables e below (s₁.setTop (mkF m 5 #[.val (.ref b1), .val (.int p2), .val (.int (0 : Int32)), .val (.int (17 : Int32)), .val (.int (p2.toInt8.toInt32)), .unset] [(.int (0 : Int32))])) _
    refine XS.istore X0.here hx rfl (hb hby d11_5) rfl (l' := #[.val (.ref b1), .val (.int p2), .val (.int (0 : Int32)), .val (.int (17 : Int32)), .val (.int (p2.toInt8.toInt32)), .val (.int (0 : Int32))]) rfl ?_
    show Steps p.tables e below (s₁.setTop (mkF m 7 #[.val (.ref b1), .val (.int p2), .val (.int (0 : Int32)), .val (.int (17 : Int32)), .val (.int (p2.toInt8.toInt32)), .val (.int (0 : Int32))] [])) _
    refine tnI b1 p2 (p2.toInt8.toInt32) (0 : Int32) (1 : Int32) (35 : Int32) k X0 hx hZ hw hby hml hown e0 N0 Z0 V_b (by decide) ⟨by decide, by decide⟩ rfl vh0 (by decide) _ ?_
    show Steps p.tables e below (s₁.setTop (mkF m 7 #[.val (.ref b1), .val (.int p2), .val (.int (0 : Int32)), .val (.int (17 : Int32)), .val (.int (p2.toInt8.toInt32)), .val (.int (1 : Int32))] [])) _
    refine tnI b1 p2 (p2.toInt8.toInt32) (1 : Int32) (2 : Int32) (36 : Int32) k X0 hx hZ hw hby hml hown e0 N0 Z0 V_b (by decide) ⟨by decide, by decide⟩ rfl vh1 (by decide) _ ?_
    show Steps p.tables e below (s₁.setTop (mkF m 7 #[.val (.ref b1), .val (.int p2), .val (.int (0 : Int32)), .val (.int (17 : Int32)), .val (.int (p2.toInt8.toInt32)), .val (.int (2 : Int32))] [])) _
    refine tnI b1 p2 (p2.toInt8.toInt32) (2 : Int32) (3 : Int32) (38 : Int32) k X0 hx hZ hw hby hml hown e0 N0 Z0 V_b (by decide) ⟨by decide, by decide⟩ rfl vh2 (by decide) _ ?_
    show Steps p.tables e below (s₁.setTop (mkF m 7 #[.val (.ref b1), .val (.int p2), .val (.int (0 : Int32)), .val (.int (17 : Int32)), .val (.int (p2.toInt8.toInt32)), .val (.int (3 : Int32))] [])) _
    refine tnI b1 p2 (p2.toInt8.toInt32) (3 : Int32) (4 : Int32) (42 : Int32) k X0 hx hZ hw hby hml hown e0 N0 Z0 V_b (by decide) ⟨by decide, by decide⟩ rfl vh3 (by decide) _ ?_
    show Steps p.tables e below (s₁.setTop (mkF m 7 #[.val (.ref b1), .val (.int p2), .val (.int (0 : Int32)), .val (.int (17 : Int32)), .val (.int (p2.toInt8.toInt32)), .val (.int (4 : Int32))] [])) _
    refine tnI b1 p2 (p2.toInt8.toInt32) (4 : Int32) (5 : Int32) (43 : Int32) k X0 hx hZ hw hby hml hown e0 N0 Z0 V_b (by decide) ⟨by decide, by decide⟩ rfl vh4 (by decide) _ ?_
    show Steps p.tables e below (s₁.setTop (mkF m 7 #[.val (.ref b1), .val (.int p2), .val (.int (0 : Int32)), .val (.int (17 : Int32)), .val (.int (p2.toInt8.toInt32)), .val (.int (5 : Int32))] [])) _
    refine tnI b1 p2 (p2.toInt8.toInt32) (5 : Int32) (6 : Int32) (45 : Int32) k X0 hx hZ hw hby hml hown e0 N0 Z0 V_b (by decide) ⟨by decide, by decide⟩ rfl vh5 (by decide) _ ?_
    show Steps p.tables e below (s₁.setTop (mkF m 7 #[.val (.ref b1), .val (.int p2), .val (.int (0 : Int32)), .val (.int (17 : Int32)), .val (.int (p2.toInt8.toInt32)), .val (.int (6 : Int32))] [])) _
    refine tnI b1 p2 (p2.toInt8.toInt32) (6 : Int32) (7 : Int32) (46 : Int32) k X0 hx hZ hw hby hml hown e0 N0 Z0 V_b (by decide) ⟨by decide, by decide⟩ rfl vh6 (by decide) _ ?_
    show Steps p.tables e below (s₁.setTop (mkF m 7 #[.val (.ref b1), .val (.int p2), .val (.int (0 : Int32)), .val (.int (17 : Int32)), .val (.int (p2.toInt8.toInt32)), .val (.int (7 : Int32))] [])) _
    refine tnI b1 p2 (p2.toInt8.toInt32) (7 : Int32) (8 : Int32) (47 : Int32) k X0 hx hZ hw hby hml hown e0 N0 Z0 V_b (by decide) ⟨by decide, by decide⟩ rfl vh7 (by decide) _ ?_
    show Steps p.tables e below (s₁.setTop (mkF m 7 #[.val (.ref b1), .val (.int p2), .val (.int (0 : Int32)), .val (.int (17 : Int32)), .val (.int (p2.toInt8.toInt32)), .val (.int (8 : Int32))] [])) _
    refine tnI b1 p2 (p2.toInt8.toInt32) (8 : Int32) (9 : Int32) (58 : Int32) k X0 hx hZ hw hby hml hown e0 N0 Z0 V_b (by decide) ⟨by decide, by decide⟩ rfl vh8 (by decide) _ ?_
    show Steps p.tables e below (s₁.setTop (mkF m 7 #[.val (.ref b1), .val (.int p2), .val (.int (0 : Int32)), .val (.int (17 : Int32)), .val (.int (p2.toInt8.toInt32)), .val (.int (9 : Int32))] [])) _
    refine tnI b1 p2 (p2.toInt8.toInt32) (9 : Int32) (10 : Int32) (60 : Int32) k X0 hx hZ hw hby hml hown e0 N0 Z0 V_b (by decide) ⟨by decide, by decide⟩ rfl vh9 (by decide) _ ?_
    show Steps p.tables e below (s₁.setTop (mkF m 7 #[.val (.ref b1), .val (.int p2), .val (.int (0 : Int32)), .val (.int (17 : Int32)), .val (.int (p2.toInt8.toInt32)), .val (.int (10 : Int32))] [])) _
    refine tnI b1 p2 (p2.toInt8.toInt32) (10 : Int32) (11 : Int32) (61 : Int32) k X0 hx hZ hw hby hml hown e0 N0 Z0 V_b (by decide) ⟨by decide, by decide⟩ rfl vh10 (by decide) _ ?_
    show Steps p.tables e below (s₁.setTop (mkF m 7 #[.val (.ref b1), .val (.int p2), .val (.int (0 : Int32)), .val (.int (17 : Int32)), .val (.int (p2.toInt8.toInt32)), .val (.int (11 : Int32))] [])) _
    refine tnI b1 p2 (p2.toInt8.toInt32) (11 : Int32) (12 : Int32) (62 : Int32) k X0 hx hZ hw hby hml hown e0 N0 Z0 V_b (by decide) ⟨by decide, by decide⟩ rfl vh11 (by decide) _ ?_
    show Steps p.tables e below (s₁.setTop (mkF m 7 #[.val (.ref b1), .val (.int p2), .val (.int (0 : Int32)), .val (.int (17 : Int32)), .val (.int (p2.toInt8.toInt32)), .val (.int (12 : Int32))] [])) _
    refine tnI b1 p2 (p2.toInt8.toInt32) (12 : Int32) (13 : Int32) (63 : Int32) k X0 hx hZ hw hby hml hown e0 N0 Z0 V_b (by decide) ⟨by decide, by decide⟩ rfl vh12 (by decide) _ ?_
    show Steps p.tables e below (s₁.setTop (mkF m 7 #[.val (.ref b1), .val (.int p2), .val (.int (0 : Int32)), .val (.int (17 : Int32)), .val (.int (p2.toInt8.toInt32)), .val (.int (13 : Int32))] [])) _
    refine tnI b1 p2 (p2.toInt8.toInt32) (13 : Int32) (14 : Int32) (64 : Int32) k X0 hx hZ hw hby hml hown e0 N0 Z0 V_b (by decide) ⟨by decide, by decide⟩ rfl vh13 (by decide) _ ?_
    show Steps p.tables e below (s₁.setTop (mkF m 7 #[.val (.ref b1), .val (.int p2), .val (.int (0 : Int32)), .val (.int (17 : Int32)), .val (.int (p2.toInt8.toInt32)), .val (.int (14 : Int32))] [])) _
    refine tnI b1 p2 (p2.toInt8.toInt32) (14 : Int32) (15 : Int32) (94 : Int32) k X0 hx hZ hw hby hml hown e0 N0 Z0 V_b (by decide) ⟨by decide, by decide⟩ rfl vh14 (by decide) _ ?_
    show Steps p.tables e below (s₁.setTop (mkF m 7 #[.val (.ref b1), .val (.int p2), .val (.int (0 : Int32)), .val (.int (17 : Int32)), .val (.int (p2.toInt8.toInt32)), .val (.int (15 : Int32))] [])) _
    refine tnI b1 p2 (p2.toInt8.toInt32) (15 : Int32) (16 : Int32) (126 : Int32) k X0 hx hZ hw hby hml hown e0 N0 Z0 V_b (by decide) ⟨by decide, by decide⟩ rfl vh15 (by decide) _ ?_
    show Steps p.tables e below (s₁.setTop (mkF m 7 #[.val (.ref b1), .val (.int p2), .val (.int (0 : Int32)), .val (.int (17 : Int32)), .val (.int (p2.toInt8.toInt32)), .val (.int (16 : Int32))] [])) _
    refine tnI b1 p2 (p2.toInt8.toInt32) (16 : Int32) (17 : Int32) (92 : Int32) k X0 hx hZ hw hby hml hown e0 N0 Z0 V_b (by decide) ⟨by decide, by decide⟩ rfl vh16 (by decide) _ ?_
    show Steps p.tables e below (s₁.setTop (mkF m 7 #[.val (.ref b1), .val (.int p2), .val (.int (0 : Int32)), .val (.int (17 : Int32)), .val (.int (p2.toInt8.toInt32)), .val (.int (17 : Int32))] [])) _
    refine XS.iload X0.here hx rfl (hb hby d11_7) rfl ?_
    show Steps p.tables e below (s₁.setTop (mkF m 9 #[.val (.ref b1), .val (.int p2), .val (.int (0 : Int32)), .val (.int (17 : Int32)), .val (.int (p2.toInt8.toInt32)), .val (.int (17 : Int32))] [(.int (17 : Int32))])) _
    refine XS.iloadN X0.here hx rfl (hb hby d11_9) rfl ?_
    show Steps p.tables e below (s₁.setTop (mkF m 10 #[.val (.ref b1), .val (.int p2), .val (.int (0 : Int32)), .val (.int (17 : Int32)), .val (.int (p2.toInt8.toInt32)), .val (.int (17 : Int32))] [(.int (17 : Int32)), (.int (17 : Int32))])) _
    refine XS.icmpYes X0.here hx rfl (pc0 := 10) (pc' := 31) rfl (hb hby d11_10) rfl (flt ((by decide) : ¬ ((17 : Int32) < (17 : Int32)))).2.1 (by decide) (by decide) ?_
    show Steps p.tables e below (s₁.setTop (mkF m 31 #[.val (.ref b1), .val (.int p2), .val (.int (0 : Int32)), .val (.int (17 : Int32)), .val (.int (p2.toInt8.toInt32)), .val (.int (17 : Int32))] [])) _
    refine XS.iconst X0.here hx rfl (hb hby d11_31) ?_
    show Steps p.tables e below (s₁.setTop (mkF m 32 #[.val (.ref b1), .val (.int p2), .val (.int (0 : Int32)), .val (.int (17 : Int32)), .val (.int (p2.toInt8.toInt32)), .val (.int (17 : Int32))] [(.int (-1 : Int32))])) _
    exact retI X0 hx Bd.returns (hb hby d11_32) hr
  · show QI Z (own_f (p2.toInt8.toInt32)) h0 n0 _ s₁.heap _
    rw [e0]
    exact ⟨congrArg (fun z => some (Value.int z)) (Eq.symm ((if_neg vh0).trans ((if_neg vh1).trans ((if_neg vh2).trans ((if_neg vh3).trans ((if_neg vh4).trans ((if_neg vh5).trans ((if_neg vh6).trans ((if_neg vh7).trans ((if_neg vh8).trans ((if_neg vh9).trans ((if_neg vh10).trans ((if_neg vh11).trans ((if_neg vh12).trans ((if_neg vh13).trans ((if_neg vh14).trans ((if_neg vh15).trans ((if_neg vh16).trans (rfl))))))))))))))))))), N0, rfl⟩
theorem rmIc (l : Launch) (Z : State) (a0 : Array Value) (hw : ∀ d ∈ tables_1, d.before a0 Z = true) (ws : List Jvm.Cond) (b1 : Addr) (p2 : Int32) (k : ClassId) (h0 : Heap) (n0 : Nat) (Z0 : n0 ≤ h0.size) (V_b : Arv Z h0 b1 k .byte (17 : Int32) [(.int (35 : Int32)), (.int (36 : Int32)), (.int (38 : Int32)), (.int (42 : Int32)), (.int (43 : Int32)), (.int (45 : Int32)), (.int (46 : Int32)), (.int (47 : Int32)), (.int (58 : Int32)), (.int (60 : Int32)), (.int (61 : Int32)), (.int (62 : Int32)), (.int (63 : Int32)), (.int (64 : Int32)), (.int (94 : Int32)), (.int (126 : Int32)), (.int (92 : Int32))] (.int (0 : Int32))) : MetFree l (⟨"java/lang/StringLatin1", "indexOfChar", "([BIII)I"⟩ : MethodName) (head1 (Jvm.Cond.code (⟨"java/lang/StringLatin1", "indexOfChar", "([BIII)I"⟩ : MethodName) jdk_43_method_23_code 6 (some .int) :: ws) ({ frames := 0, cells := 0, slots := 0, locals := 0 } : Room)) (fun a U => a = #[(.ref b1), (.int p2), (.int (0 : Int32)), (.int (17 : Int32))] ∧ Z.Warmed39 U.vm ∧ U.heap = h0) (fun _ _ _ _ _ => True) (fun _ U o U' => ∃ v L, o = .returned v ∧ QI Z (own_f (p2.toInt8.toInt32)) h0 n0 v U'.heap L ∧ FrameEnd U o U' L ({ frames := 0, cells := 0, slots := 0, locals := 0 } : Room).cells ({ frames := 0, cells := 0, slots := 0, locals := 0 } : Room).slots) := by
  by_cases vh0 : (35 : Int32) = (p2.toInt8.toInt32)
  · exact rmIc_0 l Z a0 hw ws b1 p2 k h0 n0 Z0 V_b vh0
  by_cases vh1 : (36 : Int32) = (p2.toInt8.toInt32)
  · exact rmIc_1 l Z a0 hw ws b1 p2 k h0 n0 Z0 V_b vh0 vh1
  by_cases vh2 : (38 : Int32) = (p2.toInt8.toInt32)
  · exact rmIc_2 l Z a0 hw ws b1 p2 k h0 n0 Z0 V_b vh0 vh1 vh2
  by_cases vh3 : (42 : Int32) = (p2.toInt8.toInt32)
  · exact rmIc_3 l Z a0 hw ws b1 p2 k h0 n0 Z0 V_b vh0 vh1 vh2 vh3
  by_cases vh4 : (43 : Int32) = (p2.toInt8.toInt32)
  · exact rmIc_4 l Z a0 hw ws b1 p2 k h0 n0 Z0 V_b vh0 vh1 vh2 vh3 vh4
  by_cases vh5 : (45 : Int32) = (p2.toInt8.toInt32)
  · exact rmIc_5 l Z a0 hw ws b1 p2 k h0 n0 Z0 V_b vh0 vh1 vh2 vh3 vh4 vh5
  by_cases vh6 : (46 : Int32) = (p2.toInt8.toInt32)
  · exact rmIc_6 l Z a0 hw ws b1 p2 k h0 n0 Z0 V_b vh0 vh1 vh2 vh3 vh4 vh5 vh6
  by_cases vh7 : (47 : Int32) = (p2.toInt8.toInt32)
  · exact rmIc_7 l Z a0 hw ws b1 p2 k h0 n0 Z0 V_b vh0 vh1 vh2 vh3 vh4 vh5 vh6 vh7
  by_cases vh8 : (58 : Int32) = (p2.toInt8.toInt32)
  · exact rmIc_8 l Z a0 hw ws b1 p2 k h0 n0 Z0 V_b vh0 vh1 vh2 vh3 vh4 vh5 vh6 vh7 vh8
  by_cases vh9 : (60 : Int32) = (p2.toInt8.toInt32)
  · exact rmIc_9 l Z a0 hw ws b1 p2 k h0 n0 Z0 V_b vh0 vh1 vh2 vh3 vh4 vh5 vh6 vh7 vh8 vh9
  by_cases vh10 : (61 : Int32) = (p2.toInt8.toInt32)
  · exact rmIc_10 l Z a0 hw ws b1 p2 k h0 n0 Z0 V_b vh0 vh1 vh2 vh3 vh4 vh5 vh6 vh7 vh8 vh9 vh10
  by_cases vh11 : (62 : Int32) = (p2.toInt8.toInt32)
  · exact rmIc_11 l Z a0 hw ws b1 p2 k h0 n0 Z0 V_b vh0 vh1 vh2 vh3 vh4 vh5 vh6 vh7 vh8 vh9 vh10 vh11
  by_cases vh12 : (63 : Int32) = (p2.toInt8.toInt32)
  · exact rmIc_12 l Z a0 hw ws b1 p2 k h0 n0 Z0 V_b vh0 vh1 vh2 vh3 vh4 vh5 vh6 vh7 vh8 vh9 vh10 vh11 vh12
  by_cases vh13 : (64 : Int32) = (p2.toInt8.toInt32)
  · exact rmIc_13 l Z a0 hw ws b1 p2 k h0 n0 Z0 V_b vh0 vh1 vh2 vh3 vh4 vh5 vh6 vh7 vh8 vh9 vh10 vh11 vh12 vh13
  by_cases vh14 : (94 : Int32) = (p2.toInt8.toInt32)
  · exact rmIc_14 l Z a0 hw ws b1 p2 k h0 n0 Z0 V_b vh0 vh1 vh2 vh3 vh4 vh5 vh6 vh7 vh8 vh9 vh10 vh11 vh12 vh13 vh14
  by_cases vh15 : (126 : Int32) = (p2.toInt8.toInt32)
  · exact rmIc_15 l Z a0 hw ws b1 p2 k h0 n0 Z0 V_b vh0 vh1 vh2 vh3 vh4 vh5 vh6 vh7 vh8 vh9 vh10 vh11 vh12 vh13 vh14 vh15
  by_cases vh16 : (92 : Int32) = (p2.toInt8.toInt32)
  · exact rmIc_16 l Z a0 hw ws b1 p2 k h0 n0 Z0 V_b vh0 vh1 vh2 vh3 vh4 vh5 vh6 vh7 vh8 vh9 vh10 vh11 vh12 vh13 vh14 vh15 vh16
  exact rmIc_17 l Z a0 hw ws b1 p2 k h0 n0 Z0 V_b vh0 vh1 vh2 vh3 vh4 vh5 vh6 vh7 vh8 vh9 vh10 vh11 vh12 vh13 vh14 vh15 vh16
theorem d7_0 : decode jdk_43_method_22_code 0 = .ok (.iload_n 1, 1) := by decide +kernel
theorem d7_1 : decode jdk_43_method_22_code 1 = .ok (.invokestatic 88, 3) := by decide +kernel
theorem d7_4 : decode jdk_43_method_22_code 4 = .ok (.ifCond .ne 5, 3) := by decide +kernel
theorem d7_7 : decode jdk_43_method_22_code 7 = .ok (.iconst (-1), 1) := by decide +kernel
theorem d7_8 : decode jdk_43_method_22_code 8 = .ok (.ireturn, 1) := by decide +kernel
theorem pd_7_0 : parseMethodDescriptor "(I)Z" = some ⟨[.int], some .boolean⟩ := by decide +kernel
theorem pn_7 : plainName "java/lang/StringLatin1" = true := by first | (simp [plainName, overriddenIn]; done) | decide +kernel
theorem ef_7 (m : MethodId) (x0 : Addr) (x1 : Int32) (x2 : Int32) (x3 : Int32) : entryFrame m #[(.ref x0), (.int x1), (.int x2), (.int x3)] 4 = mkF m 0 #[.val (.ref x0), .val (.int x1), .val (.int x2), .val (.int x3)] [] := by first | (simp [entryFrame, mkF, argsToLocals, Value.category]; done) | rfl
set_option maxRecDepth 65536 in
set_option maxHeartbeats 40000000 in
theorem rmLia (l : Launch) (Z : State) (a0 : Array Value) (hw : ∀ d ∈ tables_1, d.before a0 Z = true) (ws : List Jvm.Cond) (b1 : Addr) (p2 : Int32) (k : ClassId) (h0 : Heap) (n0 : Nat) (Z0 : n0 ≤ h0.size) (V_b : Arv Z h0 b1 k .byte (17 : Int32) [(.int (35 : Int32)), (.int (36 : Int32)), (.int (38 : Int32)), (.int (42 : Int32)), (.int (43 : Int32)), (.int (45 : Int32)), (.int (46 : Int32)), (.int (47 : Int32)), (.int (58 : Int32)), (.int (60 : Int32)), (.int (61 : Int32)), (.int (62 : Int32)), (.int (63 : Int32)), (.int (64 : Int32)), (.int (94 : Int32)), (.int (126 : Int32)), (.int (92 : Int32))] (.int (0 : Int32))) (hq : own_ce p2 = (0 : Int32)) :
    MetFree l (⟨"java/lang/StringLatin1", "indexOf", "([BIII)I"⟩ : MethodName) (head1 (Jvm.Cond.code (⟨"java/lang/StringLatin1", "indexOf", "([BIII)I"⟩ : MethodName) jdk_43_method_22_code 4 (some .int) :: ws) ({ frames := 1, cells := 0, slots := 0, locals := 17 } : Room)) (fun a U => a = #[(.ref b1), (.int p2), (.int (0 : Int32)), (.int (17 : Int32))] ∧ Z.Warmed39 U.vm ∧ U.heap = h0) (fun _ _ _ _ _ => True) (fun _ U o U' => ∃ v L, o = .returned v ∧ QI Z (own_ix p2) h0 n0 v U'.heap L ∧ FrameEnd U o U' L ({ frames := 1, cells := 0, slots := 0, locals := 17 } : Room).cells ({ frames := 1, cells := 0, slots := 0, locals := 17 } : Room).slots) := by
  refine MetFree.of_bodySF (plainFor_of_name pn_7) hisR ?_
  intro p e s m args below meth c s₁ Bd hml0 hP hK
  obtain ⟨rfl, hZ, hh⟩ := hP
  have hx := Bd.exec
  have hby := Bd.bytes
  have hml : c.maxLocals = 4 := hml0
  have hown : s.vm.findClass "java/lang/StringLatin1" = some m.cls := findClass_of_methodNamed Bd.named
  have hnm := (name_of_methodNamed Bd.named Bd.method).1
  have X0 : Stand p l e ({ frames := 1, cells := 0, slots := 0, locals := 17 } : Room) s m #[(.ref b1), (.int p2), (.int (0 : Int32)), (.int (17 : Int32))] below meth c s₁ [] 0 0 := Stand.of_body Bd
  have e0 : s₁.heap = h0 := by rw [← hh, Bd.state]; rfl
  have N0 := Fr.nil n0
  have pre0 : ∀ tz, Steps p.tables e below (s₁.setTop (mkF m 0 #[.val (.ref b1), .val (.int p2), .val (.int (0 : Int32)), .val (.int (17 : Int32))] [])) tz → Steps p.tables e below (s₁.setTop (entryFrame m #[(.ref b1), (.int p2), (.int (0 : Int32)), (.int (17 : Int32))] 4)) tz := fun tz kz => castTop (ef_7 m b1 p2 (0 : Int32) (17 : Int32)) kz
  obtain ⟨_, _, ⟨T1, L1, k1, n1⟩, -, X1, ⟨Lc1, hQ1, l1, y1, z1⟩, st1⟩ := Jvm.LawKit.callS X0 hx (y := (⟨"java/lang/StringLatin1", "canEncode", "(I)Z"⟩ : MethodName)) hown (mvT hZ (hw _ (List.mem_of_getElem? (i := 45) rfl))) (mvT hZ (hw _ (List.mem_of_getElem? (i := 46) rfl))) (mvT hZ (hw _ (List.mem_of_getElem? (i := 43) rfl))) (mvT hZ (hw _ (List.mem_of_getElem? (i := 47) rfl))) (by decide) (backOf (W := 0) (rmCe l Z a0 hw [] p2 h0 n0 Z0) hZ (hw _ (List.mem_of_getElem? (i := 47) rfl)) (hw _ (List.mem_of_getElem? (i := 43) rfl)) (by decide) (by decide)) (g := (mkF m 1 #[.val (.ref b1), .val (.int p2), .val (.int (0 : Int32)), .val (.int (17 : Int32))] [(.int p2)])) rfl (by rw [hml]; rfl) (argsL := [(.int p2)]) (rest := []) (lenOf pd_7_0 rfl) rfl (by show 2 * 0 + _ ≤ _; exact Nat.le_of_eq rfl) (hb hby d7_1) (fun _ _ => ⟨rfl, e0, (by decide : 0 + 0 ≤ _), (by decide : 0 + 0 ≤ _)⟩)
  dsimp only [Pt.U, Pt.locs, Pt.cells, Pt.slots] at X1 l1 y1 z1 st1 hQ1
  subst l1 y1 z1
  obtain ⟨rfl, N1q, eh1⟩ := hQ1
  have N1 := Fr.app N0 N1q
  obtain ⟨fs, hr, hrun, hended, hW, hsame⟩ := X1.leave (v := some (.int (-1 : Int32))) (fun h => by rw [Bd.returns] at h; cases h)
  refine ⟨_, _, pre0 _ ?_, hrun, hended, _, _, rfl, ?_, ⟨_, rfl⟩, hW, hsame.mono (by decide) (by decide)⟩
  · show Steps p.tables e below (s₁.setTop (mkF m 0 #[.val (.ref b1), .val (.int p2), .val (.int (0 : Int32)), .val (.int (17 : Int32))] [])) _
    refine XS.iloadN X0.here hx rfl (hb hby d7_0) rfl ?_
    show Steps p.tables e below (s₁.setTop (mkF m 1 #[.val (.ref b1), .val (.int p2), .val (.int (0 : Int32)), .val (.int (17 : Int32))] [(.int p2)])) _
    refine st1 _ ?_
    show Steps p.tables e below (T1.setTop (mkF m 4 #[.val (.ref b1), .val (.int p2), .val (.int (0 : Int32)), .val (.int (17 : Int32))] [(.int (own_ce p2))])) _
    refine XS.ifNo X1.here hx rfl (hb hby d7_4) rfl ((if0 _ _).trans (teq (hq : (own_ce p2) = (0 : Int32))).2) ?_
    show Steps p.tables e below (T1.setTop (mkF m 7 #[.val (.ref b1), .val (.int p2), .val (.int (0 : Int32)), .val (.int (17 : Int32))] [])) _
    refine XS.iconst X1.here hx rfl (hb hby d7_7) ?_
    show Steps p.tables e below (T1.setTop (mkF m 8 #[.val (.ref b1), .val (.int p2), .val (.int (0 : Int32)), .val (.int (17 : Int32))] [(.int (-1 : Int32))])) _
    exact retI X1 hx Bd.returns (hb hby d7_8) hr
  · show QI Z (own_ix p2) h0 n0 _ T1.heap _
    rw [eh1]
    exact ⟨congrArg (fun z => some (Value.int z)) (if_pos hq).symm, N1, rfl⟩
theorem d7_9 : decode jdk_43_method_22_code 9 = .ok (.iload_n 2, 1) := by decide +kernel
theorem d7_10 : decode jdk_43_method_22_code 10 = .ok (.iconst 0, 1) := by decide +kernel
theorem d7_11 : decode jdk_43_method_22_code 11 = .ok (.invokestatic 92, 3) := by decide +kernel
theorem d7_14 : decode jdk_43_method_22_code 14 = .ok (.istore_n 2, 1) := by decide +kernel
theorem d7_15 : decode jdk_43_method_22_code 15 = .ok (.iload_n 3, 1) := by decide +kernel
theorem d7_16 : decode jdk_43_method_22_code 16 = .ok (.aload_n 0, 1) := by decide +kernel
theorem d7_17 : decode jdk_43_method_22_code 17 = .ok (.arraylength, 1) := by decide +kernel
theorem d7_18 : decode jdk_43_method_22_code 18 = .ok (.invokestatic 38, 3) := by decide +kernel
theorem d7_21 : decode jdk_43_method_22_code 21 = .ok (.istore_n 3, 1) := by decide +kernel
theorem d7_22 : decode jdk_43_method_22_code 22 = .ok (.iload_n 2, 1) := by decide +kernel
theorem d7_23 : decode jdk_43_method_22_code 23 = .ok (.iload_n 3, 1) := by decide +kernel
theorem d7_24 : decode jdk_43_method_22_code 24 = .ok (.if_icmp .lt 5, 3) := by decide +kernel
theorem d7_29 : decode jdk_43_method_22_code 29 = .ok (.aload_n 0, 1) := by decide +kernel
theorem d7_30 : decode jdk_43_method_22_code 30 = .ok (.iload_n 1, 1) := by decide +kernel
theorem d7_31 : decode jdk_43_method_22_code 31 = .ok (.iload_n 2, 1) := by decide +kernel
theorem d7_32 : decode jdk_43_method_22_code 32 = .ok (.iload_n 3, 1) := by decide +kernel
theorem d7_33 : decode jdk_43_method_22_code 33 = .ok (.invokestatic 95, 3) := by decide +kernel
theorem d7_36 : decode jdk_43_method_22_code 36 = .ok (.ireturn, 1) := by decide +kernel
theorem pd_7_1 : parseMethodDescriptor "(II)I" = some ⟨[.int, .int], some .int⟩ := by decide +kernel
theorem pd_7_2 : parseMethodDescriptor "([BIII)I" = some ⟨[(.array .byte), .int, .int, .int], some .int⟩ := by decide +kernel
set_option maxRecDepth 65536 in
set_option maxHeartbeats 40000000 in
theorem rmLib (l : Launch) (Z : State) (a0 : Array Value) (hw : ∀ d ∈ tables_1, d.before a0 Z = true) (ws : List Jvm.Cond) (b1 : Addr) (p2 : Int32) (k : ClassId) (h0 : Heap) (n0 : Nat) (Z0 : n0 ≤ h0.size) (V_b : Arv Z h0 b1 k .byte (17 : Int32) [(.int (35 : Int32)), (.int (36 : Int32)), (.int (38 : Int32)), (.int (42 : Int32)), (.int (43 : Int32)), (.int (45 : Int32)), (.int (46 : Int32)), (.int (47 : Int32)), (.int (58 : Int32)), (.int (60 : Int32)), (.int (61 : Int32)), (.int (62 : Int32)), (.int (63 : Int32)), (.int (64 : Int32)), (.int (94 : Int32)), (.int (126 : Int32)), (.int (92 : Int32))] (.int (0 : Int32))) (hq : ¬ (own_ce p2 = (0 : Int32))) :
    MetFree l (⟨"java/lang/StringLatin1", "indexOf", "([BIII)I"⟩ : MethodName) (head1 (Jvm.Cond.code (⟨"java/lang/StringLatin1", "indexOf", "([BIII)I"⟩ : MethodName) jdk_43_method_22_code 4 (some .int) :: ws) ({ frames := 1, cells := 0, slots := 0, locals := 17 } : Room)) (fun a U => a = #[(.ref b1), (.int p2), (.int (0 : Int32)), (.int (17 : Int32))] ∧ Z.Warmed39 U.vm ∧ U.heap = h0) (fun _ _ _ _ _ => True) (fun _ U o U' => ∃ v L, o = .returned v ∧ QI Z (own_ix p2) h0 n0 v U'.heap L ∧ FrameEnd U o U' L ({ frames := 1, cells := 0, slots := 0, locals := 17 } : Room).cells ({ frames := 1, cells := 0, slots := 0, locals := 17 } : Room).slots) := by
  refine MetFree.of_bodySF (plainFor_of_name pn_7) hisR ?_
  intro p e s m args below meth c s₁ Bd hml0 hP hK
  obtain ⟨rfl, hZ, hh⟩ := hP
  have hx := Bd.exec
  have hby := Bd.bytes
  have hml : c.maxLocals = 4 := hml0
  have hown : s.vm.findClass "java/lang/StringLatin1" = some m.cls := findClass_of_methodNamed Bd.named
  have hnm := (name_of_methodNamed Bd.named Bd.method).1
  have X0 : Stand p l e ({ frames := 1, cells := 0, slots := 0, locals := 17 } : Room) s m #[(.ref b1), (.int p2), (.int (0 : Int32)), (.int (17 : Int32))] below meth c s₁ [] 0 0 := Stand.of_body Bd
  have e0 : s₁.heap = h0 := by rw [← hh, Bd.state]; rfl
  have N0 := Fr.nil n0
  have pre0 : ∀ tz, Steps p.tables e below (s₁.setTop (mkF m 0 #[.val (.ref b1), .val (.int p2), .val (.int (0 : Int32)), .val (.int (17 : Int32))] [])) tz → Steps p.tables e below (s₁.setTop (entryFrame m #[(.ref b1), (.int p2), (.int (0 : Int32)), (.int (17 : Int32))] 4)) tz := fun tz kz => castTop (ef_7 m b1 p2 (0 : Int32) (17 : Int32)) kz
  obtain ⟨_, _, ⟨T1, L1, k1, n1⟩, -, X1, ⟨Lc1, hQ1, l1, y1, z1⟩, st1⟩ := Jvm.LawKit.callS X0 hx (y := (⟨"java/lang/StringLatin1", "canEncode", "(I)Z"⟩ : MethodName)) hown (mvT hZ (hw _ (List.mem_of_getElem? (i := 45) rfl))) (mvT hZ (hw _ (List.mem_of_getElem? (i := 46) rfl))) (mvT hZ (hw _ (List.mem_of_getElem? (i := 43) rfl))) (mvT hZ (hw _ (List.mem_of_getElem? (i := 47) rfl))) (by decide) (backOf (W := 0) (rmCe l Z a0 hw [] p2 h0 n0 Z0) hZ (hw _ (List.mem_of_getElem? (i := 47) rfl)) (hw _ (List.mem_of_getElem? (i := 43) rfl)) (by decide) (by decide)) (g := (mkF m 1 #[.val (.ref b1), .val (.int p2), .val (.int (0 : Int32)), .val (.int (17 : Int32))] [(.int p2)])) rfl (by rw [hml]; rfl) (argsL := [(.int p2)]) (rest := []) (lenOf pd_7_0 rfl) rfl (by show 2 * 0 + _ ≤ _; exact Nat.le_of_eq rfl) (hb hby d7_1) (fun _ _ => ⟨rfl, e0, (by decide : 0 + 0 ≤ _), (by decide : 0 + 0 ≤ _)⟩)
  dsimp only [Pt.U, Pt.locs, Pt.cells, Pt.slots] at X1 l1 y1 z1 st1 hQ1
  subst l1 y1 z1
  obtain ⟨rfl, N1q, eh1⟩ := hQ1
  have N1 := Fr.app N0 N1q
  obtain ⟨_, _, ⟨T2, L2, k2, n2⟩, -, X2, ⟨Lc2, hQ2, l2, y2, z2⟩, st2⟩ := Jvm.LawKit.callS X1 hx (y := (⟨"java/lang/Math", "max", "(II)I"⟩ : MethodName)) hown (mvT hZ (hw _ (List.mem_of_getElem? (i := 48) rfl))) (mvT hZ (hw _ (List.mem_of_getElem? (i := 49) rfl))) (mvT hZ (hw _ (List.mem_of_getElem? (i := 50) rfl))) (mvT hZ (hw _ (List.mem_of_getElem? (i := 51) rfl))) (by decide) (backOf (W := 0) (rmMax l Z a0 hw [] h0 n0 Z0) hZ (hw _ (List.mem_of_getElem? (i := 51) rfl)) (hw _ (List.mem_of_getElem? (i := 50) rfl)) (by decide) (by decide)) (g := (mkF m 11 #[.val (.ref b1), .val (.int p2), .val (.int (0 : Int32)), .val (.int (17 : Int32))] [(.int (0 : Int32)), (.int (0 : Int32))])) rfl (by rw [hml]; rfl) (argsL := [(.int (0 : Int32)), (.int (0 : Int32))]) (rest := []) (lenOf pd_7_1 rfl) rfl (by show 2 * 0 + _ ≤ _; exact Nat.le_of_eq rfl) (hb hby d7_11) (fun _ _ => ⟨rfl, eh1, (by decide : 0 + 0 ≤ _), (by decide : 0 + 0 ≤ _)⟩)
  dsimp only [Pt.U, Pt.locs, Pt.cells, Pt.slots] at X2 l2 y2 z2 st2 hQ2
  subst l2 y2 z2
  obtain ⟨rfl, N2q, eh2⟩ := hQ2
  have N2 := Fr.app N1 N2q
  obtain ⟨cl3, Ar3, q3, S3, M3, H3, G3⟩ := id V_b
  obtain ⟨_, _, ⟨T4, L4, k4, n4⟩, -, X4, ⟨Lc4, hQ4, l4, y4, z4⟩, st4⟩ := Jvm.LawKit.callS X2 hx (y := (⟨"java/lang/Math", "min", "(II)I"⟩ : MethodName)) hown (mvT hZ (hw _ (List.mem_of_getElem? (i := 52) rfl))) (mvT hZ (hw _ (List.mem_of_getElem? (i := 53) rfl))) (mvT hZ (hw _ (List.mem_of_getElem? (i := 50) rfl))) (mvT hZ (hw _ (List.mem_of_getElem? (i := 54) rfl))) (by decide) (backOf (W := 0) (rmMin l Z a0 hw [] h0 n0 Z0) hZ (hw _ (List.mem_of_getElem? (i := 54) rfl)) (hw _ (List.mem_of_getElem? (i := 50) rfl)) (by decide) (by decide)) (g := (mkF m 18 #[.val (.ref b1), .val (.int p2), .val (.int (0 : Int32)), .val (.int (17 : Int32))] [(.int (17 : Int32)), (.int (17 : Int32))])) rfl (by rw [hml]; rfl) (argsL := [(.int (17 : Int32)), (.int (17 : Int32))]) (rest := []) (lenOf pd_7_1 rfl) rfl (by show 2 * 0 + _ ≤ _; exact Nat.le_of_eq rfl) (hb hby d7_18) (fun _ _ => ⟨rfl, eh2, (by decide : 0 + 0 ≤ _), (by decide : 0 + 0 ≤ _)⟩)
  dsimp only [Pt.U, Pt.locs, Pt.cells, Pt.slots] at X4 l4 y4 z4 st4 hQ4
  subst l4 y4 z4
  obtain ⟨rfl, N4q, eh4⟩ := hQ4
  have N4 := Fr.app N2 N4q
  obtain ⟨_, _, ⟨T5, L5, k5, n5⟩, -, X5, ⟨Lc5, hQ5, l5, y5, z5⟩, st5⟩ := Jvm.LawKit.callS X4 hx (y := (⟨"java/lang/StringLatin1", "indexOfChar", "([BIII)I"⟩ : MethodName)) hown (mvT hZ (hw _ (List.mem_of_getElem? (i := 55) rfl))) (mvT hZ (hw _ (List.mem_of_getElem? (i := 56) rfl))) (mvT hZ (hw _ (List.mem_of_getElem? (i := 43) rfl))) (mvT hZ (hw _ (List.mem_of_getElem? (i := 57) rfl))) (by decide) (backOf (W := 0) (rmIc l Z a0 hw [] b1 p2 k h0 n0 Z0 V_b) hZ (hw _ (List.mem_of_getElem? (i := 57) rfl)) (hw _ (List.mem_of_getElem? (i := 43) rfl)) (by decide) (by decide)) (g := (mkF m 33 #[.val (.ref b1), .val (.int p2), .val (.int (0 : Int32)), .val (.int (17 : Int32))] [(.int (17 : Int32)), (.int (0 : Int32)), (.int p2), (.ref b1)])) rfl (by rw [hml]; rfl) (argsL := [(.ref b1), (.int p2), (.int (0 : Int32)), (.int (17 : Int32))]) (rest := []) (lenOf pd_7_2 rfl) rfl (by show 2 * 0 + _ ≤ _; exact Nat.le_of_eq rfl) (hb hby d7_33) (fun _ _ => ⟨rfl, eh4, (by decide : 0 + 0 ≤ _), (by decide : 0 + 0 ≤ _)⟩)
  dsimp only [Pt.U, Pt.locs, Pt.cells, Pt.slots] at X5 l5 y5 z5 st5 hQ5
  subst l5 y5 z5
  obtain ⟨rfl, N5q, eh5⟩ := hQ5
  have N5 := Fr.app N4 N5q
  obtain ⟨fs, hr, hrun, hended, hW, hsame⟩ := X5.leave (v := some (.int (own_f (p2.toInt8.toInt32)))) (fun h => by rw [Bd.returns] at h; cases h)
  refine ⟨_, _, pre0 _ ?_, hrun, hended, _, _, rfl, ?_, ⟨_, rfl⟩, hW, hsame.mono (by decide) (by decide)⟩
  · show Steps p.tables e below (s₁.setTop (mkF m 0 #[.val (.ref b1), .val (.int p2), .val (.int (0 : Int32)), .val (.int (17 : Int32))] [])) _
    refine XS.iloadN X0.here hx rfl (hb hby d7_0) rfl ?_
    show Steps p.tables e below (s₁.setTop (mkF m 1 #[.val (.ref b1), .val (.int p2), .val (.int (0 : Int32)), .val (.int (17 : Int32))] [(.int p2)])) _
    refine st1 _ ?_
    show Steps p.tables e below (T1.setTop (mkF m 4 #[.val (.ref b1), .val (.int p2), .val (.int (0 : Int32)), .val (.int (17 : Int32))] [(.int (own_ce p2))])) _
    refine XS.ifYes X1.here hx rfl (pc0 := 4) (pc' := 9) rfl (hb hby d7_4) rfl ((if0 _ _).trans (feq (hq : ¬ ((own_ce p2) = (0 : Int32)))).2) (by decide) (by decide) ?_
    show Steps p.tables e below (T1.setTop (mkF m 9 #[.val (.ref b1), .val (.int p2), .val (.int (0 : Int32)), .val (.int (17 : Int32))] [])) _
    refine XS.iloadN X1.here hx rfl (hb hby d7_9) rfl ?_
    show Steps p.tables e below (T1.setTop (mkF m 10 #[.val (.ref b1), .val (.int p2), .val (.int (0 : Int32)), .val (.int (17 : Int32))] [(.int (0 : Int32))])) _
    refine XS.iconst X1.here hx rfl (hb hby d7_10) ?_
    show Steps p.tables e below (T1.setTop (mkF m 11 #[.val (.ref b1), .val (.int p2), .val (.int (0 : Int32)), .val (.int (17 : Int32))] [(.int (0 : Int32)), (.int (0 : Int32))])) _
    refine st2 _ ?_
    show Steps p.tables e below (T2.setTop (mkF m 14 #[.val (.ref b1), .val (.int p2), .val (.int (0 : Int32)), .val (.int (17 : Int32))] [(.int (0 : Int32))])) _
    refine XS.istoreN X2.here hx rfl (hb hby d7_14) rfl (l' := #[.val (.ref b1), .val (.int p2), .val (.int (0 : Int32)), .val (.int (17 : Int32))]) rfl ?_
    show Steps p.tables e below (T2.setTop (mkF m 15 #[.val (.ref b1), .val (.int p2), .val (.int (0 : Int32)), .val (.int (17 : Int32))] [])) _
    refine XS.iloadN X2.here hx rfl (hb hby d7_15) rfl ?_
    show Steps p.tables e below (T2.setTop (mkF m 16 #[.val (.ref b1), .val (.int p2), .val (.int (0 : Int32)), .val (.int (17 : Int32))] [(.int (17 : Int32))])) _
    refine XS.aloadN X2.here hx rfl (hb hby d7_16) rfl rfl ?_
    show Steps p.tables e below (T2.setTop (mkF m 17 #[.val (.ref b1), .val (.int p2), .val (.int (0 : Int32)), .val (.int (17 : Int32))] [(.ref b1), (.int (17 : Int32))])) _
    refine X2.arraylength hx (by rw [eh2]; exact Ar3.1) (State.isArrayOf_alike hZ.alike Ar3.2.1) (g := (mkF m 17 #[.val (.ref b1), .val (.int p2), .val (.int (0 : Int32)), .val (.int (17 : Int32))] [(.ref b1), (.int (17 : Int32))])) rfl rfl (hb hby d7_17) _ ?_
    rw [len_of S3 M3]
    show Steps p.tables e below (T2.setTop (mkF m 18 #[.val (.ref b1), .val (.int p2), .val (.int (0 : Int32)), .val (.int (17 : Int32))] [(.int (17 : Int32)), (.int (17 : Int32))])) _
    refine st4 _ ?_
    show Steps p.tables e below (T4.setTop (mkF m 21 #[.val (.ref b1), .val (.int p2), .val (.int (0 : Int32)), .val (.int (17 : Int32))] [(.int (17 : Int32))])) _
    refine XS.istoreN X4.here hx rfl (hb hby d7_21) rfl (l' := #[.val (.ref b1), .val (.int p2), .val (.int (0 : Int32)), .val (.int (17 : Int32))]) rfl ?_
    show Steps p.tables e below (T4.setTop (mkF m 22 #[.val (.ref b1), .val (.int p2), .val (.int (0 : Int32)), .val (.int (17 : Int32))] [])) _
    refine XS.iloadN X4.here hx rfl (hb hby d7_22) rfl ?_
    show Steps p.tables e below (T4.setTop (mkF m 23 #[.val (.ref b1), .val (.int p2), .val (.int (0 : Int32)), .val (.int (17 : Int32))] [(.int (0 : Int32))])) _
    refine XS.iloadN X4.here hx rfl (hb hby d7_23) rfl ?_
    show Steps p.tables e below (T4.setTop (mkF m 24 #[.val (.ref b1), .val (.int p2), .val (.int (0 : Int32)), .val (.int (17 : Int32))] [(.int (17 : Int32)), (.int (0 : Int32))])) _
    refine XS.icmpYes X4.here hx rfl (pc0 := 24) (pc' := 29) rfl (hb hby d7_24) rfl (tlt ((by decide) : (0 : Int32) < (17 : Int32))).1 (by decide) (by decide) ?_
    show Steps p.tables e below (T4.setTop (mkF m 29 #[.val (.ref b1), .val (.int p2), .val (.int (0 : Int32)), .val (.int (17 : Int32))] [])) _
    refine XS.aloadN X4.here hx rfl (hb hby d7_29) rfl rfl ?_
    show Steps p.tables e below (T4.setTop (mkF m 30 #[.val (.ref b1), .val (.int p2), .val (.int (0 : Int32)), .val (.int (17 : Int32))] [(.ref b1)])) _
    refine XS.iloadN X4.here hx rfl (hb hby d7_30) rfl ?_
    show Steps p.tables e below (T4.setTop (mkF m 31 #[.val (.ref b1), .val (.int p2), .val (.int (0 : Int32)), .val (.int (17 : Int32))] [(.int p2), (.ref b1)])) _
    refine XS.iloadN X4.here hx rfl (hb hby d7_31) rfl ?_
    show Steps p.tables e below (T4.setTop (mkF m 32 #[.val (.ref b1), .val (.int p2), .val (.int (0 : Int32)), .val (.int (17 : Int32))] [(.int (0 : Int32)), (.int p2), (.ref b1)])) _
    refine XS.iloadN X4.here hx rfl (hb hby d7_32) rfl ?_
    show Steps p.tables e below (T4.setTop (mkF m 33 #[.val (.ref b1), .val (.int p2), .val (.int (0 : Int32)), .val (.int (17 : Int32))] [(.int (17 : Int32)), (.int (0 : Int32)), (.int p2), (.ref b1)])) _
    refine st5 _ ?_
    show Steps p.tables e below (T5.setTop (mkF m 36 #[.val (.ref b1), .val (.int p2), .val (.int (0 : Int32)), .val (.int (17 : Int32))] [(.int (own_f (p2.toInt8.toInt32)))])) _
    exact retI X5 hx Bd.returns (hb hby d7_36) hr
  · show QI Z (own_ix p2) h0 n0 _ T5.heap _
    rw [eh5]
    exact ⟨congrArg (fun z => some (Value.int z)) (if_neg hq).symm, N5, rfl⟩
theorem rmLi (l : Launch) (Z : State) (a0 : Array Value) (hw : ∀ d ∈ tables_1, d.before a0 Z = true) (ws : List Jvm.Cond) (b1 : Addr) (p2 : Int32) (k : ClassId) (h0 : Heap) (n0 : Nat) (Z0 : n0 ≤ h0.size) (V_b : Arv Z h0 b1 k .byte (17 : Int32) [(.int (35 : Int32)), (.int (36 : Int32)), (.int (38 : Int32)), (.int (42 : Int32)), (.int (43 : Int32)), (.int (45 : Int32)), (.int (46 : Int32)), (.int (47 : Int32)), (.int (58 : Int32)), (.int (60 : Int32)), (.int (61 : Int32)), (.int (62 : Int32)), (.int (63 : Int32)), (.int (64 : Int32)), (.int (94 : Int32)), (.int (126 : Int32)), (.int (92 : Int32))] (.int (0 : Int32))) : MetFree l (⟨"java/lang/StringLatin1", "indexOf", "([BIII)I"⟩ : MethodName) (head1 (Jvm.Cond.code (⟨"java/lang/StringLatin1", "indexOf", "([BIII)I"⟩ : MethodName) jdk_43_method_22_code 4 (some .int) :: ws) ({ frames := 1, cells := 0, slots := 0, locals := 17 } : Room)) (fun a U => a = #[(.ref b1), (.int p2), (.int (0 : Int32)), (.int (17 : Int32))] ∧ Z.Warmed39 U.vm ∧ U.heap = h0) (fun _ _ _ _ _ => True) (fun _ U o U' => ∃ v L, o = .returned v ∧ QI Z (own_ix p2) h0 n0 v U'.heap L ∧ FrameEnd U o U' L ({ frames := 1, cells := 0, slots := 0, locals := 17 } : Room).cells ({ frames := 1, cells := 0, slots := 0, locals := 17 } : Room).slots) := by
  by_cases hq : own_ce p2 = (0 : Int32)
  · exact rmLia l Z a0 hw ws b1 p2 k h0 n0 Z0 V_b hq
  · exact rmLib l Z a0 hw ws b1 p2 k h0 n0 Z0 V_b hq
theorem d3_0 : decode jdk_42_method_80_code 0 = .ok (.aload_n 0, 1) := by decide +kernel
theorem d3_1 : decode jdk_42_method_80_code 1 = .ok (.invokevirtual 492, 3) := by decide +kernel
theorem d3_4 : decode jdk_42_method_80_code 4 = .ok (.ifCond .eq 19, 3) := by decide +kernel
theorem d3_7 : decode jdk_42_method_80_code 7 = .ok (.aload_n 0, 1) := by decide +kernel
theorem d3_8 : decode jdk_42_method_80_code 8 = .ok (.getfield 9, 3) := by decide +kernel
theorem d3_11 : decode jdk_42_method_80_code 11 = .ok (.iload_n 1, 1) := by decide +kernel
theorem d3_12 : decode jdk_42_method_80_code 12 = .ok (.iload_n 2, 1) := by decide +kernel
theorem d3_13 : decode jdk_42_method_80_code 13 = .ok (.aload_n 0, 1) := by decide +kernel
theorem d3_14 : decode jdk_42_method_80_code 14 = .ok (.invokevirtual 505, 3) := by decide +kernel
theorem d3_17 : decode jdk_42_method_80_code 17 = .ok (.invokestatic 637, 3) := by decide +kernel
theorem d3_20 : decode jdk_42_method_80_code 20 = .ok (.goto 16, 3) := by decide +kernel
theorem d3_36 : decode jdk_42_method_80_code 36 = .ok (.ireturn, 1) := by decide +kernel
theorem pd_3_0 : parseMethodDescriptor "()Z" = some ⟨[], some .boolean⟩ := by decide +kernel
theorem pd_3_1 : parseMethodDescriptor "()I" = some ⟨[], some .int⟩ := by decide +kernel
theorem pd_3_2 : parseMethodDescriptor "([BIII)I" = some ⟨[(.array .byte), .int, .int, .int], some .int⟩ := by decide +kernel
theorem pn_3 : plainName "java/lang/String" = true := by first | (simp [plainName, overriddenIn]; done) | decide +kernel
theorem ef_3 (m : MethodId) (x0 : Addr) (x1 : Int32) (x2 : Int32) : entryFrame m #[(.ref x0), (.int x1), (.int x2)] 3 = mkF m 0 #[.val (.ref x0), .val (.int x1), .val (.int x2)] [] := by first | (simp [entryFrame, mkF, argsToLocals, Value.category]; done) | rfl
set_option maxRecDepth 65536 in
set_option maxHeartbeats 40000000 in
theorem rmS2 (l : Launch) (Z : State) (a0 : Array Value) (hw : ∀ d ∈ tables_1, d.before a0 Z = true) (ws : List Jvm.Cond) (a1 : Addr) (p1 : Int32) (cs : Int32) (b1 : Addr) (k : ClassId) (h0 : Heap) (n0 : Nat) (Z0 : n0 ≤ h0.size) (S_c : Sta Z h0 "java/lang/String" "COMPACT_STRINGS" "Z" (.int cs)) (hcs : ¬ (cs = (0 : Int32))) (E_a1 : Exa Z h0 a1 "java/lang/String") (F_co : Fld Z h0 a1 "java/lang/String" "coder" "B" (.int (0 : Int32))) (F_va : Fld Z h0 a1 "java/lang/String" "value" "[B" (.ref b1)) (V_b : Arv Z h0 b1 k .byte (17 : Int32) [(.int (35 : Int32)), (.int (36 : Int32)), (.int (38 : Int32)), (.int (42 : Int32)), (.int (43 : Int32)), (.int (45 : Int32)), (.int (46 : Int32)), (.int (47 : Int32)), (.int (58 : Int32)), (.int (60 : Int32)), (.int (61 : Int32)), (.int (62 : Int32)), (.int (63 : Int32)), (.int (64 : Int32)), (.int (94 : Int32)), (.int (126 : Int32)), (.int (92 : Int32))] (.int (0 : Int32))) :
    MetFree l (⟨"java/lang/String", "indexOf", "(II)I"⟩ : MethodName) (head1 (Jvm.Cond.code (⟨"java/lang/String", "indexOf", "(II)I"⟩ : MethodName) jdk_42_method_80_code 3 (some .int) :: ws) ({ frames := 2, cells := 0, slots := 0, locals := 44 } : Room)) (fun a U => a = #[(.ref a1), (.int p1), (.int (0 : Int32))] ∧ Z.Warmed39 U.vm ∧ U.heap = h0) (fun _ _ _ _ _ => True) (fun _ U o U' => ∃ v L, o = .returned v ∧ QI Z (own_ix p1) h0 n0 v U'.heap L ∧ FrameEnd U o U' L ({ frames := 2, cells := 0, slots := 0, locals := 44 } : Room).cells ({ frames := 2, cells := 0, slots := 0, locals := 44 } : Room).slots) := by
  refine MetFree.of_bodySF (plainFor_of_name pn_3) hisR ?_
  intro p e s m args below meth c s₁ Bd hml0 hP hK
  obtain ⟨rfl, hZ, hh⟩ := hP
  have hx := Bd.exec
  have hby := Bd.bytes
  have hml : c.maxLocals = 3 := hml0
  have hown : s.vm.findClass "java/lang/String" = some m.cls := findClass_of_methodNamed Bd.named
  have hnm := (name_of_methodNamed Bd.named Bd.method).1
  have X0 : Stand p l e ({ frames := 2, cells := 0, slots := 0, locals := 44 } : Room) s m #[(.ref a1), (.int p1), (.int (0 : Int32))] below meth c s₁ [] 0 0 := Stand.of_body Bd
  have e0 : s₁.heap = h0 := by rw [← hh, Bd.state]; rfl
  have N0 := Fr.nil n0
  have pre0 : ∀ tz, Steps p.tables e below (s₁.setTop (mkF m 0 #[.val (.ref a1), .val (.int p1), .val (.int (0 : Int32))] [])) tz → Steps p.tables e below (s₁.setTop (entryFrame m #[(.ref a1), (.int p1), (.int (0 : Int32))] 3)) tz := fun tz kz => castTop (ef_3 m a1 p1 (0 : Int32)) kz
  obtain ⟨cq1, kq1, q1a, q1b, q1c⟩ := isOf hZ e0 E_a1
  obtain ⟨_, _, ⟨T1, L1, k1, n1⟩, -, X1, ⟨Lc1, hQ1, l1, y1, z1⟩, st1⟩ := X0.virtualBack hx (y := (⟨"java/lang/String", "isLatin1", "()Z"⟩ : MethodName)) (z := (⟨"java/lang/String", "isLatin1", "()Z"⟩ : MethodName)) hown (mvT hZ (hw _ (List.mem_of_getElem? (i := 23) rfl))) (mvT hZ (hw _ (List.mem_of_getElem? (i := 24) rfl))) (notFace_of_selects (args := #[]) (mvT hZ (hw _ (List.mem_of_getElem? (i := 26) rfl)))) (mvT hZ (hw _ (List.mem_of_getElem? (i := 26) rfl))) (mvT hZ (hw _ (List.mem_of_getElem? (i := 25) rfl))) (by decide) (backOf (W := 0) (rmLat l Z a0 hw [] a1 cs h0 n0 Z0 S_c hcs F_co) hZ (hw _ (List.mem_of_getElem? (i := 27) rfl)) (hw _ (List.mem_of_getElem? (i := 6) rfl)) (by decide) (by decide)) q1a q1c (g := (mkF m 1 #[.val (.ref a1), .val (.int p1), .val (.int (0 : Int32))] [(.ref a1)])) rfl (by rw [hml]; rfl) (Steps.refl _) (argsL := []) (rest := []) (lenOf pd_3_0 rfl) rfl (by show 2 * 0 + _ ≤ _; exact Nat.le_of_eq rfl) (hb hby d3_1) (fun _ _ => ⟨rfl, e0, (by decide : 0 + 0 ≤ _), (by decide : 0 + 0 ≤ _)⟩)
  dsimp only [Pt.U, Pt.locs, Pt.cells, Pt.slots] at X1 l1 y1 z1 st1 hQ1
  subst l1 y1 z1
  obtain ⟨rfl, N1q, eh1⟩ := hQ1
  have N1 := Fr.app N0 N1q
  obtain ⟨T2, X2, e2, st2⟩ := getF X1 hx hZ hown (host := "") (Or.inl (hw _ (List.mem_of_getElem? (i := 30) rfl))) Via.refl eh1 F_va (g := (mkF m 8 #[.val (.ref a1), .val (.int p1), .val (.int (0 : Int32))] [(.ref a1)])) rfl rfl (hb hby d3_8)
  obtain ⟨cq3, kq3, q3a, q3b, q3c⟩ := isOf hZ e2 E_a1
  obtain ⟨_, _, ⟨T3, L3, k3, n3⟩, -, X3, ⟨Lc3, hQ3, l3, y3, z3⟩, st3⟩ := X2.virtualBack hx (y := (⟨"java/lang/String", "length", "()I"⟩ : MethodName)) (z := (⟨"java/lang/String", "length", "()I"⟩ : MethodName)) hown (mvT hZ (hw _ (List.mem_of_getElem? (i := 31) rfl))) (mvT hZ (hw _ (List.mem_of_getElem? (i := 32) rfl))) (notFace_of_selects (args := #[]) (mvT hZ (hw _ (List.mem_of_getElem? (i := 34) rfl)))) (mvT hZ (hw _ (List.mem_of_getElem? (i := 34) rfl))) (mvT hZ (hw _ (List.mem_of_getElem? (i := 33) rfl))) (by decide) (backOf (W := 3) (rmLen l Z a0 hw [] a1 cs b1 k h0 n0 Z0 S_c hcs E_a1 F_co F_va V_b) hZ (hw _ (List.mem_of_getElem? (i := 35) rfl)) (hw _ (List.mem_of_getElem? (i := 6) rfl)) (by decide) (by decide)) q3a q3c (g := (mkF m 14 #[.val (.ref a1), .val (.int p1), .val (.int (0 : Int32))] [(.ref a1), (.int (0 : Int32)), (.int p1), (.ref b1)])) rfl (by rw [hml]; rfl) (Steps.refl _) (argsL := []) (rest := [(.int (0 : Int32)), (.int p1), (.ref b1)]) (lenOf pd_3_1 rfl) rfl (by show 2 * 0 + _ ≤ _; exact Nat.le_of_eq rfl) (hb hby d3_14) (fun _ _ => ⟨rfl, e2, (by decide : 0 + 0 ≤ _), (by decide : 0 + 0 ≤ _)⟩)
  dsimp only [Pt.U, Pt.locs, Pt.cells, Pt.slots] at X3 l3 y3 z3 st3 hQ3
  subst l3 y3 z3
  obtain ⟨rfl, N3q, eh3⟩ := hQ3
  have N3 := Fr.app N1 N3q
  obtain ⟨_, _, ⟨T4, L4, k4, n4⟩, -, X4, ⟨Lc4, hQ4, l4, y4, z4⟩, st4⟩ := Jvm.LawKit.callS X3 hx (y := (⟨"java/lang/StringLatin1", "indexOf", "([BIII)I"⟩ : MethodName)) hown (mvT hZ (hw _ (List.mem_of_getElem? (i := 41) rfl))) (mvT hZ (hw _ (List.mem_of_getElem? (i := 42) rfl))) (mvT hZ (hw _ (List.mem_of_getElem? (i := 43) rfl))) (mvT hZ (hw _ (List.mem_of_getElem? (i := 44) rfl))) (by decide) (backOf (W := 0) (rmLi l Z a0 hw [] b1 p1 k h0 n0 Z0 V_b) hZ (hw _ (List.mem_of_getElem? (i := 44) rfl)) (hw _ (List.mem_of_getElem? (i := 43) rfl)) (by decide) (by decide)) (g := (mkF m 17 #[.val (.ref a1), .val (.int p1), .val (.int (0 : Int32))] [(.int (17 : Int32)), (.int (0 : Int32)), (.int p1), (.ref b1)])) rfl (by rw [hml]; rfl) (argsL := [(.ref b1), (.int p1), (.int (0 : Int32)), (.int (17 : Int32))]) (rest := []) (lenOf pd_3_2 rfl) rfl (by show 2 * 0 + _ ≤ _; exact Nat.le_of_eq rfl) (hb hby d3_17) (fun _ _ => ⟨rfl, eh3, (by decide : 0 + 0 ≤ _), (by decide : 0 + 0 ≤ _)⟩)
  dsimp only [Pt.U, Pt.locs, Pt.cells, Pt.slots] at X4 l4 y4 z4 st4 hQ4
  subst l4 y4 z4
  obtain ⟨rfl, N4q, eh4⟩ := hQ4
  have N4 := Fr.app N3 N4q
  obtain ⟨fs, hr, hrun, hended, hW, hsame⟩ := X4.leave (v := some (.int (own_ix p1))) (fun h => by rw [Bd.returns] at h; cases h)
  refine ⟨_, _, pre0 _ ?_, hrun, hended, _, _, rfl, ?_, ⟨_, rfl⟩, hW, hsame.mono (by decide) (by decide)⟩
  · show Steps p.tables e below (s₁.setTop (mkF m 0 #[.val (.ref a1), .val (.int p1), .val (.int (0 : Int32))] [])) _
    refine XS.aloadN X0.here hx rfl (hb hby d3_0) rfl rfl ?_
    show Steps p.tables e below (s₁.setTop (mkF m 1 #[.val (.ref a1), .val (.int p1), .val (.int (0 : Int32))] [(.ref a1)])) _
    refine st1.trans ?_
    show Steps p.tables e below (T1.setTop (mkF m 4 #[.val (.ref a1), .val (.int p1), .val (.int (0 : Int32))] [(.int (1 : Int32))])) _
    refine XS.ifNo X1.here hx rfl (hb hby d3_4) rfl ((if0 _ _).trans (feq ((by decide) : ¬ ((1 : Int32) = (0 : Int32)))).1) ?_
    show Steps p.tables e below (T1.setTop (mkF m 7 #[.val (.ref a1), .val (.int p1), .val (.int (0 : Int32))] [])) _
    refine XS.aloadN X1.here hx rfl (hb hby d3_7) rfl rfl ?_
    show Steps p.tables e below (T1.setTop (mkF m 8 #[.val (.ref a1), .val (.int p1), .val (.int (0 : Int32))] [(.ref a1)])) _
    refine st2 _ ?_
    show Steps p.tables e below (T2.setTop (mkF m 11 #[.val (.ref a1), .val (.int p1), .val (.int (0 : Int32))] [(.ref b1)])) _
    refine XS.iloadN X2.here hx rfl (hb hby d3_11) rfl ?_
    show Steps p.tables e below (T2.setTop (mkF m 12 #[.val (.ref a1), .val (.int p1), .val (.int (0 : Int32))] [(.int p1), (.ref b1)])) _
    refine XS.iloadN X2.here hx rfl (hb hby d3_12) rfl ?_
    show Steps p.tables e below (T2.setTop (mkF m 13 #[.val (.ref a1), .val (.int p1), .val (.int (0 : Int32))] [(.int (0 : Int32)), (.int p1), (.ref b1)])) _
    refine XS.aloadN X2.here hx rfl (hb hby d3_13) rfl rfl ?_
    show Steps p.tables e below (T2.setTop (mkF m 14 #[.val (.ref a1), .val (.int p1), .val (.int (0 : Int32))] [(.ref a1), (.int (0 : Int32)), (.int p1), (.ref b1)])) _
    refine st3.trans ?_
    show Steps p.tables e below (T3.setTop (mkF m 17 #[.val (.ref a1), .val (.int p1), .val (.int (0 : Int32))] [(.int (17 : Int32)), (.int (0 : Int32)), (.int p1), (.ref b1)])) _
    refine st4 _ ?_
    show Steps p.tables e below (T4.setTop (mkF m 20 #[.val (.ref a1), .val (.int p1), .val (.int (0 : Int32))] [(.int (own_ix p1))])) _
    refine XS.goto X4.here hx rfl (pc0 := 20) (pc' := 36) rfl (hb hby d3_20) (by decide) (by decide) ?_
    show Steps p.tables e below (T4.setTop (mkF m 36 #[.val (.ref a1), .val (.int p1), .val (.int (0 : Int32))] [(.int (own_ix p1))])) _
    exact retI X4 hx Bd.returns (hb hby d3_36) hr
  · show QI Z (own_ix p1) h0 n0 _ T4.heap _
    rw [eh4]
    exact ⟨rfl, N4, rfl⟩
theorem d2_0 : decode jdk_42_method_79_code 0 = .ok (.aload_n 0, 1) := by decide +kernel
theorem d2_1 : decode jdk_42_method_79_code 1 = .ok (.iload_n 1, 1) := by decide +kernel
theorem d2_2 : decode jdk_42_method_79_code 2 = .ok (.iconst 0, 1) := by decide +kernel
theorem d2_3 : decode jdk_42_method_79_code 3 = .ok (.invokevirtual 633, 3) := by decide +kernel
theorem d2_6 : decode jdk_42_method_79_code 6 = .ok (.ireturn, 1) := by decide +kernel
theorem pd_2_0 : parseMethodDescriptor "(II)I" = some ⟨[.int, .int], some .int⟩ := by decide +kernel
theorem pn_2 : plainName "java/lang/String" = true := by first | (simp [plainName, overriddenIn]; done) | decide +kernel
theorem ef_2 (m : MethodId) (x0 : Addr) (x1 : Int32) : entryFrame m #[(.ref x0), (.int x1)] 2 = mkF m 0 #[.val (.ref x0), .val (.int x1)] [] := by first | (simp [entryFrame, mkF, argsToLocals, Value.category]; done) | rfl
set_option maxRecDepth 65536 in
set_option maxHeartbeats 40000000 in
theorem rmS1 (l : Launch) (Z : State) (a0 : Array Value) (hw : ∀ d ∈ tables_1, d.before a0 Z = true) (ws : List Jvm.Cond) (a1 : Addr) (p1 : Int32) (cs : Int32) (b1 : Addr) (k : ClassId) (h0 : Heap) (n0 : Nat) (Z0 : n0 ≤ h0.size) (S_c : Sta Z h0 "java/lang/String" "COMPACT_STRINGS" "Z" (.int cs)) (hcs : ¬ (cs = (0 : Int32))) (E_a1 : Exa Z h0 a1 "java/lang/String") (F_co : Fld Z h0 a1 "java/lang/String" "coder" "B" (.int (0 : Int32))) (F_va : Fld Z h0 a1 "java/lang/String" "value" "[B" (.ref b1)) (V_b : Arv Z h0 b1 k .byte (17 : Int32) [(.int (35 : Int32)), (.int (36 : Int32)), (.int (38 : Int32)), (.int (42 : Int32)), (.int (43 : Int32)), (.int (45 : Int32)), (.int (46 : Int32)), (.int (47 : Int32)), (.int (58 : Int32)), (.int (60 : Int32)), (.int (61 : Int32)), (.int (62 : Int32)), (.int (63 : Int32)), (.int (64 : Int32)), (.int (94 : Int32)), (.int (126 : Int32)), (.int (92 : Int32))] (.int (0 : Int32))) :
    MetFree l (⟨"java/lang/String", "indexOf", "(I)I"⟩ : MethodName) (head1 (Jvm.Cond.code (⟨"java/lang/String", "indexOf", "(I)I"⟩ : MethodName) jdk_42_method_79_code 2 (some .int) :: ws) ({ frames := 3, cells := 0, slots := 0, locals := 60 } : Room)) (fun a U => a = #[(.ref a1), (.int p1)] ∧ Z.Warmed39 U.vm ∧ U.heap = h0) (fun _ _ _ _ _ => True) (fun _ U o U' => ∃ v L, o = .returned v ∧ QI Z (own_ix p1) h0 n0 v U'.heap L ∧ FrameEnd U o U' L ({ frames := 3, cells := 0, slots := 0, locals := 60 } : Room).cells ({ frames := 3, cells := 0, slots := 0, locals := 60 } : Room).slots) := by
  refine MetFree.of_bodySF (plainFor_of_name pn_2) hisR ?_
  intro p e s m args below meth c s₁ Bd hml0 hP hK
  obtain ⟨rfl, hZ, hh⟩ := hP
  have hx := Bd.exec
  have hby := Bd.bytes
  have hml : c.maxLocals = 2 := hml0
  have hown : s.vm.findClass "java/lang/String" = some m.cls := findClass_of_methodNamed Bd.named
  have hnm := (name_of_methodNamed Bd.named Bd.method).1
  have X0 : Stand p l e ({ frames := 3, cells := 0, slots := 0, locals := 60 } : Room) s m #[(.ref a1), (.int p1)] below meth c s₁ [] 0 0 := Stand.of_body Bd
  have e0 : s₁.heap = h0 := by rw [← hh, Bd.state]; rfl
  have N0 := Fr.nil n0
  have pre0 : ∀ tz, Steps p.tables e below (s₁.setTop (mkF m 0 #[.val (.ref a1), .val (.int p1)] [])) tz → Steps p.tables e below (s₁.setTop (entryFrame m #[(.ref a1), (.int p1)] 2)) tz := fun tz kz => castTop (ef_2 m a1 p1) kz
  obtain ⟨cq1, kq1, q1a, q1b, q1c⟩ := isOf hZ e0 E_a1
  obtain ⟨_, _, ⟨T1, L1, k1, n1⟩, -, X1, ⟨Lc1, hQ1, l1, y1, z1⟩, st1⟩ := X0.virtualBack hx (y := (⟨"java/lang/String", "indexOf", "(II)I"⟩ : MethodName)) (z := (⟨"java/lang/String", "indexOf", "(II)I"⟩ : MethodName)) hown (mvT hZ (hw _ (List.mem_of_getElem? (i := 18) rfl))) (mvT hZ (hw _ (List.mem_of_getElem? (i := 19) rfl))) (notFace_of_selects (args := #[]) (mvT hZ (hw _ (List.mem_of_getElem? (i := 21) rfl)))) (mvT hZ (hw _ (List.mem_of_getElem? (i := 21) rfl))) (mvT hZ (hw _ (List.mem_of_getElem? (i := 20) rfl))) (by decide) (backOf (W := 0) (rmS2 l Z a0 hw [] a1 p1 cs b1 k h0 n0 Z0 S_c hcs E_a1 F_co F_va V_b) hZ (hw _ (List.mem_of_getElem? (i := 22) rfl)) (hw _ (List.mem_of_getElem? (i := 6) rfl)) (by decide) (by decide)) q1a q1c (g := (mkF m 3 #[.val (.ref a1), .val (.int p1)] [(.int (0 : Int32)), (.int p1), (.ref a1)])) rfl (by rw [hml]; rfl) (Steps.refl _) (argsL := [(.int p1), (.int (0 : Int32))]) (rest := []) (lenOf pd_2_0 rfl) rfl (by show 2 * 0 + _ ≤ _; exact Nat.le_of_eq rfl) (hb hby d2_3) (fun _ _ => ⟨rfl, e0, (by decide : 0 + 0 ≤ _), (by decide : 0 + 0 ≤ _)⟩)
  dsimp only [Pt.U, Pt.locs, Pt.cells, Pt.slots] at X1 l1 y1 z1 st1 hQ1
  subst l1 y1 z1
  obtain ⟨rfl, N1q, eh1⟩ := hQ1
  have N1 := Fr.app N0 N1q
  obtain ⟨fs, hr, hrun, hended, hW, hsame⟩ := X1.leave (v := some (.int (own_ix p1))) (fun h => by rw [Bd.returns] at h; cases h)
  refine ⟨_, _, pre0 _ ?_, hrun, hended, _, _, rfl, ?_, ⟨_, rfl⟩, hW, hsame.mono (by decide) (by decide)⟩
  · show Steps p.tables e below (s₁.setTop (mkF m 0 #[.val (.ref a1), .val (.int p1)] [])) _
    refine XS.aloadN X0.here hx rfl (hb hby d2_0) rfl rfl ?_
    show Steps p.tables e below (s₁.setTop (mkF m 1 #[.val (.ref a1), .val (.int p1)] [(.ref a1)])) _
    refine XS.iloadN X0.here hx rfl (hb hby d2_1) rfl ?_
    show Steps p.tables e below (s₁.setTop (mkF m 2 #[.val (.ref a1), .val (.int p1)] [(.int p1), (.ref a1)])) _
    refine XS.iconst X0.here hx rfl (hb hby d2_2) ?_
    show Steps p.tables e below (s₁.setTop (mkF m 3 #[.val (.ref a1), .val (.int p1)] [(.int (0 : Int32)), (.int p1), (.ref a1)])) _
    refine st1.trans ?_
    show Steps p.tables e below (T1.setTop (mkF m 6 #[.val (.ref a1), .val (.int p1)] [(.int (own_ix p1))])) _
    exact retI X1 hx Bd.returns (hb hby d2_6) hr
  · show QI Z (own_ix p1) h0 n0 _ T1.heap _
    rw [eh1]
    exact ⟨rfl, N1, rfl⟩
theorem own_sa {Z : State} {a0 : Array Value} (hw : ∀ d ∈ tables_1, d.before a0 Z = true) : ∀ a ∈ Bundle.stringAtoms, a.before a0 Z = true := by
  intro d hd
  rcases List.mem_cons.mp hd with rfl | hd
  · exact (hw _ (List.mem_of_getElem? (i := 6) rfl))
  rcases List.mem_cons.mp hd with rfl | hd
  · exact (hw _ (List.mem_of_getElem? (i := 7) rfl))
  rcases List.mem_cons.mp hd with rfl | hd
  · exact (hw _ (List.mem_of_getElem? (i := 8) rfl))
  rcases List.mem_cons.mp hd with rfl | hd
  · exact (hw _ (List.mem_of_getElem? (i := 9) rfl))
  rcases List.mem_cons.mp hd with rfl | hd
  · exact (hw _ (List.mem_of_getElem? (i := 10) rfl))
  rcases List.mem_cons.mp hd with rfl | hd
  · exact (hw _ (List.mem_of_getElem? (i := 11) rfl))
  rcases List.mem_cons.mp hd with rfl | hd
  · exact (hw _ (List.mem_of_getElem? (i := 12) rfl))
  cases hd
theorem own_tx : (∀ c ∈ ("#$&*+-./:<=>?@^~\\" : String).toList, c.toNat < 256) ∧ ("#$&*+-./:<=>?@^~\\" : String).toList.map (fun c => Value.int (Jvm.Lit.byteI c.toNat.toUInt16)) = [(.int (35 : Int32)), (.int (36 : Int32)), (.int (38 : Int32)), (.int (42 : Int32)), (.int (43 : Int32)), (.int (45 : Int32)), (.int (46 : Int32)), (.int (47 : Int32)), (.int (58 : Int32)), (.int (60 : Int32)), (.int (61 : Int32)), (.int (62 : Int32)), (.int (63 : Int32)), (.int (64 : Int32)), (.int (94 : Int32)), (.int (126 : Int32)), (.int (92 : Int32))] := ⟨by decide, by rfl⟩
theorem own_ew {Z : State} {a0 : Array Value} (hw : ∀ d ∈ tables_1, d.before a0 Z = true) : EW Z a0 [("cohort/Lexer", 40)] := EW.cons (hw _ (List.mem_of_getElem? (i := 5) rfl)) own_tx.1 EW.nil
def QS (Z : State) (r : Int32) (h0 : Heap) (n0 : Nat) (v : Option Value) (h : Heap) (L : List Loc) : Prop := v = some (.int r) ∧ Fr n0 L
theorem d1_0 : decode prog_30_method_2_code 0 = .ok (.ldc 40, 2) := by decide +kernel
theorem d1_2 : decode prog_30_method_2_code 2 = .ok (.iload_n 0, 1) := by decide +kernel
theorem d1_3 : decode prog_30_method_2_code 3 = .ok (.invokevirtual 42, 3) := by decide +kernel
theorem d1_6 : decode prog_30_method_2_code 6 = .ok (.ifCond .lt 7, 3) := by decide +kernel
theorem d1_13 : decode prog_30_method_2_code 13 = .ok (.iconst 0, 1) := by decide +kernel
theorem d1_14 : decode prog_30_method_2_code 14 = .ok (.ireturn, 1) := by decide +kernel
theorem pd_1_0 : parseMethodDescriptor "(I)I" = some ⟨[.int], some .int⟩ := by decide +kernel
theorem pn_1 : plainName "cohort/Lexer" = true := by first | (simp [plainName, overriddenIn]; done) | decide +kernel
theorem ef_1 (m : MethodId) (x0 : Int32) : entryFrame m #[(.int x0)] 1 = mkF m 0 #[.val (.int x0)] [] := by first | (simp [entryFrame, mkF, argsToLocals, Value.category]; done) | rfl
set_option maxRecDepth 65536 in
set_option maxHeartbeats 40000000 in
theorem rmSya (l : Launch) (Z : State) (a0 : Array Value) (hw : ∀ d ∈ tables_1, d.before a0 Z = true) (ws : List Jvm.Cond) (p1 : Int32) (cs : Int32) (h0 : Heap) (n0 : Nat) (Z0 : n0 ≤ h0.size) (S_c : Sta Z h0 "java/lang/String" "COMPACT_STRINGS" "Z" (.int cs)) (hcs : ¬ (cs = (0 : Int32))) (hq : own_ix p1 < (0 : Int32)) :
    MetFree l (⟨"cohort/Lexer", "isSymbolChar", "(I)Z"⟩ : MethodName) (head1 (Jvm.Cond.code (⟨"cohort/Lexer", "isSymbolChar", "(I)Z"⟩ : MethodName) prog_30_method_2_code 1 (some .boolean) :: ws) ({ frames := 4, cells := 2, slots := 72, locals := 90 } : Room)) (fun a U => a = #[(.int p1)] ∧ Z.Warmed39 U.vm ∧ U.heap = h0 ∧ CHv Z [("cohort/Lexer", 40)] U.vm h0) (fun _ _ _ _ _ => True) (fun _ U o U' => ∃ v L, o = .returned v ∧ QS Z (own_sym p1) h0 n0 v U'.heap L ∧ CHr Z [("cohort/Lexer", 40)] U.vm U.heap U'.vm U'.heap ∧ ReturnedEndW U o U' L ({ frames := 4, cells := 2, slots := 72, locals := 90 } : Room).cells ({ frames := 4, cells := 2, slots := 72, locals := 90 } : Room).slots) := by
  refine MetFree.of_bodySF (plainFor_of_name pn_1) hisR ?_
  intro p e s m args below meth c s₁ Bd hml0 hP hK
  obtain ⟨rfl, hZ, hh, hCH⟩ := hP
  have hx := Bd.exec
  have hby := Bd.bytes
  have hml : c.maxLocals = 1 := hml0
  have hown : s.vm.findClass "cohort/Lexer" = some m.cls := findClass_of_methodNamed Bd.named
  have hnm := (name_of_methodNamed Bd.named Bd.method).1
  have X0 : Stand p l e ({ frames := 4, cells := 2, slots := 72, locals := 90 } : Room) s m #[(.int p1)] below meth c s₁ [] 0 0 := Stand.of_body Bd
  have e0 : s₁.heap = h0 := by rw [← hh, Bd.state]; rfl
  have N0 := Fr.nil n0
  have pre0 : ∀ tz, Steps p.tables e below (s₁.setTop (mkF m 0 #[.val (.int p1)] [])) tz → Steps p.tables e below (s₁.setTop (entryFrame m #[(.int p1)] 1)) tz := fun tz kz => castTop (ef_1 m p1) kz
  obtain ⟨a1, T1, h1, kk1, b1, k, X1, e1, E1, hS1, hk1, hZ1, hown1, E_a1, F_co, F_va, V_b, -, -, CR1, -, -, st1⟩ := ldcCH (s := s) (vm0 := s.vm) X0 hx hZ hown (hw _ (List.mem_of_getElem? (i := 5) rfl)) (own_sa hw) e0 ((State.WarmedH.refl s).since h0.size) (Nat.le_refl _) (own_ew hw) (List.mem_singleton.mpr rfl) hCH (vs := [(.int (35 : Int32)), (.int (36 : Int32)), (.int (38 : Int32)), (.int (42 : Int32)), (.int (43 : Int32)), (.int (45 : Int32)), (.int (46 : Int32)), (.int (47 : Int32)), (.int (58 : Int32)), (.int (60 : Int32)), (.int (61 : Int32)), (.int (62 : Int32)), (.int (63 : Int32)), (.int (64 : Int32)), (.int (94 : Int32)), (.int (126 : Int32)), (.int (92 : Int32))]) (z := (17 : Int32)) own_tx (by decide) rfl (g := (mkF m 0 #[.val (.int p1)] [])) rfl (hb hby d1_0) (n := 68) (by decide) (by decide) (by decide) (by decide)
  have S_c' := S_c.ext E1
  have Zn1 : n0 ≤ h1.size := Nat.le_trans Z0 E1.1
  obtain ⟨cq2, kq2, q2a, q2b, q2c⟩ := isOf hZ1 e1 E_a1
  obtain ⟨_, _, ⟨T2, L2, k2, n2⟩, -, X2, ⟨Lc2, hQ2, l2, y2, z2⟩, st2⟩ := X1.virtualBack hx (y := (⟨"java/lang/String", "indexOf", "(I)I"⟩ : MethodName)) (z := (⟨"java/lang/String", "indexOf", "(I)I"⟩ : MethodName)) hown1 (mvT hZ1 (hw _ (List.mem_of_getElem? (i := 13) rfl))) (mvT hZ1 (hw _ (List.mem_of_getElem? (i := 14) rfl))) (notFace_of_selects (args := #[]) (mvT hZ1 (hw _ (List.mem_of_getElem? (i := 16) rfl)))) (mvT hZ1 (hw _ (List.mem_of_getElem? (i := 16) rfl))) (mvT hZ1 (hw _ (List.mem_of_getElem? (i := 15) rfl))) (by decide) (backOf (W := 0) (rmS1 l Z a0 hw [] a1 p1 cs b1 k h1 n0 Zn1 S_c' hcs E_a1 F_co F_va V_b) hZ1 (hw _ (List.mem_of_getElem? (i := 17) rfl)) (hw _ (List.mem_of_getElem? (i := 6) rfl)) (by decide) (by decide)) q2a q2c (g := (mkF m 3 #[.val (.int p1)] [(.int p1), (.ref a1)])) rfl (by rw [hml]; rfl) (Steps.refl _) (argsL := [(.int p1)]) (rest := []) (lenOf pd_1_0 rfl) rfl (by show 2 * 0 + _ ≤ _; exact Nat.le_of_eq rfl) (hb hby d1_3) (fun _ _ => ⟨rfl, e1, (by decide : 2 + 0 ≤ _), (by decide : 72 + 0 ≤ _)⟩)
  dsimp only [Pt.U, Pt.locs, Pt.cells, Pt.slots] at X2 l2 y2 z2 st2 hQ2
  subst l2 y2 z2
  obtain ⟨rfl, N2q, eh2⟩ := hQ2
  have N2 := Fr.app N0 N2q
  obtain ⟨fs, hr, hrun, hended, hEW⟩ := X2.leaveW (s := s) hS1 (by rw [eh2]; exact hk1) (v := some (.int (0 : Int32))) (fun h => by rw [Bd.returns] at h; cases h)
  refine ⟨_, _, pre0 _ ?_, hrun, hended, _, _, rfl, ?_, ?_, hEW.1, hEW.2.1, hEW.2.2.1, hEW.2.2.2.mono (by decide) (by decide)⟩
  · show Steps p.tables e below (s₁.setTop (mkF m 0 #[.val (.int p1)] [])) _
    refine st1 _ ?_
    show Steps p.tables e below (T1.setTop (mkF m 2 #[.val (.int p1)] [(.ref a1)])) _
    refine XS.iloadN X1.here hx rfl (hb hby d1_2) rfl ?_
    show Steps p.tables e below (T1.setTop (mkF m 3 #[.val (.int p1)] [(.int p1), (.ref a1)])) _
    refine st2.trans ?_
    show Steps p.tables e below (T2.setTop (mkF m 6 #[.val (.int p1)] [(.int (own_ix p1))])) _
    refine XS.ifYes X2.here hx rfl (pc0 := 6) (pc' := 13) rfl (hb hby d1_6) rfl ((if0 _ _).trans (tlt (hq : (own_ix p1) < (0 : Int32))).1) (by decide) (by decide) ?_
    show Steps p.tables e below (T2.setTop (mkF m 13 #[.val (.int p1)] [])) _
    refine XS.iconst X2.here hx rfl (hb hby d1_13) ?_
    show Steps p.tables e below (T2.setTop (mkF m 14 #[.val (.int p1)] [(.int (0 : Int32))])) _
    exact retN X2 hx (t := .boolean) Bd.returns (by simp) (hb hby d1_14) hr
  · show QS Z (own_sym p1) h0 n0 _ T2.heap _
    exact ⟨congrArg (fun z => some (Value.int z)) (if_pos hq).symm, N2⟩
  · show CHr Z [("cohort/Lexer", 40)] s.vm s.heap T2.vm T2.heap
    rw [hh]
    exact (by rw [eh2]; exact CR1.trans (CHv.at X2 hZ1 (own_ew hw) CR1.1))
theorem d1_9 : decode prog_30_method_2_code 9 = .ok (.iconst 1, 1) := by decide +kernel
theorem d1_10 : decode prog_30_method_2_code 10 = .ok (.goto 4, 3) := by decide +kernel
set_option maxRecDepth 65536 in
set_option maxHeartbeats 40000000 in
theorem rmSyb (l : Launch) (Z : State) (a0 : Array Value) (hw : ∀ d ∈ tables_1, d.before a0 Z = true) (ws : List Jvm.Cond) (p1 : Int32) (cs : Int32) (h0 : Heap) (n0 : Nat) (Z0 : n0 ≤ h0.size) (S_c : Sta Z h0 "java/lang/String" "COMPACT_STRINGS" "Z" (.int cs)) (hcs : ¬ (cs = (0 : Int32))) (hq : ¬ (own_ix p1 < (0 : Int32))) :
    MetFree l (⟨"cohort/Lexer", "isSymbolChar", "(I)Z"⟩ : MethodName) (head1 (Jvm.Cond.code (⟨"cohort/Lexer", "isSymbolChar", "(I)Z"⟩ : MethodName) prog_30_method_2_code 1 (some .boolean) :: ws) ({ frames := 4, cells := 2, slots := 72, locals := 90 } : Room)) (fun a U => a = #[(.int p1)] ∧ Z.Warmed39 U.vm ∧ U.heap = h0 ∧ CHv Z [("cohort/Lexer", 40)] U.vm h0) (fun _ _ _ _ _ => True) (fun _ U o U' => ∃ v L, o = .returned v ∧ QS Z (own_sym p1) h0 n0 v U'.heap L ∧ CHr Z [("cohort/Lexer", 40)] U.vm U.heap U'.vm U'.heap ∧ ReturnedEndW U o U' L ({ frames := 4, cells := 2, slots := 72, locals := 90 } : Room).cells ({ frames := 4, cells := 2, slots := 72, locals := 90 } : Room).slots) := by
  refine MetFree.of_bodySF (plainFor_of_name pn_1) hisR ?_
  intro p e s m args below meth c s₁ Bd hml0 hP hK
  obtain ⟨rfl, hZ, hh, hCH⟩ := hP
  have hx := Bd.exec
  have hby := Bd.bytes
  have hml : c.maxLocals = 1 := hml0
  have hown : s.vm.findClass "cohort/Lexer" = some m.cls := findClass_of_methodNamed Bd.named
  have hnm := (name_of_methodNamed Bd.named Bd.method).1
  have X0 : Stand p l e ({ frames := 4, cells := 2, slots := 72, locals := 90 } : Room) s m #[(.int p1)] below meth c s₁ [] 0 0 := Stand.of_body Bd
  have e0 : s₁.heap = h0 := by rw [← hh, Bd.state]; rfl
  have N0 := Fr.nil n0
  have pre0 : ∀ tz, Steps p.tables e below (s₁.setTop (mkF m 0 #[.val (.int p1)] [])) tz → Steps p.tables e below (s₁.setTop (entryFrame m #[(.int p1)] 1)) tz := fun tz kz => castTop (ef_1 m p1) kz
  obtain ⟨a1, T1, h1, kk1, b1, k, X1, e1, E1, hS1, hk1, hZ1, hown1, E_a1, F_co, F_va, V_b, -, -, CR1, -, -, st1⟩ := ldcCH (s := s) (vm0 := s.vm) X0 hx hZ hown (hw _ (List.mem_of_getElem? (i := 5) rfl)) (own_sa hw) e0 ((State.WarmedH.refl s).since h0.size) (Nat.le_refl _) (own_ew hw) (List.mem_singleton.mpr rfl) hCH (vs := [(.int (35 : Int32)), (.int (36 : Int32)), (.int (38 : Int32)), (.int (42 : Int32)), (.int (43 : Int32)), (.int (45 : Int32)), (.int (46 : Int32)), (.int (47 : Int32)), (.int (58 : Int32)), (.int (60 : Int32)), (.int (61 : Int32)), (.int (62 : Int32)), (.int (63 : Int32)), (.int (64 : Int32)), (.int (94 : Int32)), (.int (126 : Int32)), (.int (92 : Int32))]) (z := (17 : Int32)) own_tx (by decide) rfl (g := (mkF m 0 #[.val (.int p1)] [])) rfl (hb hby d1_0) (n := 68) (by decide) (by decide) (by decide) (by decide)
  have S_c' := S_c.ext E1
  have Zn1 : n0 ≤ h1.size := Nat.le_trans Z0 E1.1
  obtain ⟨cq2, kq2, q2a, q2b, q2c⟩ := isOf hZ1 e1 E_a1
  obtain ⟨_, _, ⟨T2, L2, k2, n2⟩, -, X2, ⟨Lc2, hQ2, l2, y2, z2⟩, st2⟩ := X1.virtualBack hx (y := (⟨"java/lang/String", "indexOf", "(I)I"⟩ : MethodName)) (z := (⟨"java/lang/String", "indexOf", "(I)I"⟩ : MethodName)) hown1 (mvT hZ1 (hw _ (List.mem_of_getElem? (i := 13) rfl))) (mvT hZ1 (hw _ (List.mem_of_getElem? (i := 14) rfl))) (notFace_of_selects (args := #[]) (mvT hZ1 (hw _ (List.mem_of_getElem? (i := 16) rfl)))) (mvT hZ1 (hw _ (List.mem_of_getElem? (i := 16) rfl))) (mvT hZ1 (hw _ (List.mem_of_getElem? (i := 15) rfl))) (by decide) (backOf (W := 0) (rmS1 l Z a0 hw [] a1 p1 cs b1 k h1 n0 Zn1 S_c' hcs E_a1 F_co F_va V_b) hZ1 (hw _ (List.mem_of_getElem? (i := 17) rfl)) (hw _ (List.mem_of_getElem? (i := 6) rfl)) (by decide) (by decide)) q2a q2c (g := (mkF m 3 #[.val (.int p1)] [(.int p1), (.ref a1)])) rfl (by rw [hml]; rfl) (Steps.refl _) (argsL := [(.int p1)]) (rest := []) (lenOf pd_1_0 rfl) rfl (by show 2 * 0 + _ ≤ _; exact Nat.le_of_eq rfl) (hb hby d1_3) (fun _ _ => ⟨rfl, e1, (by decide : 2 + 0 ≤ _), (by decide : 72 + 0 ≤ _)⟩)
  dsimp only [Pt.U, Pt.locs, Pt.cells, Pt.slots] at X2 l2 y2 z2 st2 hQ2
  subst l2 y2 z2
  obtain ⟨rfl, N2q, eh2⟩ := hQ2
  have N2 := Fr.app N0 N2q
  obtain ⟨fs, hr, hrun, hended, hEW⟩ := X2.leaveW (s := s) hS1 (by rw [eh2]; exact hk1) (v := some (.int (1 : Int32))) (fun h => by rw [Bd.returns] at h; cases h)
  refine ⟨_, _, pre0 _ ?_, hrun, hended, _, _, rfl, ?_, ?_, hEW.1, hEW.2.1, hEW.2.2.1, hEW.2.2.2.mono (by decide) (by decide)⟩
  · show Steps p.tables e below (s₁.setTop (mkF m 0 #[.val (.int p1)] [])) _
    refine st1 _ ?_
    show Steps p.tables e below (T1.setTop (mkF m 2 #[.val (.int p1)] [(.ref a1)])) _
    refine XS.iloadN X1.here hx rfl (hb hby d1_2) rfl ?_
    show Steps p.tables e below (T1.setTop (mkF m 3 #[.val (.int p1)] [(.int p1), (.ref a1)])) _
    refine st2.trans ?_
    show Steps p.tables e below (T2.setTop (mkF m 6 #[.val (.int p1)] [(.int (own_ix p1))])) _
    refine XS.ifNo X2.here hx rfl (hb hby d1_6) rfl ((if0 _ _).trans (flt (hq : ¬ ((own_ix p1) < (0 : Int32)))).1) ?_
    show Steps p.tables e below (T2.setTop (mkF m 9 #[.val (.int p1)] [])) _
    refine XS.iconst X2.here hx rfl (hb hby d1_9) ?_
    show Steps p.tables e below (T2.setTop (mkF m 10 #[.val (.int p1)] [(.int (1 : Int32))])) _
    refine XS.goto X2.here hx rfl (pc0 := 10) (pc' := 14) rfl (hb hby d1_10) (by decide) (by decide) ?_
    show Steps p.tables e below (T2.setTop (mkF m 14 #[.val (.int p1)] [(.int (1 : Int32))])) _
    exact retN X2 hx (t := .boolean) Bd.returns (by simp) (hb hby d1_14) hr
  · show QS Z (own_sym p1) h0 n0 _ T2.heap _
    exact ⟨congrArg (fun z => some (Value.int z)) (if_neg hq).symm, N2⟩
  · show CHr Z [("cohort/Lexer", 40)] s.vm s.heap T2.vm T2.heap
    rw [hh]
    exact (by rw [eh2]; exact CR1.trans (CHv.at X2 hZ1 (own_ew hw) CR1.1))
theorem rmSy (l : Launch) (Z : State) (a0 : Array Value) (hw : ∀ d ∈ tables_1, d.before a0 Z = true) (ws : List Jvm.Cond) (p1 : Int32) (cs : Int32) (h0 : Heap) (n0 : Nat) (Z0 : n0 ≤ h0.size) (S_c : Sta Z h0 "java/lang/String" "COMPACT_STRINGS" "Z" (.int cs)) (hcs : ¬ (cs = (0 : Int32))) :
    MetFree l (⟨"cohort/Lexer", "isSymbolChar", "(I)Z"⟩ : MethodName) (head1 (Jvm.Cond.code (⟨"cohort/Lexer", "isSymbolChar", "(I)Z"⟩ : MethodName) prog_30_method_2_code 1 (some .boolean) :: ws) ({ frames := 4, cells := 2, slots := 72, locals := 90 } : Room)) (fun a U => a = #[(.int p1)] ∧ Z.Warmed39 U.vm ∧ U.heap = h0 ∧ CHv Z [("cohort/Lexer", 40)] U.vm h0) (fun _ _ _ _ _ => True) (fun _ U o U' => ∃ v L, o = .returned v ∧ QS Z (own_sym p1) h0 n0 v U'.heap L ∧ CHr Z [("cohort/Lexer", 40)] U.vm U.heap U'.vm U'.heap ∧ ReturnedEndW U o U' L ({ frames := 4, cells := 2, slots := 72, locals := 90 } : Room).cells ({ frames := 4, cells := 2, slots := 72, locals := 90 } : Room).slots) := by
  by_cases hq : own_ix p1 < (0 : Int32)
  · exact rmSya l Z a0 hw ws p1 cs h0 n0 Z0 S_c hcs hq
  · exact rmSyb l Z a0 hw ws p1 cs h0 n0 Z0 S_c hcs hq
theorem d12_0 : decode method_3_code 0 = .ok (.iload_n 0, 1) := by decide +kernel
theorem d12_1 : decode method_3_code 1 = .ok (.bipush 35, 2) := by decide +kernel
theorem d12_3 : decode method_3_code 3 = .ok (.if_icmp .eq 99, 3) := by decide +kernel
theorem d12_102 : decode method_3_code 102 = .ok (.iconst 1, 1) := by decide +kernel
theorem d12_103 : decode method_3_code 103 = .ok (.goto 4, 3) := by decide +kernel
theorem d12_107 : decode method_3_code 107 = .ok (.ireturn, 1) := by decide +kernel
theorem pn_12 : plainName "cohort/LexerIsSymbolCharPinLaw" = true := by first | (simp [plainName, overriddenIn]; done) | decide +kernel
theorem ef_12 (m : MethodId) (x0 : Int32) : entryFrame m #[(.int x0)] 1 = mkF m 0 #[.val (.int x0)] [] := by first | (simp [entryFrame, mkF, argsToLocals, Value.category]; done) | rfl
set_option maxRecDepth 65536 in
set_option maxHeartbeats 40000000 in
theorem rmRf_0 (l : Launch) (Z : State) (a0 : Array Value) (hw : ∀ d ∈ tables_1, d.before a0 Z = true) (ws : List Jvm.Cond) (p1 : Int32) (h0 : Heap) (n0 : Nat) (Z0 : n0 ≤ h0.size) (vh0 : p1 = (35 : Int32)) :
    MetFree l (⟨"cohort/LexerIsSymbolCharPinLaw", "ref", "(I)Z"⟩ : MethodName) (head1 (Jvm.Cond.code (⟨"cohort/LexerIsSymbolCharPinLaw", "ref", "(I)Z"⟩ : MethodName) method_3_code 1 (some .boolean) :: ws) ({ frames := 0, cells := 0, slots := 0, locals := 0 } : Room)) (fun a U => a = #[(.int p1)] ∧ Z.Warmed39 U.vm ∧ U.heap = h0) (fun _ _ _ _ _ => True) (fun _ U o U' => ∃ v L, o = .returned v ∧ QI Z (own_ref p1) h0 n0 v U'.heap L ∧ FrameEnd U o U' L ({ frames := 0, cells := 0, slots := 0, locals := 0 } : Room).cells ({ frames := 0, cells := 0, slots := 0, locals := 0 } : Room).slots) := by
  refine MetFree.of_bodySF (plainFor_of_name pn_12) hisR ?_
  intro p e s m args below meth c s₁ Bd hml0 hP hK
  obtain ⟨rfl, hZ, hh⟩ := hP
  have hx := Bd.exec
  have hby := Bd.bytes
  have hml : c.maxLocals = 1 := hml0
  have hown : s.vm.findClass "cohort/LexerIsSymbolCharPinLaw" = some m.cls := findClass_of_methodNamed Bd.named
  have hnm := (name_of_methodNamed Bd.named Bd.method).1
  have X0 : Stand p l e ({ frames := 0, cells := 0, slots := 0, locals := 0 } : Room) s m #[(.int p1)] below meth c s₁ [] 0 0 := Stand.of_body Bd
  have e0 : s₁.heap = h0 := by rw [← hh, Bd.state]; rfl
  have N0 := Fr.nil n0
  have pre0 : ∀ tz, Steps p.tables e below (s₁.setTop (mkF m 0 #[.val (.int p1)] [])) tz → Steps p.tables e below (s₁.setTop (entryFrame m #[(.int p1)] 1)) tz := fun tz kz => castTop (ef_12 m p1) kz
  obtain ⟨fs, hr, hrun, hended, hW, hsame⟩ := X0.leave (v := some (.int (1 : Int32))) (fun h => by rw [Bd.returns] at h; cases h)
  refine ⟨_, _, pre0 _ ?_, hrun, hended, _, _, rfl, ?_, ⟨_, rfl⟩, hW, hsame.mono (by decide) (by decide)⟩
  · show Steps p.tables e below (s₁.setTop (mkF m 0 #[.val (.int p1)] [])) _
    refine XS.iloadN X0.here hx rfl (hb hby d12_0) rfl ?_
    show Steps p.tables e below (s₁.setTop (mkF m 1 #[.val (.int p1)] [(.int p1)])) _
    refine XS.bipush X0.here hx rfl (hb hby d12_1) ?_
    show Steps p.tables e below (s₁.setTop (mkF m 3 #[.val (.int p1)] [(.int (35 : Int32)), (.int p1)])) _
    refine XS.icmpYes X0.here hx rfl (pc0 := 3) (pc' := 102) rfl (hb hby d12_3) rfl (teq (vh0 : p1 = (35 : Int32))).1 (by decide) (by decide) ?_
    show Steps p.tables e below (s₁.setTop (mkF m 102 #[.val (.int p1)] [])) _
    refine XS.iconst X0.here hx rfl (hb hby d12_102) ?_
    show Steps p.tables e below (s₁.setTop (mkF m 103 #[.val (.int p1)] [(.int (1 : Int32))])) _
    refine XS.goto X0.here hx rfl (pc0 := 103) (pc' := 107) rfl (hb hby d12_103) (by decide) (by decide) ?_
    show Steps p.tables e below (s₁.setTop (mkF m 107 #[.val (.int p1)] [(.int (1 : Int32))])) _
    exact retN X0 hx (t := .boolean) Bd.returns (by simp) (hb hby d12_107) hr
  · show QI Z (own_ref p1) h0 n0 _ s₁.heap _
    rw [e0]
    exact ⟨congrArg (fun z => some (Value.int z)) (Eq.symm (if_pos vh0)), N0, rfl⟩
theorem d12_6 : decode method_3_code 6 = .ok (.iload_n 0, 1) := by decide +kernel
theorem d12_7 : decode method_3_code 7 = .ok (.bipush 36, 2) := by decide +kernel
theorem d12_9 : decode method_3_code 9 = .ok (.if_icmp .eq 93, 3) := by decide +kernel
set_option maxRecDepth 65536 in
set_option maxHeartbeats 40000000 in
theorem rmRf_1 (l : Launch) (Z : State) (a0 : Array Value) (hw : ∀ d ∈ tables_1, d.before a0 Z = true) (ws : List Jvm.Cond) (p1 : Int32) (h0 : Heap) (n0 : Nat) (Z0 : n0 ≤ h0.size) (vh0 : ¬ (p1 = (35 : Int32))) (vh1 : p1 = (36 : Int32)) :
    MetFree l (⟨"cohort/LexerIsSymbolCharPinLaw", "ref", "(I)Z"⟩ : MethodName) (head1 (Jvm.Cond.code (⟨"cohort/LexerIsSymbolCharPinLaw", "ref", "(I)Z"⟩ : MethodName) method_3_code 1 (some .boolean) :: ws) ({ frames := 0, cells := 0, slots := 0, locals := 0 } : Room)) (fun a U => a = #[(.int p1)] ∧ Z.Warmed39 U.vm ∧ U.heap = h0) (fun _ _ _ _ _ => True) (fun _ U o U' => ∃ v L, o = .returned v ∧ QI Z (own_ref p1) h0 n0 v U'.heap L ∧ FrameEnd U o U' L ({ frames := 0, cells := 0, slots := 0, locals := 0 } : Room).cells ({ frames := 0, cells := 0, slots := 0, locals := 0 } : Room).slots) := by
  refine MetFree.of_bodySF (plainFor_of_name pn_12) hisR ?_
  intro p e s m args below meth c s₁ Bd hml0 hP hK
  obtain ⟨rfl, hZ, hh⟩ := hP
  have hx := Bd.exec
  have hby := Bd.bytes
  have hml : c.maxLocals = 1 := hml0
  have hown : s.vm.findClass "cohort/LexerIsSymbolCharPinLaw" = some m.cls := findClass_of_methodNamed Bd.named
  have hnm := (name_of_methodNamed Bd.named Bd.method).1
  have X0 : Stand p l e ({ frames := 0, cells := 0, slots := 0, locals := 0 } : Room) s m #[(.int p1)] below meth c s₁ [] 0 0 := Stand.of_body Bd
  have e0 : s₁.heap = h0 := by rw [← hh, Bd.state]; rfl
  have N0 := Fr.nil n0
  have pre0 : ∀ tz, Steps p.tables e below (s₁.setTop (mkF m 0 #[.val (.int p1)] [])) tz → Steps p.tables e below (s₁.setTop (entryFrame m #[(.int p1)] 1)) tz := fun tz kz => castTop (ef_12 m p1) kz
  obtain ⟨fs, hr, hrun, hended, hW, hsame⟩ := X0.leave (v := some (.int (1 : Int32))) (fun h => by rw [Bd.returns] at h; cases h)
  refine ⟨_, _, pre0 _ ?_, hrun, hended, _, _, rfl, ?_, ⟨_, rfl⟩, hW, hsame.mono (by decide) (by decide)⟩
  · show Steps p.tables e below (s₁.setTop (mkF m 0 #[.val (.int p1)] [])) _
    refine XS.iloadN X0.here hx rfl (hb hby d12_0) rfl ?_
    show Steps p.tables e below (s₁.setTop (mkF m 1 #[.val (.int p1)] [(.int p1)])) _
    refine XS.bipush X0.here hx rfl (hb hby d12_1) ?_
    show Steps p.tables e below (s₁.setTop (mkF m 3 #[.val (.int p1)] [(.int (35 : Int32)), (.int p1)])) _
    refine XS.icmpNo X0.here hx rfl (hb hby d12_3) rfl (feq (vh0 : ¬ (p1 = (35 : Int32)))).1 ?_
    show Steps p.tables e below (s₁.setTop (mkF m 6 #[.val (.int p1)] [])) _
    refine XS.iloadN X0.here hx rfl (hb hby d12_6) rfl ?_
    show Steps p.tables e below (s₁.setTop (mkF m 7 #[.val (.int p1)] [(.int p1)])) _
    refine XS.bipush X0.here hx rfl (hb hby d12_7) ?_
    show Steps p.tables e below (s₁.setTop (mkF m 9 #[.val (.int p1)] [(.int (36 : Int32)), (.int p1)])) _
    refine XS.icmpYes X0.here hx rfl (pc0 := 9) (pc' := 102) rfl (hb hby d12_9) rfl (teq (vh1 : p1 = (36 : Int32))).1 (by decide) (by decide) ?_
    show Steps p.tables e below (s₁.setTop (mkF m 102 #[.val (.int p1)] [])) _
    refine XS.iconst X0.here hx rfl (hb hby d12_102) ?_
    show Steps p.tables e below (s₁.setTop (mkF m 103 #[.val (.int p1)] [(.int (1 : Int32))])) _
    refine XS.goto X0.here hx rfl (pc0 := 103) (pc' := 107) rfl (hb hby d12_103) (by decide) (by decide) ?_
    show Steps p.tables e below (s₁.setTop (mkF m 107 #[.val (.int p1)] [(.int (1 : Int32))])) _
    exact retN X0 hx (t := .boolean) Bd.returns (by simp) (hb hby d12_107) hr
  · show QI Z (own_ref p1) h0 n0 _ s₁.heap _
    rw [e0]
    exact ⟨congrArg (fun z => some (Value.int z)) (Eq.symm ((if_neg vh0).trans (if_pos vh1))), N0, rfl⟩
theorem d12_12 : decode method_3_code 12 = .ok (.iload_n 0, 1) := by decide +kernel
theorem d12_13 : decode method_3_code 13 = .ok (.bipush 38, 2) := by decide +kernel
theorem d12_15 : decode method_3_code 15 = .ok (.if_icmp .eq 87, 3) := by decide +kernel
set_option maxRecDepth 65536 in
set_option maxHeartbeats 40000000 in
theorem rmRf_2 (l : Launch) (Z : State) (a0 : Array Value) (hw : ∀ d ∈ tables_1, d.before a0 Z = true) (ws : List Jvm.Cond) (p1 : Int32) (h0 : Heap) (n0 : Nat) (Z0 : n0 ≤ h0.size) (vh0 : ¬ (p1 = (35 : Int32))) (vh1 : ¬ (p1 = (36 : Int32))) (vh2 : p1 = (38 : Int32)) :
    MetFree l (⟨"cohort/LexerIsSymbolCharPinLaw", "ref", "(I)Z"⟩ : MethodName) (head1 (Jvm.Cond.code (⟨"cohort/LexerIsSymbolCharPinLaw", "ref", "(I)Z"⟩ : MethodName) method_3_code 1 (some .boolean) :: ws) ({ frames := 0, cells := 0, slots := 0, locals := 0 } : Room)) (fun a U => a = #[(.int p1)] ∧ Z.Warmed39 U.vm ∧ U.heap = h0) (fun _ _ _ _ _ => True) (fun _ U o U' => ∃ v L, o = .returned v ∧ QI Z (own_ref p1) h0 n0 v U'.heap L ∧ FrameEnd U o U' L ({ frames := 0, cells := 0, slots := 0, locals := 0 } : Room).cells ({ frames := 0, cells := 0, slots := 0, locals := 0 } : Room).slots) := by
  refine MetFree.of_bodySF (plainFor_of_name pn_12) hisR ?_
  intro p e s m args below meth c s₁ Bd hml0 hP hK
  obtain ⟨rfl, hZ, hh⟩ := hP
  have hx := Bd.exec
  have hby := Bd.bytes
  have hml : c.maxLocals = 1 := hml0
  have hown : s.vm.findClass "cohort/LexerIsSymbolCharPinLaw" = some m.cls := findClass_of_methodNamed Bd.named
  have hnm := (name_of_methodNamed Bd.named Bd.method).1
  have X0 : Stand p l e ({ frames := 0, cells := 0, slots := 0, locals := 0 } : Room) s m #[(.int p1)] below meth c s₁ [] 0 0 := Stand.of_body Bd
  have e0 : s₁.heap = h0 := by rw [← hh, Bd.state]; rfl
  have N0 := Fr.nil n0
  have pre0 : ∀ tz, Steps p.tables e below (s₁.setTop (mkF m 0 #[.val (.int p1)] [])) tz → Steps p.tables e below (s₁.setTop (entryFrame m #[(.int p1)] 1)) tz := fun tz kz => castTop (ef_12 m p1) kz
  obtain ⟨fs, hr, hrun, hended, hW, hsame⟩ := X0.leave (v := some (.int (1 : Int32))) (fun h => by rw [Bd.returns] at h; cases h)
  refine ⟨_, _, pre0 _ ?_, hrun, hended, _, _, rfl, ?_, ⟨_, rfl⟩, hW, hsame.mono (by decide) (by decide)⟩
  · show Steps p.tables e below (s₁.setTop (mkF m 0 #[.val (.int p1)] [])) _
    refine XS.iloadN X0.here hx rfl (hb hby d12_0) rfl ?_
    show Steps p.tables e below (s₁.setTop (mkF m 1 #[.val (.int p1)] [(.int p1)])) _
    refine XS.bipush X0.here hx rfl (hb hby d12_1) ?_
    show Steps p.tables e below (s₁.setTop (mkF m 3 #[.val (.int p1)] [(.int (35 : Int32)), (.int p1)])) _
    refine XS.icmpNo X0.here hx rfl (hb hby d12_3) rfl (feq (vh0 : ¬ (p1 = (35 : Int32)))).1 ?_
    show Steps p.tables e below (s₁.setTop (mkF m 6 #[.val (.int p1)] [])) _
    refine XS.iloadN X0.here hx rfl (hb hby d12_6) rfl ?_
    show Steps p.tables e below (s₁.setTop (mkF m 7 #[.val (.int p1)] [(.int p1)])) _
    refine XS.bipush X0.here hx rfl (hb hby d12_7) ?_
    show Steps p.tables e below (s₁.setTop (mkF m 9 #[.val (.int p1)] [(.int (36 : Int32)), (.int p1)])) _
    refine XS.icmpNo X0.here hx rfl (hb hby d12_9) rfl (feq (vh1 : ¬ (p1 = (36 : Int32)))).1 ?_
    show Steps p.tables e below (s₁.setTop (mkF m 12 #[.val (.int p1)] [])) _
    refine XS.iloadN X0.here hx rfl (hb hby d12_12) rfl ?_
    show Steps p.tables e below (s₁.setTop (mkF m 13 #[.val (.int p1)] [(.int p1)])) _
    refine XS.bipush X0.here hx rfl (hb hby d12_13) ?_
    show Steps p.tables e below (s₁.setTop (mkF m 15 #[.val (.int p1)] [(.int (38 : Int32)), (.int p1)])) _
    refine XS.icmpYes X0.here hx rfl (pc0 := 15) (pc' := 102) rfl (hb hby d12_15) rfl (teq (vh2 : p1 = (38 : Int32))).1 (by decide) (by decide) ?_
    show Steps p.tables e below (s₁.setTop (mkF m 102 #[.val (.int p1)] [])) _
    refine XS.iconst X0.here hx rfl (hb hby d12_102) ?_
    show Steps p.tables e below (s₁.setTop (mkF m 103 #[.val (.int p1)] [(.int (1 : Int32))])) _
    refine XS.goto X0.here hx rfl (pc0 := 103) (pc' := 107) rfl (hb hby d12_103) (by decide) (by decide) ?_
    show Steps p.tables e below (s₁.setTop (mkF m 107 #[.val (.int p1)] [(.int (1 : Int32))])) _
    exact retN X0 hx (t := .boolean) Bd.returns (by simp) (hb hby d12_107) hr
  · show QI Z (own_ref p1) h0 n0 _ s₁.heap _
    rw [e0]
    exact ⟨congrArg (fun z => some (Value.int z)) (Eq.symm ((if_neg vh0).trans ((if_neg vh1).trans (if_pos vh2)))), N0, rfl⟩
theorem d12_18 : decode method_3_code 18 = .ok (.iload_n 0, 1) := by decide +kernel
theorem d12_19 : decode method_3_code 19 = .ok (.bipush 42, 2) := by decide +kernel
theorem d12_21 : decode method_3_code 21 = .ok (.if_icmp .eq 81, 3) := by decide +kernel
set_option maxRecDepth 65536 in
set_option maxHeartbeats 40000000 in
theorem rmRf_3 (l : Launch) (Z : State) (a0 : Array Value) (hw : ∀ d ∈ tables_1, d.before a0 Z = true) (ws : List Jvm.Cond) (p1 : Int32) (h0 : Heap) (n0 : Nat) (Z0 : n0 ≤ h0.size) (vh0 : ¬ (p1 = (35 : Int32))) (vh1 : ¬ (p1 = (36 : Int32))) (vh2 : ¬ (p1 = (38 : Int32))) (vh3 : p1 = (42 : Int32)) :
    MetFree l (⟨"cohort/LexerIsSymbolCharPinLaw", "ref", "(I)Z"⟩ : MethodName) (head1 (Jvm.Cond.code (⟨"cohort/LexerIsSymbolCharPinLaw", "ref", "(I)Z"⟩ : MethodName) method_3_code 1 (some .boolean) :: ws) ({ frames := 0, cells := 0, slots := 0, locals := 0 } : Room)) (fun a U => a = #[(.int p1)] ∧ Z.Warmed39 U.vm ∧ U.heap = h0) (fun _ _ _ _ _ => True) (fun _ U o U' => ∃ v L, o = .returned v ∧ QI Z (own_ref p1) h0 n0 v U'.heap L ∧ FrameEnd U o U' L ({ frames := 0, cells := 0, slots := 0, locals := 0 } : Room).cells ({ frames := 0, cells := 0, slots := 0, locals := 0 } : Room).slots) := by
  refine MetFree.of_bodySF (plainFor_of_name pn_12) hisR ?_
  intro p e s m args below meth c s₁ Bd hml0 hP hK
  obtain ⟨rfl, hZ, hh⟩ := hP
  have hx := Bd.exec
  have hby := Bd.bytes
  have hml : c.maxLocals = 1 := hml0
  have hown : s.vm.findClass "cohort/LexerIsSymbolCharPinLaw" = some m.cls := findClass_of_methodNamed Bd.named
  have hnm := (name_of_methodNamed Bd.named Bd.method).1
  have X0 : Stand p l e ({ frames := 0, cells := 0, slots := 0, locals := 0 } : Room) s m #[(.int p1)] below meth c s₁ [] 0 0 := Stand.of_body Bd
  have e0 : s₁.heap = h0 := by rw [← hh, Bd.state]; rfl
  have N0 := Fr.nil n0
  have pre0 : ∀ tz, Steps p.tables e below (s₁.setTop (mkF m 0 #[.val (.int p1)] [])) tz → Steps p.tables e below (s₁.setTop (entryFrame m #[(.int p1)] 1)) tz := fun tz kz => castTop (ef_12 m p1) kz
  obtain ⟨fs, hr, hrun, hended, hW, hsame⟩ := X0.leave (v := some (.int (1 : Int32))) (fun h => by rw [Bd.returns] at h; cases h)
  refine ⟨_, _, pre0 _ ?_, hrun, hended, _, _, rfl, ?_, ⟨_, rfl⟩, hW, hsame.mono (by decide) (by decide)⟩
  · show Steps p.tables e below (s₁.setTop (mkF m 0 #[.val (.int p1)] [])) _
    refine XS.iloadN X0.here hx rfl (hb hby d12_0) rfl ?_
    show Steps p.tables e below (s₁.setTop (mkF m 1 #[.val (.int p1)] [(.int p1)])) _
    refine XS.bipush X0.here hx rfl (hb hby d12_1) ?_
    show Steps p.tables e below (s₁.setTop (mkF m 3 #[.val (.int p1)] [(.int (35 : Int32)), (.int p1)])) _
    refine XS.icmpNo X0.here hx rfl (hb hby d12_3) rfl (feq (vh0 : ¬ (p1 = (35 : Int32)))).1 ?_
    show Steps p.tables e below (s₁.setTop (mkF m 6 #[.val (.int p1)] [])) _
    refine XS.iloadN X0.here hx rfl (hb hby d12_6) rfl ?_
    show Steps p.tables e below (s₁.setTop (mkF m 7 #[.val (.int p1)] [(.int p1)])) _
    refine XS.bipush X0.here hx rfl (hb hby d12_7) ?_
    show Steps p.tables e below (s₁.setTop (mkF m 9 #[.val (.int p1)] [(.int (36 : Int32)), (.int p1)])) _
    refine XS.icmpNo X0.here hx rfl (hb hby d12_9) rfl (feq (vh1 : ¬ (p1 = (36 : Int32)))).1 ?_
    show Steps p.tables e below (s₁.setTop (mkF m 12 #[.val (.int p1)] [])) _
    refine XS.iloadN X0.here hx rfl (hb hby d12_12) rfl ?_
    show Steps p.tables e below (s₁.setTop (mkF m 13 #[.val (.int p1)] [(.int p1)])) _
    refine XS.bipush X0.here hx rfl (hb hby d12_13) ?_
    show Steps p.tables e below (s₁.setTop (mkF m 15 #[.val (.int p1)] [(.int (38 : Int32)), (.int p1)])) _
    refine XS.icmpNo X0.here hx rfl (hb hby d12_15) rfl (feq (vh2 : ¬ (p1 = (38 : Int32)))).1 ?_
    show Steps p.tables e below (s₁.setTop (mkF m 18 #[.val (.int p1)] [])) _
    refine XS.iloadN X0.here hx rfl (hb hby d12_18) rfl ?_
    show Steps p.tables e below (s₁.setTop (mkF m 19 #[.val (.int p1)] [(.int p1)])) _
    refine XS.bipush X0.here hx rfl (hb hby d12_19) ?_
    show Steps p.tables e below (s₁.setTop (mkF m 21 #[.val (.int p1)] [(.int (42 : Int32)), (.int p1)])) _
    refine XS.icmpYes X0.here hx rfl (pc0 := 21) (pc' := 102) rfl (hb hby d12_21) rfl (teq (vh3 : p1 = (42 : Int32))).1 (by decide) (by decide) ?_
    show Steps p.tables e below (s₁.setTop (mkF m 102 #[.val (.int p1)] [])) _
    refine XS.iconst X0.here hx rfl (hb hby d12_102) ?_
    show Steps p.tables e below (s₁.setTop (mkF m 103 #[.val (.int p1)] [(.int (1 : Int32))])) _
    refine XS.goto X0.here hx rfl (pc0 := 103) (pc' := 107) rfl (hb hby d12_103) (by decide) (by decide) ?_
    show Steps p.tables e below (s₁.setTop (mkF m 107 #[.val (.int p1)] [(.int (1 : Int32))])) _
    exact retN X0 hx (t := .boolean) Bd.returns (by simp) (hb hby d12_107) hr
  · show QI Z (own_ref p1) h0 n0 _ s₁.heap _
    rw [e0]
    exact ⟨congrArg (fun z => some (Value.int z)) (Eq.symm ((if_neg vh0).trans ((if_neg vh1).trans ((if_neg vh2).trans (if_pos vh3))))), N0, rfl⟩
theorem d12_24 : decode method_3_code 24 = .ok (.iload_n 0, 1) := by decide +kernel
theorem d12_25 : decode method_3_code 25 = .ok (.bipush 43, 2) := by decide +kernel
theorem d12_27 : decode method_3_code 27 = .ok (.if_icmp .eq 75, 3) := by decide +kernel
set_option maxRecDepth 65536 in
set_option maxHeartbeats 40000000 in
theorem rmRf_4 (l : Launch) (Z : State) (a0 : Array Value) (hw : ∀ d ∈ tables_1, d.before a0 Z = true) (ws : List Jvm.Cond) (p1 : Int32) (h0 : Heap) (n0 : Nat) (Z0 : n0 ≤ h0.size) (vh0 : ¬ (p1 = (35 : Int32))) (vh1 : ¬ (p1 = (36 : Int32))) (vh2 : ¬ (p1 = (38 : Int32))) (vh3 : ¬ (p1 = (42 : Int32))) (vh4 : p1 = (43 : Int32)) :
    MetFree l (⟨"cohort/LexerIsSymbolCharPinLaw", "ref", "(I)Z"⟩ : MethodName) (head1 (Jvm.Cond.code (⟨"cohort/LexerIsSymbolCharPinLaw", "ref", "(I)Z"⟩ : MethodName) method_3_code 1 (some .boolean) :: ws) ({ frames := 0, cells := 0, slots := 0, locals := 0 } : Room)) (fun a U => a = #[(.int p1)] ∧ Z.Warmed39 U.vm ∧ U.heap = h0) (fun _ _ _ _ _ => True) (fun _ U o U' => ∃ v L, o = .returned v ∧ QI Z (own_ref p1) h0 n0 v U'.heap L ∧ FrameEnd U o U' L ({ frames := 0, cells := 0, slots := 0, locals := 0 } : Room).cells ({ frames := 0, cells := 0, slots := 0, locals := 0 } : Room).slots) := by
  refine MetFree.of_bodySF (plainFor_of_name pn_12) hisR ?_
  intro p e s m args below meth c s₁ Bd hml0 hP hK
  obtain ⟨rfl, hZ, hh⟩ := hP
  have hx := Bd.exec
  have hby := Bd.bytes
  have hml : c.maxLocals = 1 := hml0
  have hown : s.vm.findClass "cohort/LexerIsSymbolCharPinLaw" = some m.cls := findClass_of_methodNamed Bd.named
  have hnm := (name_of_methodNamed Bd.named Bd.method).1
  have X0 : Stand p l e ({ frames := 0, cells := 0, slots := 0, locals := 0 } : Room) s m #[(.int p1)] below meth c s₁ [] 0 0 := Stand.of_body Bd
  have e0 : s₁.heap = h0 := by rw [← hh, Bd.state]; rfl
  have N0 := Fr.nil n0
  have pre0 : ∀ tz, Steps p.tables e below (s₁.setTop (mkF m 0 #[.val (.int p1)] [])) tz → Steps p.tables e below (s₁.setTop (entryFrame m #[(.int p1)] 1)) tz := fun tz kz => castTop (ef_12 m p1) kz
  obtain ⟨fs, hr, hrun, hended, hW, hsame⟩ := X0.leave (v := some (.int (1 : Int32))) (fun h => by rw [Bd.returns] at h; cases h)
  refine ⟨_, _, pre0 _ ?_, hrun, hended, _, _, rfl, ?_, ⟨_, rfl⟩, hW, hsame.mono (by decide) (by decide)⟩
  · show Steps p.tables e below (s₁.setTop (mkF m 0 #[.val (.int p1)] [])) _
    refine XS.iloadN X0.here hx rfl (hb hby d12_0) rfl ?_
    show Steps p.tables e below (s₁.setTop (mkF m 1 #[.val (.int p1)] [(.int p1)])) _
    refine XS.bipush X0.here hx rfl (hb hby d12_1) ?_
    show Steps p.tables e below (s₁.setTop (mkF m 3 #[.val (.int p1)] [(.int (35 : Int32)), (.int p1)])) _
    refine XS.icmpNo X0.here hx rfl (hb hby d12_3) rfl (feq (vh0 : ¬ (p1 = (35 : Int32)))).1 ?_
    show Steps p.tables e below (s₁.setTop (mkF m 6 #[.val (.int p1)] [])) _
    refine XS.iloadN X0.here hx rfl (hb hby d12_6) rfl ?_
    show Steps p.tables e below (s₁.setTop (mkF m 7 #[.val (.int p1)] [(.int p1)])) _
    refine XS.bipush X0.here hx rfl (hb hby d12_7) ?_
    show Steps p.tables e below (s₁.setTop (mkF m 9 #[.val (.int p1)] [(.int (36 : Int32)), (.int p1)])) _
    refine XS.icmpNo X0.here hx rfl (hb hby d12_9) rfl (feq (vh1 : ¬ (p1 = (36 : Int32)))).1 ?_
    show Steps p.tables e below (s₁.setTop (mkF m 12 #[.val (.int p1)] [])) _
    refine XS.iloadN X0.here hx rfl (hb hby d12_12) rfl ?_
    show Steps p.tables e below (s₁.setTop (mkF m 13 #[.val (.int p1)] [(.int p1)])) _
    refine XS.bipush X0.here hx rfl (hb hby d12_13) ?_
    show Steps p.tables e below (s₁.setTop (mkF m 15 #[.val (.int p1)] [(.int (38 : Int32)), (.int p1)])) _
    refine XS.icmpNo X0.here hx rfl (hb hby d12_15) rfl (feq (vh2 : ¬ (p1 = (38 : Int32)))).1 ?_
    show Steps p.tables e below (s₁.setTop (mkF m 18 #[.val (.int p1)] [])) _
    refine XS.iloadN X0.here hx rfl (hb hby d12_18) rfl ?_
    show Steps p.tables e below (s₁.setTop (mkF m 19 #[.val (.int p1)] [(.int p1)])) _
    refine XS.bipush X0.here hx rfl (hb hby d12_19) ?_
    show Steps p.tables e below (s₁.setTop (mkF m 21 #[.val (.int p1)] [(.int (42 : Int32)), (.int p1)])) _
    refine XS.icmpNo X0.here hx rfl (hb hby d12_21) rfl (feq (vh3 : ¬ (p1 = (42 : Int32)))).1 ?_
    show Steps p.tables e below (s₁.setTop (mkF m 24 #[.val (.int p1)] [])) _
    refine XS.iloadN X0.here hx rfl (hb hby d12_24) rfl ?_
    show Steps p.tables e below (s₁.setTop (mkF m 25 #[.val (.int p1)] [(.int p1)])) _
    refine XS.bipush X0.here hx rfl (hb hby d12_25) ?_
    show Steps p.tables e below (s₁.setTop (mkF m 27 #[.val (.int p1)] [(.int (43 : Int32)), (.int p1)])) _
    refine XS.icmpYes X0.here hx rfl (pc0 := 27) (pc' := 102) rfl (hb hby d12_27) rfl (teq (vh4 : p1 = (43 : Int32))).1 (by decide) (by decide) ?_
    show Steps p.tables e below (s₁.setTop (mkF m 102 #[.val (.int p1)] [])) _
    refine XS.iconst X0.here hx rfl (hb hby d12_102) ?_
    show Steps p.tables e below (s₁.setTop (mkF m 103 #[.val (.int p1)] [(.int (1 : Int32))])) _
    refine XS.goto X0.here hx rfl (pc0 := 103) (pc' := 107) rfl (hb hby d12_103) (by decide) (by decide) ?_
    show Steps p.tables e below (s₁.setTop (mkF m 107 #[.val (.int p1)] [(.int (1 : Int32))])) _
    exact retN X0 hx (t := .boolean) Bd.returns (by simp) (hb hby d12_107) hr
  · show QI Z (own_ref p1) h0 n0 _ s₁.heap _
    rw [e0]
    exact ⟨congrArg (fun z => some (Value.int z)) (Eq.symm ((if_neg vh0).trans ((if_neg vh1).trans ((if_neg vh2).trans ((if_neg vh3).trans (if_pos vh4)))))), N0, rfl⟩
theorem d12_30 : decode method_3_code 30 = .ok (.iload_n 0, 1) := by decide +kernel
theorem d12_31 : decode method_3_code 31 = .ok (.bipush 45, 2) := by decide +kernel
theorem d12_33 : decode method_3_code 33 = .ok (.if_icmp .eq 69, 3) := by decide +kernel
set_option maxRecDepth 65536 in
set_option maxHeartbeats 40000000 in
theorem rmRf_5 (l : Launch) (Z : State) (a0 : Array Value) (hw : ∀ d ∈ tables_1, d.before a0 Z = true) (ws : List Jvm.Cond) (p1 : Int32) (h0 : Heap) (n0 : Nat) (Z0 : n0 ≤ h0.size) (vh0 : ¬ (p1 = (35 : Int32))) (vh1 : ¬ (p1 = (36 : Int32))) (vh2 : ¬ (p1 = (38 : Int32))) (vh3 : ¬ (p1 = (42 : Int32))) (vh4 : ¬ (p1 = (43 : Int32))) (vh5 : p1 = (45 : Int32)) :
    MetFree l (⟨"cohort/LexerIsSymbolCharPinLaw", "ref", "(I)Z"⟩ : MethodName) (head1 (Jvm.Cond.code (⟨"cohort/LexerIsSymbolCharPinLaw", "ref", "(I)Z"⟩ : MethodName) method_3_code 1 (some .boolean) :: ws) ({ frames := 0, cells := 0, slots := 0, locals := 0 } : Room)) (fun a U => a = #[(.int p1)] ∧ Z.Warmed39 U.vm ∧ U.heap = h0) (fun _ _ _ _ _ => True) (fun _ U o U' => ∃ v L, o = .returned v ∧ QI Z (own_ref p1) h0 n0 v U'.heap L ∧ FrameEnd U o U' L ({ frames := 0, cells := 0, slots := 0, locals := 0 } : Room).cells ({ frames := 0, cells := 0, slots := 0, locals := 0 } : Room).slots) := by
  refine MetFree.of_bodySF (plainFor_of_name pn_12) hisR ?_
  intro p e s m args below meth c s₁ Bd hml0 hP hK
  obtain ⟨rfl, hZ, hh⟩ := hP
  have hx := Bd.exec
  have hby := Bd.bytes
  have hml : c.maxLocals = 1 := hml0
  have hown : s.vm.findClass "cohort/LexerIsSymbolCharPinLaw" = some m.cls := findClass_of_methodNamed Bd.named
  have hnm := (name_of_methodNamed Bd.named Bd.method).1
  have X0 : Stand p l e ({ frames := 0, cells := 0, slots := 0, locals := 0 } : Room) s m #[(.int p1)] below meth c s₁ [] 0 0 := Stand.of_body Bd
  have e0 : s₁.heap = h0 := by rw [← hh, Bd.state]; rfl
  have N0 := Fr.nil n0
  have pre0 : ∀ tz, Steps p.tables e below (s₁.setTop (mkF m 0 #[.val (.int p1)] [])) tz → Steps p.tables e below (s₁.setTop (entryFrame m #[(.int p1)] 1)) tz := fun tz kz => castTop (ef_12 m p1) kz
  obtain ⟨fs, hr, hrun, hended, hW, hsame⟩ := X0.leave (v := some (.int (1 : Int32))) (fun h => by rw [Bd.returns] at h; cases h)
  refine ⟨_, _, pre0 _ ?_, hrun, hended, _, _, rfl, ?_, ⟨_, rfl⟩, hW, hsame.mono (by decide) (by decide)⟩
  · show Steps p.tables e below (s₁.setTop (mkF m 0 #[.val (.int p1)] [])) _
    refine XS.iloadN X0.here hx rfl (hb hby d12_0) rfl ?_
    show Steps p.tables e below (s₁.setTop (mkF m 1 #[.val (.int p1)] [(.int p1)])) _
    refine XS.bipush X0.here hx rfl (hb hby d12_1) ?_
    show Steps p.tables e below (s₁.setTop (mkF m 3 #[.val (.int p1)] [(.int (35 : Int32)), (.int p1)])) _
    refine XS.icmpNo X0.here hx rfl (hb hby d12_3) rfl (feq (vh0 : ¬ (p1 = (35 : Int32)))).1 ?_
    show Steps p.tables e below (s₁.setTop (mkF m 6 #[.val (.int p1)] [])) _
    refine XS.iloadN X0.here hx rfl (hb hby d12_6) rfl ?_
    show Steps p.tables e below (s₁.setTop (mkF m 7 #[.val (.int p1)] [(.int p1)])) _
    refine XS.bipush X0.here hx rfl (hb hby d12_7) ?_
    show Steps p.tables e below (s₁.setTop (mkF m 9 #[.val (.int p1)] [(.int (36 : Int32)), (.int p1)])) _
    refine XS.icmpNo X0.here hx rfl (hb hby d12_9) rfl (feq (vh1 : ¬ (p1 = (36 : Int32)))).1 ?_
    show Steps p.tables e below (s₁.setTop (mkF m 12 #[.val (.int p1)] [])) _
    refine XS.iloadN X0.here hx rfl (hb hby d12_12) rfl ?_
    show Steps p.tables e below (s₁.setTop (mkF m 13 #[.val (.int p1)] [(.int p1)])) _
    refine XS.bipush X0.here hx rfl (hb hby d12_13) ?_
    show Steps p.tables e below (s₁.setTop (mkF m 15 #[.val (.int p1)] [(.int (38 : Int32)), (.int p1)])) _
    refine XS.icmpNo X0.here hx rfl (hb hby d12_15) rfl (feq (vh2 : ¬ (p1 = (38 : Int32)))).1 ?_
    show Steps p.tables e below (s₁.setTop (mkF m 18 #[.val (.int p1)] [])) _
    refine XS.iloadN X0.here hx rfl (hb hby d12_18) rfl ?_
    show Steps p.tables e below (s₁.setTop (mkF m 19 #[.val (.int p1)] [(.int p1)])) _
    refine XS.bipush X0.here hx rfl (hb hby d12_19) ?_
    show Steps p.tables e below (s₁.setTop (mkF m 21 #[.val (.int p1)] [(.int (42 : Int32)), (.int p1)])) _
    refine XS.icmpNo X0.here hx rfl (hb hby d12_21) rfl (feq (vh3 : ¬ (p1 = (42 : Int32)))).1 ?_
    show Steps p.tables e below (s₁.setTop (mkF m 24 #[.val (.int p1)] [])) _
    refine XS.iloadN X0.here hx rfl (hb hby d12_24) rfl ?_
    show Steps p.tables e below (s₁.setTop (mkF m 25 #[.val (.int p1)] [(.int p1)])) _
    refine XS.bipush X0.here hx rfl (hb hby d12_25) ?_
    show Steps p.tables e below (s₁.setTop (mkF m 27 #[.val (.int p1)] [(.int (43 : Int32)), (.int p1)])) _
    refine XS.icmpNo X0.here hx rfl (hb hby d12_27) rfl (feq (vh4 : ¬ (p1 = (43 : Int32)))).1 ?_
    show Steps p.tables e below (s₁.setTop (mkF m 30 #[.val (.int p1)] [])) _
    refine XS.iloadN X0.here hx rfl (hb hby d12_30) rfl ?_
    show Steps p.tables e below (s₁.setTop (mkF m 31 #[.val (.int p1)] [(.int p1)])) _
    refine XS.bipush X0.here hx rfl (hb hby d12_31) ?_
    show Steps p.tables e below (s₁.setTop (mkF m 33 #[.val (.int p1)] [(.int (45 : Int32)), (.int p1)])) _
    refine XS.icmpYes X0.here hx rfl (pc0 := 33) (pc' := 102) rfl (hb hby d12_33) rfl (teq (vh5 : p1 = (45 : Int32))).1 (by decide) (by decide) ?_
    show Steps p.tables e below (s₁.setTop (mkF m 102 #[.val (.int p1)] [])) _
    refine XS.iconst X0.here hx rfl (hb hby d12_102) ?_
    show Steps p.tables e below (s₁.setTop (mkF m 103 #[.val (.int p1)] [(.int (1 : Int32))])) _
    refine XS.goto X0.here hx rfl (pc0 := 103) (pc' := 107) rfl (hb hby d12_103) (by decide) (by decide) ?_
    show Steps p.tables e below (s₁.setTop (mkF m 107 #[.val (.int p1)] [(.int (1 : Int32))])) _
    exact retN X0 hx (t := .boolean) Bd.returns (by simp) (hb hby d12_107) hr
  · show QI Z (own_ref p1) h0 n0 _ s₁.heap _
    rw [e0]
    exact ⟨congrArg (fun z => some (Value.int z)) (Eq.symm ((if_neg vh0).trans ((if_neg vh1).trans ((if_neg vh2).trans ((if_neg vh3).trans ((if_neg vh4).trans (if_pos vh5))))))), N0, rfl⟩
theorem d12_36 : decode method_3_code 36 = .ok (.iload_n 0, 1) := by decide +kernel
theorem d12_37 : decode method_3_code 37 = .ok (.bipush 46, 2) := by decide +kernel
theorem d12_39 : decode method_3_code 39 = .ok (.if_icmp .eq 63, 3) := by decide +kernel
set_option maxRecDepth 65536 in
set_option maxHeartbeats 40000000 in
theorem rmRf_6 (l : Launch) (Z : State) (a0 : Array Value) (hw : ∀ d ∈ tables_1, d.before a0 Z = true) (ws : List Jvm.Cond) (p1 : Int32) (h0 : Heap) (n0 : Nat) (Z0 : n0 ≤ h0.size) (vh0 : ¬ (p1 = (35 : Int32))) (vh1 : ¬ (p1 = (36 : Int32))) (vh2 : ¬ (p1 = (38 : Int32))) (vh3 : ¬ (p1 = (42 : Int32))) (vh4 : ¬ (p1 = (43 : Int32))) (vh5 : ¬ (p1 = (45 : Int32))) (vh6 : p1 = (46 : Int32)) :
    MetFree l (⟨"cohort/LexerIsSymbolCharPinLaw", "ref", "(I)Z"⟩ : MethodName) (head1 (Jvm.Cond.code (⟨"cohort/LexerIsSymbolCharPinLaw", "ref", "(I)Z"⟩ : MethodName) method_3_code 1 (some .boolean) :: ws) ({ frames := 0, cells := 0, slots := 0, locals := 0 } : Room)) (fun a U => a = #[(.int p1)] ∧ Z.Warmed39 U.vm ∧ U.heap = h0) (fun _ _ _ _ _ => True) (fun _ U o U' => ∃ v L, o = .returned v ∧ QI Z (own_ref p1) h0 n0 v U'.heap L ∧ FrameEnd U o U' L ({ frames := 0, cells := 0, slots := 0, locals := 0 } : Room).cells ({ frames := 0, cells := 0, slots := 0, locals := 0 } : Room).slots) := by
  refine MetFree.of_bodySF (plainFor_of_name pn_12) hisR ?_
  intro p e s m args below meth c s₁ Bd hml0 hP hK
  obtain ⟨rfl, hZ, hh⟩ := hP
  have hx := Bd.exec
  have hby := Bd.bytes
  have hml : c.maxLocals = 1 := hml0
  have hown : s.vm.findClass "cohort/LexerIsSymbolCharPinLaw" = some m.cls := findClass_of_methodNamed Bd.named
  have hnm := (name_of_methodNamed Bd.named Bd.method).1
  have X0 : Stand p l e ({ frames := 0, cells := 0, slots := 0, locals := 0 } : Room) s m #[(.int p1)] below meth c s₁ [] 0 0 := Stand.of_body Bd
  have e0 : s₁.heap = h0 := by rw [← hh, Bd.state]; rfl
  have N0 := Fr.nil n0
  have pre0 : ∀ tz, Steps p.tables e below (s₁.setTop (mkF m 0 #[.val (.int p1)] [])) tz → Steps p.tables e below (s₁.setTop (entryFrame m #[(.int p1)] 1)) tz := fun tz kz => castTop (ef_12 m p1) kz
  obtain ⟨fs, hr, hrun, hended, hW, hsame⟩ := X0.leave (v := some (.int (1 : Int32))) (fun h => by rw [Bd.returns] at h; cases h)
  refine ⟨_, _, pre0 _ ?_, hrun, hended, _, _, rfl, ?_, ⟨_, rfl⟩, hW, hsame.mono (by decide) (by decide)⟩
  · show Steps p.tables e below (s₁.setTop (mkF m 0 #[.val (.int p1)] [])) _
    refine XS.iloadN X0.here hx rfl (hb hby d12_0) rfl ?_
    show Steps p.tables e below (s₁.setTop (mkF m 1 #[.val (.int p1)] [(.int p1)])) _
    refine XS.bipush X0.here hx rfl (hb hby d12_1) ?_
    show Steps p.tables e below (s₁.setTop (mkF m 3 #[.val (.int p1)] [(.int (35 : Int32)), (.int p1)])) _
    refine XS.icmpNo X0.here hx rfl (hb hby d12_3) rfl (feq (vh0 : ¬ (p1 = (35 : Int32)))).1 ?_
    show Steps p.tables e below (s₁.setTop (mkF m 6 #[.val (.int p1)] [])) _
    refine XS.iloadN X0.here hx rfl (hb hby d12_6) rfl ?_
    show Steps p.tables e below (s₁.setTop (mkF m 7 #[.val (.int p1)] [(.int p1)])) _
    refine XS.bipush X0.here hx rfl (hb hby d12_7) ?_
    show Steps p.tables e below (s₁.setTop (mkF m 9 #[.val (.int p1)] [(.int (36 : Int32)), (.int p1)])) _
    refine XS.icmpNo X0.here hx rfl (hb hby d12_9) rfl (feq (vh1 : ¬ (p1 = (36 : Int32)))).1 ?_
    show Steps p.tables e below (s₁.setTop (mkF m 12 #[.val (.int p1)] [])) _
    refine XS.iloadN X0.here hx rfl (hb hby d12_12) rfl ?_
    show Steps p.tables e below (s₁.setTop (mkF m 13 #[.val (.int p1)] [(.int p1)])) _
    refine XS.bipush X0.here hx rfl (hb hby d12_13) ?_
    show Steps p.tables e below (s₁.setTop (mkF m 15 #[.val (.int p1)] [(.int (38 : Int32)), (.int p1)])) _
    refine XS.icmpNo X0.here hx rfl (hb hby d12_15) rfl (feq (vh2 : ¬ (p1 = (38 : Int32)))).1 ?_
    show Steps p.tables e below (s₁.setTop (mkF m 18 #[.val (.int p1)] [])) _
    refine XS.iloadN X0.here hx rfl (hb hby d12_18) rfl ?_
    show Steps p.tables e below (s₁.setTop (mkF m 19 #[.val (.int p1)] [(.int p1)])) _
    refine XS.bipush X0.here hx rfl (hb hby d12_19) ?_
    show Steps p.tables e below (s₁.setTop (mkF m 21 #[.val (.int p1)] [(.int (42 : Int32)), (.int p1)])) _
    refine XS.icmpNo X0.here hx rfl (hb hby d12_21) rfl (feq (vh3 : ¬ (p1 = (42 : Int32)))).1 ?_
    show Steps p.tables e below (s₁.setTop (mkF m 24 #[.val (.int p1)] [])) _
    refine XS.iloadN X0.here hx rfl (hb hby d12_24) rfl ?_
    show Steps p.tables e below (s₁.setTop (mkF m 25 #[.val (.int p1)] [(.int p1)])) _
    refine XS.bipush X0.here hx rfl (hb hby d12_25) ?_
    show Steps p.tables e below (s₁.setTop (mkF m 27 #[.val (.int p1)] [(.int (43 : Int32)), (.int p1)])) _
    refine XS.icmpNo X0.here hx rfl (hb hby d12_27) rfl (feq (vh4 : ¬ (p1 = (43 : Int32)))).1 ?_
    show Steps p.tables e below (s₁.setTop (mkF m 30 #[.val (.int p1)] [])) _
    refine XS.iloadN X0.here hx rfl (hb hby d12_30) rfl ?_
    show Steps p.tables e below (s₁.setTop (mkF m 31 #[.val (.int p1)] [(.int p1)])) _
    refine XS.bipush X0.here hx rfl (hb hby d12_31) ?_
    show Steps p.tables e below (s₁.setTop (mkF m 33 #[.val (.int p1)] [(.int (45 : Int32)), (.int p1)])) _
    refine XS.icmpNo X0.here hx rfl (hb hby d12_33) rfl (feq (vh5 : ¬ (p1 = (45 : Int32)))).1 ?_
    show Steps p.tables e below (s₁.setTop (mkF m 36 #[.val (.int p1)] [])) _
    refine XS.iloadN X0.here hx rfl (hb hby d12_36) rfl ?_
    show Steps p.tables e below (s₁.setTop (mkF m 37 #[.val (.int p1)] [(.int p1)])) _
    refine XS.bipush X0.here hx rfl (hb hby d12_37) ?_
    show Steps p.tables e below (s₁.setTop (mkF m 39 #[.val (.int p1)] [(.int (46 : Int32)), (.int p1)])) _
    refine XS.icmpYes X0.here hx rfl (pc0 := 39) (pc' := 102) rfl (hb hby d12_39) rfl (teq (vh6 : p1 = (46 : Int32))).1 (by decide) (by decide) ?_
    show Steps p.tables e below (s₁.setTop (mkF m 102 #[.val (.int p1)] [])) _
    refine XS.iconst X0.here hx rfl (hb hby d12_102) ?_
    show Steps p.tables e below (s₁.setTop (mkF m 103 #[.val (.int p1)] [(.int (1 : Int32))])) _
    refine XS.goto X0.here hx rfl (pc0 := 103) (pc' := 107) rfl (hb hby d12_103) (by decide) (by decide) ?_
    show Steps p.tables e below (s₁.setTop (mkF m 107 #[.val (.int p1)] [(.int (1 : Int32))])) _
    exact retN X0 hx (t := .boolean) Bd.returns (by simp) (hb hby d12_107) hr
  · show QI Z (own_ref p1) h0 n0 _ s₁.heap _
    rw [e0]
    exact ⟨congrArg (fun z => some (Value.int z)) (Eq.symm ((if_neg vh0).trans ((if_neg vh1).trans ((if_neg vh2).trans ((if_neg vh3).trans ((if_neg vh4).trans ((if_neg vh5).trans (if_pos vh6)))))))), N0, rfl⟩
theorem d12_42 : decode method_3_code 42 = .ok (.iload_n 0, 1) := by decide +kernel
theorem d12_43 : decode method_3_code 43 = .ok (.bipush 47, 2) := by decide +kernel
theorem d12_45 : decode method_3_code 45 = .ok (.if_icmp .eq 57, 3) := by decide +kernel
set_option maxRecDepth 65536 in
set_option maxHeartbeats 40000000 in
theorem rmRf_7 (l : Launch) (Z : State) (a0 : Array Value) (hw : ∀ d ∈ tables_1, d.before a0 Z = true) (ws : List Jvm.Cond) (p1 : Int32) (h0 : Heap) (n0 : Nat) (Z0 : n0 ≤ h0.size) (vh0 : ¬ (p1 = (35 : Int32))) (vh1 : ¬ (p1 = (36 : Int32))) (vh2 : ¬ (p1 = (38 : Int32))) (vh3 : ¬ (p1 = (42 : Int32))) (vh4 : ¬ (p1 = (43 : Int32))) (vh5 : ¬ (p1 = (45 : Int32))) (vh6 : ¬ (p1 = (46 : Int32))) (vh7 : p1 = (47 : Int32)) :
    MetFree l (⟨"cohort/LexerIsSymbolCharPinLaw", "ref", "(I)Z"⟩ : MethodName) (head1 (Jvm.Cond.code (⟨"cohort/LexerIsSymbolCharPinLaw", "ref", "(I)Z"⟩ : MethodName) method_3_code 1 (some .boolean) :: ws) ({ frames := 0, cells := 0, slots := 0, locals := 0 } : Room)) (fun a U => a = #[(.int p1)] ∧ Z.Warmed39 U.vm ∧ U.heap = h0) (fun _ _ _ _ _ => True) (fun _ U o U' => ∃ v L, o = .returned v ∧ QI Z (own_ref p1) h0 n0 v U'.heap L ∧ FrameEnd U o U' L ({ frames := 0, cells := 0, slots := 0, locals := 0 } : Room).cells ({ frames := 0, cells := 0, slots := 0, locals := 0 } : Room).slots) := by
  refine MetFree.of_bodySF (plainFor_of_name pn_12) hisR ?_
  intro p e s m args below meth c s₁ Bd hml0 hP hK
  obtain ⟨rfl, hZ, hh⟩ := hP
  have hx := Bd.exec
  have hby := Bd.bytes
  have hml : c.maxLocals = 1 := hml0
  have hown : s.vm.findClass "cohort/LexerIsSymbolCharPinLaw" = some m.cls := findClass_of_methodNamed Bd.named
  have hnm := (name_of_methodNamed Bd.named Bd.method).1
  have X0 : Stand p l e ({ frames := 0, cells := 0, slots := 0, locals := 0 } : Room) s m #[(.int p1)] below meth c s₁ [] 0 0 := Stand.of_body Bd
  have e0 : s₁.heap = h0 := by rw [← hh, Bd.state]; rfl
  have N0 := Fr.nil n0
  have pre0 : ∀ tz, Steps p.tables e below (s₁.setTop (mkF m 0 #[.val (.int p1)] [])) tz → Steps p.tables e below (s₁.setTop (entryFrame m #[(.int p1)] 1)) tz := fun tz kz => castTop (ef_12 m p1) kz
  obtain ⟨fs, hr, hrun, hended, hW, hsame⟩ := X0.leave (v := some (.int (1 : Int32))) (fun h => by rw [Bd.returns] at h; cases h)
  refine ⟨_, _, pre0 _ ?_, hrun, hended, _, _, rfl, ?_, ⟨_, rfl⟩, hW, hsame.mono (by decide) (by decide)⟩
  · show Steps p.tables e below (s₁.setTop (mkF m 0 #[.val (.int p1)] [])) _
    refine XS.iloadN X0.here hx rfl (hb hby d12_0) rfl ?_
    show Steps p.tables e below (s₁.setTop (mkF m 1 #[.val (.int p1)] [(.int p1)])) _
    refine XS.bipush X0.here hx rfl (hb hby d12_1) ?_
    show Steps p.tables e below (s₁.setTop (mkF m 3 #[.val (.int p1)] [(.int (35 : Int32)), (.int p1)])) _
    refine XS.icmpNo X0.here hx rfl (hb hby d12_3) rfl (feq (vh0 : ¬ (p1 = (35 : Int32)))).1 ?_
    show Steps p.tables e below (s₁.setTop (mkF m 6 #[.val (.int p1)] [])) _
    refine XS.iloadN X0.here hx rfl (hb hby d12_6) rfl ?_
    show Steps p.tables e below (s₁.setTop (mkF m 7 #[.val (.int p1)] [(.int p1)])) _
    refine XS.bipush X0.here hx rfl (hb hby d12_7) ?_
    show Steps p.tables e below (s₁.setTop (mkF m 9 #[.val (.int p1)] [(.int (36 : Int32)), (.int p1)])) _
    refine XS.icmpNo X0.here hx rfl (hb hby d12_9) rfl (feq (vh1 : ¬ (p1 = (36 : Int32)))).1 ?_
    show Steps p.tables e below (s₁.setTop (mkF m 12 #[.val (.int p1)] [])) _
    refine XS.iloadN X0.here hx rfl (hb hby d12_12) rfl ?_
    show Steps p.tables e below (s₁.setTop (mkF m 13 #[.val (.int p1)] [(.int p1)])) _
    refine XS.bipush X0.here hx rfl (hb hby d12_13) ?_
    show Steps p.tables e below (s₁.setTop (mkF m 15 #[.val (.int p1)] [(.int (38 : Int32)), (.int p1)])) _
    refine XS.icmpNo X0.here hx rfl (hb hby d12_15) rfl (feq (vh2 : ¬ (p1 = (38 : Int32)))).1 ?_
    show Steps p.tables e below (s₁.setTop (mkF m 18 #[.val (.int p1)] [])) _
    refine XS.iloadN X0.here hx rfl (hb hby d12_18) rfl ?_
    show Steps p.tables e below (s₁.setTop (mkF m 19 #[.val (.int p1)] [(.int p1)])) _
    refine XS.bipush X0.here hx rfl (hb hby d12_19) ?_
    show Steps p.tables e below (s₁.setTop (mkF m 21 #[.val (.int p1)] [(.int (42 : Int32)), (.int p1)])) _
    refine XS.icmpNo X0.here hx rfl (hb hby d12_21) rfl (feq (vh3 : ¬ (p1 = (42 : Int32)))).1 ?_
    show Steps p.tables e below (s₁.setTop (mkF m 24 #[.val (.int p1)] [])) _
    refine XS.iloadN X0.here hx rfl (hb hby d12_24) rfl ?_
    show Steps p.tables e below (s₁.setTop (mkF m 25 #[.val (.int p1)] [(.int p1)])) _
    refine XS.bipush X0.here hx rfl (hb hby d12_25) ?_
    show Steps p.tables e below (s₁.setTop (mkF m 27 #[.val (.int p1)] [(.int (43 : Int32)), (.int p1)])) _
    refine XS.icmpNo X0.here hx rfl (hb hby d12_27) rfl (feq (vh4 : ¬ (p1 = (43 : Int32)))).1 ?_
    show Steps p.tables e below (s₁.setTop (mkF m 30 #[.val (.int p1)] [])) _
    refine XS.iloadN X0.here hx rfl (hb hby d12_30) rfl ?_
    show Steps p.tables e below (s₁.setTop (mkF m 31 #[.val (.int p1)] [(.int p1)])) _
    refine XS.bipush X0.here hx rfl (hb hby d12_31) ?_
    show Steps p.tables e below (s₁.setTop (mkF m 33 #[.val (.int p1)] [(.int (45 : Int32)), (.int p1)])) _
    refine XS.icmpNo X0.here hx rfl (hb hby d12_33) rfl (feq (vh5 : ¬ (p1 = (45 : Int32)))).1 ?_
    show Steps p.tables e below (s₁.setTop (mkF m 36 #[.val (.int p1)] [])) _
    refine XS.iloadN X0.here hx rfl (hb hby d12_36) rfl ?_
    show Steps p.tables e below (s₁.setTop (mkF m 37 #[.val (.int p1)] [(.int p1)])) _
    refine XS.bipush X0.here hx rfl (hb hby d12_37) ?_
    show Steps p.tables e below (s₁.setTop (mkF m 39 #[.val (.int p1)] [(.int (46 : Int32)), (.int p1)])) _
    refine XS.icmpNo X0.here hx rfl (hb hby d12_39) rfl (feq (vh6 : ¬ (p1 = (46 : Int32)))).1 ?_
    show Steps p.tables e below (s₁.setTop (mkF m 42 #[.val (.int p1)] [])) _
    refine XS.iloadN X0.here hx rfl (hb hby d12_42) rfl ?_
    show Steps p.tables e below (s₁.setTop (mkF m 43 #[.val (.int p1)] [(.int p1)])) _
    refine XS.bipush X0.here hx rfl (hb hby d12_43) ?_
    show Steps p.tables e below (s₁.setTop (mkF m 45 #[.val (.int p1)] [(.int (47 : Int32)), (.int p1)])) _
    refine XS.icmpYes X0.here hx rfl (pc0 := 45) (pc' := 102) rfl (hb hby d12_45) rfl (teq (vh7 : p1 = (47 : Int32))).1 (by decide) (by decide) ?_
    show Steps p.tables e below (s₁.setTop (mkF m 102 #[.val (.int p1)] [])) _
    refine XS.iconst X0.here hx rfl (hb hby d12_102) ?_
    show Steps p.tables e below (s₁.setTop (mkF m 103 #[.val (.int p1)] [(.int (1 : Int32))])) _
    refine XS.goto X0.here hx rfl (pc0 := 103) (pc' := 107) rfl (hb hby d12_103) (by decide) (by decide) ?_
    show Steps p.tables e below (s₁.setTop (mkF m 107 #[.val (.int p1)] [(.int (1 : Int32))])) _
    exact retN X0 hx (t := .boolean) Bd.returns (by simp) (hb hby d12_107) hr
  · show QI Z (own_ref p1) h0 n0 _ s₁.heap _
    rw [e0]
    exact ⟨congrArg (fun z => some (Value.int z)) (Eq.symm ((if_neg vh0).trans ((if_neg vh1).trans ((if_neg vh2).trans ((if_neg vh3).trans ((if_neg vh4).trans ((if_neg vh5).trans ((if_neg vh6).trans (if_pos vh7))))))))), N0, rfl⟩
theorem d12_48 : decode method_3_code 48 = .ok (.iload_n 0, 1) := by decide +kernel
theorem d12_49 : decode method_3_code 49 = .ok (.bipush 58, 2) := by decide +kernel
theorem d12_51 : decode method_3_code 51 = .ok (.if_icmp .eq 51, 3) := by decide +kernel
set_option maxRecDepth 65536 in
set_option maxHeartbeats 40000000 in
theorem rmRf_8 (l : Launch) (Z : State) (a0 : Array Value) (hw : ∀ d ∈ tables_1, d.before a0 Z = true) (ws : List Jvm.Cond) (p1 : Int32) (h0 : Heap) (n0 : Nat) (Z0 : n0 ≤ h0.size) (vh0 : ¬ (p1 = (35 : Int32))) (vh1 : ¬ (p1 = (36 : Int32))) (vh2 : ¬ (p1 = (38 : Int32))) (vh3 : ¬ (p1 = (42 : Int32))) (vh4 : ¬ (p1 = (43 : Int32))) (vh5 : ¬ (p1 = (45 : Int32))) (vh6 : ¬ (p1 = (46 : Int32))) (vh7 : ¬ (p1 = (47 : Int32))) (vh8 : p1 = (58 : Int32)) :
    MetFree l (⟨"cohort/LexerIsSymbolCharPinLaw", "ref", "(I)Z"⟩ : MethodName) (head1 (Jvm.Cond.code (⟨"cohort/LexerIsSymbolCharPinLaw", "ref", "(I)Z"⟩ : MethodName) method_3_code 1 (some .boolean) :: ws) ({ frames := 0, cells := 0, slots := 0, locals := 0 } : Room)) (fun a U => a = #[(.int p1)] ∧ Z.Warmed39 U.vm ∧ U.heap = h0) (fun _ _ _ _ _ => True) (fun _ U o U' => ∃ v L, o = .returned v ∧ QI Z (own_ref p1) h0 n0 v U'.heap L ∧ FrameEnd U o U' L ({ frames := 0, cells := 0, slots := 0, locals := 0 } : Room).cells ({ frames := 0, cells := 0, slots := 0, locals := 0 } : Room).slots) := by
  refine MetFree.of_bodySF (plainFor_of_name pn_12) hisR ?_
  intro p e s m args below meth c s₁ Bd hml0 hP hK
  obtain ⟨rfl, hZ, hh⟩ := hP
  have hx := Bd.exec
  have hby := Bd.bytes
  have hml : c.maxLocals = 1 := hml0
  have hown : s.vm.findClass "cohort/LexerIsSymbolCharPinLaw" = some m.cls := findClass_of_methodNamed Bd.named
  have hnm := (name_of_methodNamed Bd.named Bd.method).1
  have X0 : Stand p l e ({ frames := 0, cells := 0, slots := 0, locals := 0 } : Room) s m #[(.int p1)] below meth c s₁ [] 0 0 := Stand.of_body Bd
  have e0 : s₁.heap = h0 := by rw [← hh, Bd.state]; rfl
  have N0 := Fr.nil n0
  have pre0 : ∀ tz, Steps p.tables e below (s₁.setTop (mkF m 0 #[.val (.int p1)] [])) tz → Steps p.tables e below (s₁.setTop (entryFrame m #[(.int p1)] 1)) tz := fun tz kz => castTop (ef_12 m p1) kz
  obtain ⟨fs, hr, hrun, hended, hW, hsame⟩ := X0.leave (v := some (.int (1 : Int32))) (fun h => by rw [Bd.returns] at h; cases h)
  refine ⟨_, _, pre0 _ ?_, hrun, hended, _, _, rfl, ?_, ⟨_, rfl⟩, hW, hsame.mono (by decide) (by decide)⟩
  · show Steps p.tables e below (s₁.setTop (mkF m 0 #[.val (.int p1)] [])) _
    refine XS.iloadN X0.here hx rfl (hb hby d12_0) rfl ?_
    show Steps p.tables e below (s₁.setTop (mkF m 1 #[.val (.int p1)] [(.int p1)])) _
    refine XS.bipush X0.here hx rfl (hb hby d12_1) ?_
    show Steps p.tables e below (s₁.setTop (mkF m 3 #[.val (.int p1)] [(.int (35 : Int32)), (.int p1)])) _
    refine XS.icmpNo X0.here hx rfl (hb hby d12_3) rfl (feq (vh0 : ¬ (p1 = (35 : Int32)))).1 ?_
    show Steps p.tables e below (s₁.setTop (mkF m 6 #[.val (.int p1)] [])) _
    refine XS.iloadN X0.here hx rfl (hb hby d12_6) rfl ?_
    show Steps p.tables e below (s₁.setTop (mkF m 7 #[.val (.int p1)] [(.int p1)])) _
    refine XS.bipush X0.here hx rfl (hb hby d12_7) ?_
    show Steps p.tables e below (s₁.setTop (mkF m 9 #[.val (.int p1)] [(.int (36 : Int32)), (.int p1)])) _
    refine XS.icmpNo X0.here hx rfl (hb hby d12_9) rfl (feq (vh1 : ¬ (p1 = (36 : Int32)))).1 ?_
    show Steps p.tables e below (s₁.setTop (mkF m 12 #[.val (.int p1)] [])) _
    refine XS.iloadN X0.here hx rfl (hb hby d12_12) rfl ?_
    show Steps p.tables e below (s₁.setTop (mkF m 13 #[.val (.int p1)] [(.int p1)])) _
    refine XS.bipush X0.here hx rfl (hb hby d12_13) ?_
    show Steps p.tables e below (s₁.setTop (mkF m 15 #[.val (.int p1)] [(.int (38 : Int32)), (.int p1)])) _
    refine XS.icmpNo X0.here hx rfl (hb hby d12_15) rfl (feq (vh2 : ¬ (p1 = (38 : Int32)))).1 ?_
    show Steps p.tables e below (s₁.setTop (mkF m 18 #[.val (.int p1)] [])) _
    refine XS.iloadN X0.here hx rfl (hb hby d12_18) rfl ?_
    show Steps p.tables e below (s₁.setTop (mkF m 19 #[.val (.int p1)] [(.int p1)])) _
    refine XS.bipush X0.here hx rfl (hb hby d12_19) ?_
    show Steps p.tables e below (s₁.setTop (mkF m 21 #[.val (.int p1)] [(.int (42 : Int32)), (.int p1)])) _
    refine XS.icmpNo X0.here hx rfl (hb hby d12_21) rfl (feq (vh3 : ¬ (p1 = (42 : Int32)))).1 ?_
    show Steps p.tables e below (s₁.setTop (mkF m 24 #[.val (.int p1)] [])) _
    refine XS.iloadN X0.here hx rfl (hb hby d12_24) rfl ?_
    show Steps p.tables e below (s₁.setTop (mkF m 25 #[.val (.int p1)] [(.int p1)])) _
    refine XS.bipush X0.here hx rfl (hb hby d12_25) ?_
    show Steps p.tables e below (s₁.setTop (mkF m 27 #[.val (.int p1)] [(.int (43 : Int32)), (.int p1)])) _
    refine XS.icmpNo X0.here hx rfl (hb hby d12_27) rfl (feq (vh4 : ¬ (p1 = (43 : Int32)))).1 ?_
    show Steps p.tables e below (s₁.setTop (mkF m 30 #[.val (.int p1)] [])) _
    refine XS.iloadN X0.here hx rfl (hb hby d12_30) rfl ?_
    show Steps p.tables e below (s₁.setTop (mkF m 31 #[.val (.int p1)] [(.int p1)])) _
    refine XS.bipush X0.here hx rfl (hb hby d12_31) ?_
    show Steps p.tables e below (s₁.setTop (mkF m 33 #[.val (.int p1)] [(.int (45 : Int32)), (.int p1)])) _
    refine XS.icmpNo X0.here hx rfl (hb hby d12_33) rfl (feq (vh5 : ¬ (p1 = (45 : Int32)))).1 ?_
    show Steps p.tables e below (s₁.setTop (mkF m 36 #[.val (.int p1)] [])) _
    refine XS.iloadN X0.here hx rfl (hb hby d12_36) rfl ?_
    show Steps p.tables e below (s₁.setTop (mkF m 37 #[.val (.int p1)] [(.int p1)])) _
    refine XS.bipush X0.here hx rfl (hb hby d12_37) ?_
    show Steps p.tables e below (s₁.setTop (mkF m 39 #[.val (.int p1)] [(.int (46 : Int32)), (.int p1)])) _
    refine XS.icmpNo X0.here hx rfl (hb hby d12_39) rfl (feq (vh6 : ¬ (p1 = (46 : Int32)))).1 ?_
    show Steps p.tables e below (s₁.setTop (mkF m 42 #[.val (.int p1)] [])) _
    refine XS.iloadN X0.here hx rfl (hb hby d12_42) rfl ?_
    show Steps p.tables e below (s₁.setTop (mkF m 43 #[.val (.int p1)] [(.int p1)])) _
    refine XS.bipush X0.here hx rfl (hb hby d12_43) ?_
    show Steps p.tables e below (s₁.setTop (mkF m 45 #[.val (.int p1)] [(.int (47 : Int32)), (.int p1)])) _
    refine XS.icmpNo X0.here hx rfl (hb hby d12_45) rfl (feq (vh7 : ¬ (p1 = (47 : Int32)))).1 ?_
    show Steps p.tables e below (s₁.setTop (mkF m 48 #[.val (.int p1)] [])) _
    refine XS.iloadN X0.here hx rfl (hb hby d12_48) rfl ?_
    show Steps p.tables e below (s₁.setTop (mkF m 49 #[.val (.int p1)] [(.int p1)])) _
    refine XS.bipush X0.here hx rfl (hb hby d12_49) ?_
    show Steps p.tables e below (s₁.setTop (mkF m 51 #[.val (.int p1)] [(.int (58 : Int32)), (.int p1)])) _
    refine XS.icmpYes X0.here hx rfl (pc0 := 51) (pc' := 102) rfl (hb hby d12_51) rfl (teq (vh8 : p1 = (58 : Int32))).1 (by decide) (by decide) ?_
    show Steps p.tables e below (s₁.setTop (mkF m 102 #[.val (.int p1)] [])) _
    refine XS.iconst X0.here hx rfl (hb hby d12_102) ?_
    show Steps p.tables e below (s₁.setTop (mkF m 103 #[.val (.int p1)] [(.int (1 : Int32))])) _
    refine XS.goto X0.here hx rfl (pc0 := 103) (pc' := 107) rfl (hb hby d12_103) (by decide) (by decide) ?_
    show Steps p.tables e below (s₁.setTop (mkF m 107 #[.val (.int p1)] [(.int (1 : Int32))])) _
    exact retN X0 hx (t := .boolean) Bd.returns (by simp) (hb hby d12_107) hr
  · show QI Z (own_ref p1) h0 n0 _ s₁.heap _
    rw [e0]
    exact ⟨congrArg (fun z => some (Value.int z)) (Eq.symm ((if_neg vh0).trans ((if_neg vh1).trans ((if_neg vh2).trans ((if_neg vh3).trans ((if_neg vh4).trans ((if_neg vh5).trans ((if_neg vh6).trans ((if_neg vh7).trans (if_pos vh8)))))))))), N0, rfl⟩
theorem d12_54 : decode method_3_code 54 = .ok (.iload_n 0, 1) := by decide +kernel
theorem d12_55 : decode method_3_code 55 = .ok (.bipush 60, 2) := by decide +kernel
theorem d12_57 : decode method_3_code 57 = .ok (.if_icmp .eq 45, 3) := by decide +kernel
set_option maxRecDepth 65536 in
set_option maxHeartbeats 40000000 in
theorem rmRf_9 (l : Launch) (Z : State) (a0 : Array Value) (hw : ∀ d ∈ tables_1, d.before a0 Z = true) (ws : List Jvm.Cond) (p1 : Int32) (h0 : Heap) (n0 : Nat) (Z0 : n0 ≤ h0.size) (vh0 : ¬ (p1 = (35 : Int32))) (vh1 : ¬ (p1 = (36 : Int32))) (vh2 : ¬ (p1 = (38 : Int32))) (vh3 : ¬ (p1 = (42 : Int32))) (vh4 : ¬ (p1 = (43 : Int32))) (vh5 : ¬ (p1 = (45 : Int32))) (vh6 : ¬ (p1 = (46 : Int32))) (vh7 : ¬ (p1 = (47 : Int32))) (vh8 : ¬ (p1 = (58 : Int32))) (vh9 : p1 = (60 : Int32)) :
    MetFree l (⟨"cohort/LexerIsSymbolCharPinLaw", "ref", "(I)Z"⟩ : MethodName) (head1 (Jvm.Cond.code (⟨"cohort/LexerIsSymbolCharPinLaw", "ref", "(I)Z"⟩ : MethodName) method_3_code 1 (some .boolean) :: ws) ({ frames := 0, cells := 0, slots := 0, locals := 0 } : Room)) (fun a U => a = #[(.int p1)] ∧ Z.Warmed39 U.vm ∧ U.heap = h0) (fun _ _ _ _ _ => True) (fun _ U o U' => ∃ v L, o = .returned v ∧ QI Z (own_ref p1) h0 n0 v U'.heap L ∧ FrameEnd U o U' L ({ frames := 0, cells := 0, slots := 0, locals := 0 } : Room).cells ({ frames := 0, cells := 0, slots := 0, locals := 0 } : Room).slots) := by
  refine MetFree.of_bodySF (plainFor_of_name pn_12) hisR ?_
  intro p e s m args below meth c s₁ Bd hml0 hP hK
  obtain ⟨rfl, hZ, hh⟩ := hP
  have hx := Bd.exec
  have hby := Bd.bytes
  have hml : c.maxLocals = 1 := hml0
  have hown : s.vm.findClass "cohort/LexerIsSymbolCharPinLaw" = some m.cls := findClass_of_methodNamed Bd.named
  have hnm := (name_of_methodNamed Bd.named Bd.method).1
  have X0 : Stand p l e ({ frames := 0, cells := 0, slots := 0, locals := 0 } : Room) s m #[(.int p1)] below meth c s₁ [] 0 0 := Stand.of_body Bd
  have e0 : s₁.heap = h0 := by rw [← hh, Bd.state]; rfl
  have N0 := Fr.nil n0
  have pre0 : ∀ tz, Steps p.tables e below (s₁.setTop (mkF m 0 #[.val (.int p1)] [])) tz → Steps p.tables e below (s₁.setTop (entryFrame m #[(.int p1)] 1)) tz := fun tz kz => castTop (ef_12 m p1) kz
  obtain ⟨fs, hr, hrun, hended, hW, hsame⟩ := X0.leave (v := some (.int (1 : Int32))) (fun h => by rw [Bd.returns] at h; cases h)
  refine ⟨_, _, pre0 _ ?_, hrun, hended, _, _, rfl, ?_, ⟨_, rfl⟩, hW, hsame.mono (by decide) (by decide)⟩
  · show Steps p.tables e below (s₁.setTop (mkF m 0 #[.val (.int p1)] [])) _
    refine XS.iloadN X0.here hx rfl (hb hby d12_0) rfl ?_
    show Steps p.tables e below (s₁.setTop (mkF m 1 #[.val (.int p1)] [(.int p1)])) _
    refine XS.bipush X0.here hx rfl (hb hby d12_1) ?_
    show Steps p.tables e below (s₁.setTop (mkF m 3 #[.val (.int p1)] [(.int (35 : Int32)), (.int p1)])) _
    refine XS.icmpNo X0.here hx rfl (hb hby d12_3) rfl (feq (vh0 : ¬ (p1 = (35 : Int32)))).1 ?_
    show Steps p.tables e below (s₁.setTop (mkF m 6 #[.val (.int p1)] [])) _
    refine XS.iloadN X0.here hx rfl (hb hby d12_6) rfl ?_
    show Steps p.tables e below (s₁.setTop (mkF m 7 #[.val (.int p1)] [(.int p1)])) _
    refine XS.bipush X0.here hx rfl (hb hby d12_7) ?_
    show Steps p.tables e below (s₁.setTop (mkF m 9 #[.val (.int p1)] [(.int (36 : Int32)), (.int p1)])) _
    refine XS.icmpNo X0.here hx rfl (hb hby d12_9) rfl (feq (vh1 : ¬ (p1 = (36 : Int32)))).1 ?_
    show Steps p.tables e below (s₁.setTop (mkF m 12 #[.val (.int p1)] [])) _
    refine XS.iloadN X0.here hx rfl (hb hby d12_12) rfl ?_
    show Steps p.tables e below (s₁.setTop (mkF m 13 #[.val (.int p1)] [(.int p1)])) _
    refine XS.bipush X0.here hx rfl (hb hby d12_13) ?_
    show Steps p.tables e below (s₁.setTop (mkF m 15 #[.val (.int p1)] [(.int (38 : Int32)), (.int p1)])) _
    refine XS.icmpNo X0.here hx rfl (hb hby d12_15) rfl (feq (vh2 : ¬ (p1 = (38 : Int32)))).1 ?_
    show Steps p.tables e below (s₁.setTop (mkF m 18 #[.val (.int p1)] [])) _
    refine XS.iloadN X0.here hx rfl (hb hby d12_18) rfl ?_
    show Steps p.tables e below (s₁.setTop (mkF m 19 #[.val (.int p1)] [(.int p1)])) _
    refine XS.bipush X0.here hx rfl (hb hby d12_19) ?_
    show Steps p.tables e below (s₁.setTop (mkF m 21 #[.val (.int p1)] [(.int (42 : Int32)), (.int p1)])) _
    refine XS.icmpNo X0.here hx rfl (hb hby d12_21) rfl (feq (vh3 : ¬ (p1 = (42 : Int32)))).1 ?_
    show Steps p.tables e below (s₁.setTop (mkF m 24 #[.val (.int p1)] [])) _
    refine XS.iloadN X0.here hx rfl (hb hby d12_24) rfl ?_
    show Steps p.tables e below (s₁.setTop (mkF m 25 #[.val (.int p1)] [(.int p1)])) _
    refine XS.bipush X0.here hx rfl (hb hby d12_25) ?_
    show Steps p.tables e below (s₁.setTop (mkF m 27 #[.val (.int p1)] [(.int (43 : Int32)), (.int p1)])) _
    refine XS.icmpNo X0.here hx rfl (hb hby d12_27) rfl (feq (vh4 : ¬ (p1 = (43 : Int32)))).1 ?_
    show Steps p.tables e below (s₁.setTop (mkF m 30 #[.val (.int p1)] [])) _
    refine XS.iloadN X0.here hx rfl (hb hby d12_30) rfl ?_
    show Steps p.tables e below (s₁.setTop (mkF m 31 #[.val (.int p1)] [(.int p1)])) _
    refine XS.bipush X0.here hx rfl (hb hby d12_31) ?_
    show Steps p.tables e below (s₁.setTop (mkF m 33 #[.val (.int p1)] [(.int (45 : Int32)), (.int p1)])) _
    refine XS.icmpNo X0.here hx rfl (hb hby d12_33) rfl (feq (vh5 : ¬ (p1 = (45 : Int32)))).1 ?_
    show Steps p.tables e below (s₁.setTop (mkF m 36 #[.val (.int p1)] [])) _
    refine XS.iloadN X0.here hx rfl (hb hby d12_36) rfl ?_
    show Steps p.tables e below (s₁.setTop (mkF m 37 #[.val (.int p1)] [(.int p1)])) _
    refine XS.bipush X0.here hx rfl (hb hby d12_37) ?_
    show Steps p.tables e below (s₁.setTop (mkF m 39 #[.val (.int p1)] [(.int (46 : Int32)), (.int p1)])) _
    refine XS.icmpNo X0.here hx rfl (hb hby d12_39) rfl (feq (vh6 : ¬ (p1 = (46 : Int32)))).1 ?_
    show Steps p.tables e below (s₁.setTop (mkF m 42 #[.val (.int p1)] [])) _
    refine XS.iloadN X0.here hx rfl (hb hby d12_42) rfl ?_
    show Steps p.tables e below (s₁.setTop (mkF m 43 #[.val (.int p1)] [(.int p1)])) _
    refine XS.bipush X0.here hx rfl (hb hby d12_43) ?_
    show Steps p.tables e below (s₁.setTop (mkF m 45 #[.val (.int p1)] [(.int (47 : Int32)), (.int p1)])) _
    refine XS.icmpNo X0.here hx rfl (hb hby d12_45) rfl (feq (vh7 : ¬ (p1 = (47 : Int32)))).1 ?_
    show Steps p.tables e below (s₁.setTop (mkF m 48 #[.val (.int p1)] [])) _
    refine XS.iloadN X0.here hx rfl (hb hby d12_48) rfl ?_
    show Steps p.tables e below (s₁.setTop (mkF m 49 #[.val (.int p1)] [(.int p1)])) _
    refine XS.bipush X0.here hx rfl (hb hby d12_49) ?_
    show Steps p.tables e below (s₁.setTop (mkF m 51 #[.val (.int p1)] [(.int (58 : Int32)), (.int p1)])) _
    refine XS.icmpNo X0.here hx rfl (hb hby d12_51) rfl (feq (vh8 : ¬ (p1 = (58 : Int32)))).1 ?_
    show Steps p.tables e below (s₁.setTop (mkF m 54 #[.val (.int p1)] [])) _
    refine XS.iloadN X0.here hx rfl (hb hby d12_54) rfl ?_
    show Steps p.tables e below (s₁.setTop (mkF m 55 #[.val (.int p1)] [(.int p1)])) _
    refine XS.bipush X0.here hx rfl (hb hby d12_55) ?_
    show Steps p.tables e below (s₁.setTop (mkF m 57 #[.val (.int p1)] [(.int (60 : Int32)), (.int p1)])) _
    refine XS.icmpYes X0.here hx rfl (pc0 := 57) (pc' := 102) rfl (hb hby d12_57) rfl (teq (vh9 : p1 = (60 : Int32))).1 (by decide) (by decide) ?_
    show Steps p.tables e below (s₁.setTop (mkF m 102 #[.val (.int p1)] [])) _
    refine XS.iconst X0.here hx rfl (hb hby d12_102) ?_
    show Steps p.tables e below (s₁.setTop (mkF m 103 #[.val (.int p1)] [(.int (1 : Int32))])) _
    refine XS.goto X0.here hx rfl (pc0 := 103) (pc' := 107) rfl (hb hby d12_103) (by decide) (by decide) ?_
    show Steps p.tables e below (s₁.setTop (mkF m 107 #[.val (.int p1)] [(.int (1 : Int32))])) _
    exact retN X0 hx (t := .boolean) Bd.returns (by simp) (hb hby d12_107) hr
  · show QI Z (own_ref p1) h0 n0 _ s₁.heap _
    rw [e0]
    exact ⟨congrArg (fun z => some (Value.int z)) (Eq.symm ((if_neg vh0).trans ((if_neg vh1).trans ((if_neg vh2).trans ((if_neg vh3).trans ((if_neg vh4).trans ((if_neg vh5).trans ((if_neg vh6).trans ((if_neg vh7).trans ((if_neg vh8).trans (if_pos vh9))))))))))), N0, rfl⟩
theorem d12_60 : decode method_3_code 60 = .ok (.iload_n 0, 1) := by decide +kernel
theorem d12_61 : decode method_3_code 61 = .ok (.bipush 61, 2) := by decide +kernel
theorem d12_63 : decode method_3_code 63 = .ok (.if_icmp .eq 39, 3) := by decide +kernel
set_option maxRecDepth 65536 in
set_option maxHeartbeats 40000000 in
theorem rmRf_10 (l : Launch) (Z : State) (a0 : Array Value) (hw : ∀ d ∈ tables_1, d.before a0 Z = true) (ws : List Jvm.Cond) (p1 : Int32) (h0 : Heap) (n0 : Nat) (Z0 : n0 ≤ h0.size) (vh0 : ¬ (p1 = (35 : Int32))) (vh1 : ¬ (p1 = (36 : Int32))) (vh2 : ¬ (p1 = (38 : Int32))) (vh3 : ¬ (p1 = (42 : Int32))) (vh4 : ¬ (p1 = (43 : Int32))) (vh5 : ¬ (p1 = (45 : Int32))) (vh6 : ¬ (p1 = (46 : Int32))) (vh7 : ¬ (p1 = (47 : Int32))) (vh8 : ¬ (p1 = (58 : Int32))) (vh9 : ¬ (p1 = (60 : Int32))) (vh10 : p1 = (61 : Int32)) :
    MetFree l (⟨"cohort/LexerIsSymbolCharPinLaw", "ref", "(I)Z"⟩ : MethodName) (head1 (Jvm.Cond.code (⟨"cohort/LexerIsSymbolCharPinLaw", "ref", "(I)Z"⟩ : MethodName) method_3_code 1 (some .boolean) :: ws) ({ frames := 0, cells := 0, slots := 0, locals := 0 } : Room)) (fun a U => a = #[(.int p1)] ∧ Z.Warmed39 U.vm ∧ U.heap = h0) (fun _ _ _ _ _ => True) (fun _ U o U' => ∃ v L, o = .returned v ∧ QI Z (own_ref p1) h0 n0 v U'.heap L ∧ FrameEnd U o U' L ({ frames := 0, cells := 0, slots := 0, locals := 0 } : Room).cells ({ frames := 0, cells := 0, slots := 0, locals := 0 } : Room).slots) := by
  refine MetFree.of_bodySF (plainFor_of_name pn_12) hisR ?_
  intro p e s m args below meth c s₁ Bd hml0 hP hK
  obtain ⟨rfl, hZ, hh⟩ := hP
  have hx := Bd.exec
  have hby := Bd.bytes
  have hml : c.maxLocals = 1 := hml0
  have hown : s.vm.findClass "cohort/LexerIsSymbolCharPinLaw" = some m.cls := findClass_of_methodNamed Bd.named
  have hnm := (name_of_methodNamed Bd.named Bd.method).1
  have X0 : Stand p l e ({ frames := 0, cells := 0, slots := 0, locals := 0 } : Room) s m #[(.int p1)] below meth c s₁ [] 0 0 := Stand.of_body Bd
  have e0 : s₁.heap = h0 := by rw [← hh, Bd.state]; rfl
  have N0 := Fr.nil n0
  have pre0 : ∀ tz, Steps p.tables e below (s₁.setTop (mkF m 0 #[.val (.int p1)] [])) tz → Steps p.tables e below (s₁.setTop (entryFrame m #[(.int p1)] 1)) tz := fun tz kz => castTop (ef_12 m p1) kz
  obtain ⟨fs, hr, hrun, hended, hW, hsame⟩ := X0.leave (v := some (.int (1 : Int32))) (fun h => by rw [Bd.returns] at h; cases h)
  refine ⟨_, _, pre0 _ ?_, hrun, hended, _, _, rfl, ?_, ⟨_, rfl⟩, hW, hsame.mono (by decide) (by decide)⟩
  · show Steps p.tables e below (s₁.setTop (mkF m 0 #[.val (.int p1)] [])) _
    refine XS.iloadN X0.here hx rfl (hb hby d12_0) rfl ?_
    show Steps p.tables e below (s₁.setTop (mkF m 1 #[.val (.int p1)] [(.int p1)])) _
    refine XS.bipush X0.here hx rfl (hb hby d12_1) ?_
    show Steps p.tables e below (s₁.setTop (mkF m 3 #[.val (.int p1)] [(.int (35 : Int32)), (.int p1)])) _
    refine XS.icmpNo X0.here hx rfl (hb hby d12_3) rfl (feq (vh0 : ¬ (p1 = (35 : Int32)))).1 ?_
    show Steps p.tables e below (s₁.setTop (mkF m 6 #[.val (.int p1)] [])) _
    refine XS.iloadN X0.here hx rfl (hb hby d12_6) rfl ?_
    show Steps p.tables e below (s₁.setTop (mkF m 7 #[.val (.int p1)] [(.int p1)])) _
    refine XS.bipush X0.here hx rfl (hb hby d12_7) ?_
    show Steps p.tables e below (s₁.setTop (mkF m 9 #[.val (.int p1)] [(.int (36 : Int32)), (.int p1)])) _
    refine XS.icmpNo X0.here hx rfl (hb hby d12_9) rfl (feq (vh1 : ¬ (p1 = (36 : Int32)))).1 ?_
    show Steps p.tables e below (s₁.setTop (mkF m 12 #[.val (.int p1)] [])) _
    refine XS.iloadN X0.here hx rfl (hb hby d12_12) rfl ?_
    show Steps p.tables e below (s₁.setTop (mkF m 13 #[.val (.int p1)] [(.int p1)])) _
    refine XS.bipush X0.here hx rfl (hb hby d12_13) ?_
    show Steps p.tables e below (s₁.setTop (mkF m 15 #[.val (.int p1)] [(.int (38 : Int32)), (.int p1)])) _
    refine XS.icmpNo X0.here hx rfl (hb hby d12_15) rfl (feq (vh2 : ¬ (p1 = (38 : Int32)))).1 ?_
    show Steps p.tables e below (s₁.setTop (mkF m 18 #[.val (.int p1)] [])) _
    refine XS.iloadN X0.here hx rfl (hb hby d12_18) rfl ?_
    show Steps p.tables e below (s₁.setTop (mkF m 19 #[.val (.int p1)] [(.int p1)])) _
    refine XS.bipush X0.here hx rfl (hb hby d12_19) ?_
    show Steps p.tables e below (s₁.setTop (mkF m 21 #[.val (.int p1)] [(.int (42 : Int32)), (.int p1)])) _
    refine XS.icmpNo X0.here hx rfl (hb hby d12_21) rfl (feq (vh3 : ¬ (p1 = (42 : Int32)))).1 ?_
    show Steps p.tables e below (s₁.setTop (mkF m 24 #[.val (.int p1)] [])) _
    refine XS.iloadN X0.here hx rfl (hb hby d12_24) rfl ?_
    show Steps p.tables e below (s₁.setTop (mkF m 25 #[.val (.int p1)] [(.int p1)])) _
    refine XS.bipush X0.here hx rfl (hb hby d12_25) ?_
    show Steps p.tables e below (s₁.setTop (mkF m 27 #[.val (.int p1)] [(.int (43 : Int32)), (.int p1)])) _
    refine XS.icmpNo X0.here hx rfl (hb hby d12_27) rfl (feq (vh4 : ¬ (p1 = (43 : Int32)))).1 ?_
    show Steps p.tables e below (s₁.setTop (mkF m 30 #[.val (.int p1)] [])) _
    refine XS.iloadN X0.here hx rfl (hb hby d12_30) rfl ?_
    show Steps p.tables e below (s₁.setTop (mkF m 31 #[.val (.int p1)] [(.int p1)])) _
    refine XS.bipush X0.here hx rfl (hb hby d12_31) ?_
    show Steps p.tables e below (s₁.setTop (mkF m 33 #[.val (.int p1)] [(.int (45 : Int32)), (.int p1)])) _
    refine XS.icmpNo X0.here hx rfl (hb hby d12_33) rfl (feq (vh5 : ¬ (p1 = (45 : Int32)))).1 ?_
    show Steps p.tables e below (s₁.setTop (mkF m 36 #[.val (.int p1)] [])) _
    refine XS.iloadN X0.here hx rfl (hb hby d12_36) rfl ?_
    show Steps p.tables e below (s₁.setTop (mkF m 37 #[.val (.int p1)] [(.int p1)])) _
    refine XS.bipush X0.here hx rfl (hb hby d12_37) ?_
    show Steps p.tables e below (s₁.setTop (mkF m 39 #[.val (.int p1)] [(.int (46 : Int32)), (.int p1)])) _
    refine XS.icmpNo X0.here hx rfl (hb hby d12_39) rfl (feq (vh6 : ¬ (p1 = (46 : Int32)))).1 ?_
    show Steps p.tables e below (s₁.setTop (mkF m 42 #[.val (.int p1)] [])) _
    refine XS.iloadN X0.here hx rfl (hb hby d12_42) rfl ?_
    show Steps p.tables e below (s₁.setTop (mkF m 43 #[.val (.int p1)] [(.int p1)])) _
    refine XS.bipush X0.here hx rfl (hb hby d12_43) ?_
    show Steps p.tables e below (s₁.setTop (mkF m 45 #[.val (.int p1)] [(.int (47 : Int32)), (.int p1)])) _
    refine XS.icmpNo X0.here hx rfl (hb hby d12_45) rfl (feq (vh7 : ¬ (p1 = (47 : Int32)))).1 ?_
    show Steps p.tables e below (s₁.setTop (mkF m 48 #[.val (.int p1)] [])) _
    refine XS.iloadN X0.here hx rfl (hb hby d12_48) rfl ?_
    show Steps p.tables e below (s₁.setTop (mkF m 49 #[.val (.int p1)] [(.int p1)])) _
    refine XS.bipush X0.here hx rfl (hb hby d12_49) ?_
    show Steps p.tables e below (s₁.setTop (mkF m 51 #[.val (.int p1)] [(.int (58 : Int32)), (.int p1)])) _
    refine XS.icmpNo X0.here hx rfl (hb hby d12_51) rfl (feq (vh8 : ¬ (p1 = (58 : Int32)))).1 ?_
    show Steps p.tables e below (s₁.setTop (mkF m 54 #[.val (.int p1)] [])) _
    refine XS.iloadN X0.here hx rfl (hb hby d12_54) rfl ?_
    show Steps p.tables e below (s₁.setTop (mkF m 55 #[.val (.int p1)] [(.int p1)])) _
    refine XS.bipush X0.here hx rfl (hb hby d12_55) ?_
    show Steps p.tables e below (s₁.setTop (mkF m 57 #[.val (.int p1)] [(.int (60 : Int32)), (.int p1)])) _
    refine XS.icmpNo X0.here hx rfl (hb hby d12_57) rfl (feq (vh9 : ¬ (p1 = (60 : Int32)))).1 ?_
    show Steps p.tables e below (s₁.setTop (mkF m 60 #[.val (.int p1)] [])) _
    refine XS.iloadN X0.here hx rfl (hb hby d12_60) rfl ?_
    show Steps p.tables e below (s₁.setTop (mkF m 61 #[.val (.int p1)] [(.int p1)])) _
    refine XS.bipush X0.here hx rfl (hb hby d12_61) ?_
    show Steps p.tables e below (s₁.setTop (mkF m 63 #[.val (.int p1)] [(.int (61 : Int32)), (.int p1)])) _
    refine XS.icmpYes X0.here hx rfl (pc0 := 63) (pc' := 102) rfl (hb hby d12_63) rfl (teq (vh10 : p1 = (61 : Int32))).1 (by decide) (by decide) ?_
    show Steps p.tables e below (s₁.setTop (mkF m 102 #[.val (.int p1)] [])) _
    refine XS.iconst X0.here hx rfl (hb hby d12_102) ?_
    show Steps p.tables e below (s₁.setTop (mkF m 103 #[.val (.int p1)] [(.int (1 : Int32))])) _
    refine XS.goto X0.here hx rfl (pc0 := 103) (pc' := 107) rfl (hb hby d12_103) (by decide) (by decide) ?_
    show Steps p.tables e below (s₁.setTop (mkF m 107 #[.val (.int p1)] [(.int (1 : Int32))])) _
    exact retN X0 hx (t := .boolean) Bd.returns (by simp) (hb hby d12_107) hr
  · show QI Z (own_ref p1) h0 n0 _ s₁.heap _
    rw [e0]
    exact ⟨congrArg (fun z => some (Value.int z)) (Eq.symm ((if_neg vh0).trans ((if_neg vh1).trans ((if_neg vh2).trans ((if_neg vh3).trans ((if_neg vh4).trans ((if_neg vh5).trans ((if_neg vh6).trans ((if_neg vh7).trans ((if_neg vh8).trans ((if_neg vh9).trans (if_pos vh10)))))))))))), N0, rfl⟩
theorem d12_66 : decode method_3_code 66 = .ok (.iload_n 0, 1) := by decide +kernel
theorem d12_67 : decode method_3_code 67 = .ok (.bipush 62, 2) := by decide +kernel
theorem d12_69 : decode method_3_code 69 = .ok (.if_icmp .eq 33, 3) := by decide +kernel
set_option maxRecDepth 65536 in
set_option maxHeartbeats 40000000 in
theorem rmRf_11 (l : Launch) (Z : State) (a0 : Array Value) (hw : ∀ d ∈ tables_1, d.before a0 Z = true) (ws : List Jvm.Cond) (p1 : Int32) (h0 : Heap) (n0 : Nat) (Z0 : n0 ≤ h0.size) (vh0 : ¬ (p1 = (35 : Int32))) (vh1 : ¬ (p1 = (36 : Int32))) (vh2 : ¬ (p1 = (38 : Int32))) (vh3 : ¬ (p1 = (42 : Int32))) (vh4 : ¬ (p1 = (43 : Int32))) (vh5 : ¬ (p1 = (45 : Int32))) (vh6 : ¬ (p1 = (46 : Int32))) (vh7 : ¬ (p1 = (47 : Int32))) (vh8 : ¬ (p1 = (58 : Int32))) (vh9 : ¬ (p1 = (60 : Int32))) (vh10 : ¬ (p1 = (61 : Int32))) (vh11 : p1 = (62 : Int32)) :
    MetFree l (⟨"cohort/LexerIsSymbolCharPinLaw", "ref", "(I)Z"⟩ : MethodName) (head1 (Jvm.Cond.code (⟨"cohort/LexerIsSymbolCharPinLaw", "ref", "(I)Z"⟩ : MethodName) method_3_code 1 (some .boolean) :: ws) ({ frames := 0, cells := 0, slots := 0, locals := 0 } : Room)) (fun a U => a = #[(.int p1)] ∧ Z.Warmed39 U.vm ∧ U.heap = h0) (fun _ _ _ _ _ => True) (fun _ U o U' => ∃ v L, o = .returned v ∧ QI Z (own_ref p1) h0 n0 v U'.heap L ∧ FrameEnd U o U' L ({ frames := 0, cells := 0, slots := 0, locals := 0 } : Room).cells ({ frames := 0, cells := 0, slots := 0, locals := 0 } : Room).slots) := by
  refine MetFree.of_bodySF (plainFor_of_name pn_12) hisR ?_
  intro p e s m args below meth c s₁ Bd hml0 hP hK
  obtain ⟨rfl, hZ, hh⟩ := hP
  have hx := Bd.exec
  have hby := Bd.bytes
  have hml : c.maxLocals = 1 := hml0
  have hown : s.vm.findClass "cohort/LexerIsSymbolCharPinLaw" = some m.cls := findClass_of_methodNamed Bd.named
  have hnm := (name_of_methodNamed Bd.named Bd.method).1
  have X0 : Stand p l e ({ frames := 0, cells := 0, slots := 0, locals := 0 } : Room) s m #[(.int p1)] below meth c s₁ [] 0 0 := Stand.of_body Bd
  have e0 : s₁.heap = h0 := by rw [← hh, Bd.state]; rfl
  have N0 := Fr.nil n0
  have pre0 : ∀ tz, Steps p.tables e below (s₁.setTop (mkF m 0 #[.val (.int p1)] [])) tz → Steps p.tables e below (s₁.setTop (entryFrame m #[(.int p1)] 1)) tz := fun tz kz => castTop (ef_12 m p1) kz
  obtain ⟨fs, hr, hrun, hended, hW, hsame⟩ := X0.leave (v := some (.int (1 : Int32))) (fun h => by rw [Bd.returns] at h; cases h)
  refine ⟨_, _, pre0 _ ?_, hrun, hended, _, _, rfl, ?_, ⟨_, rfl⟩, hW, hsame.mono (by decide) (by decide)⟩
  · show Steps p.tables e below (s₁.setTop (mkF m 0 #[.val (.int p1)] [])) _
    refine XS.iloadN X0.here hx rfl (hb hby d12_0) rfl ?_
    show Steps p.tables e below (s₁.setTop (mkF m 1 #[.val (.int p1)] [(.int p1)])) _
    refine XS.bipush X0.here hx rfl (hb hby d12_1) ?_
    show Steps p.tables e below (s₁.setTop (mkF m 3 #[.val (.int p1)] [(.int (35 : Int32)), (.int p1)])) _
    refine XS.icmpNo X0.here hx rfl (hb hby d12_3) rfl (feq (vh0 : ¬ (p1 = (35 : Int32)))).1 ?_
    show Steps p.tables e below (s₁.setTop (mkF m 6 #[.val (.int p1)] [])) _
    refine XS.iloadN X0.here hx rfl (hb hby d12_6) rfl ?_
    show Steps p.tables e below (s₁.setTop (mkF m 7 #[.val (.int p1)] [(.int p1)])) _
    refine XS.bipush X0.here hx rfl (hb hby d12_7) ?_
    show Steps p.tables e below (s₁.setTop (mkF m 9 #[.val (.int p1)] [(.int (36 : Int32)), (.int p1)])) _
    refine XS.icmpNo X0.here hx rfl (hb hby d12_9) rfl (feq (vh1 : ¬ (p1 = (36 : Int32)))).1 ?_
    show Steps p.tables e below (s₁.setTop (mkF m 12 #[.val (.int p1)] [])) _
    refine XS.iloadN X0.here hx rfl (hb hby d12_12) rfl ?_
    show Steps p.tables e below (s₁.setTop (mkF m 13 #[.val (.int p1)] [(.int p1)])) _
    refine XS.bipush X0.here hx rfl (hb hby d12_13) ?_
    show Steps p.tables e below (s₁.setTop (mkF m 15 #[.val (.int p1)] [(.int (38 : Int32)), (.int p1)])) _
    refine XS.icmpNo X0.here hx rfl (hb hby d12_15) rfl (feq (vh2 : ¬ (p1 = (38 : Int32)))).1 ?_
    show Steps p.tables e below (s₁.setTop (mkF m 18 #[.val (.int p1)] [])) _
    refine XS.iloadN X0.here hx rfl (hb hby d12_18) rfl ?_
    show Steps p.tables e below (s₁.setTop (mkF m 19 #[.val (.int p1)] [(.int p1)])) _
    refine XS.bipush X0.here hx rfl (hb hby d12_19) ?_
    show Steps p.tables e below (s₁.setTop (mkF m 21 #[.val (.int p1)] [(.int (42 : Int32)), (.int p1)])) _
    refine XS.icmpNo X0.here hx rfl (hb hby d12_21) rfl (feq (vh3 : ¬ (p1 = (42 : Int32)))).1 ?_
    show Steps p.tables e below (s₁.setTop (mkF m 24 #[.val (.int p1)] [])) _
    refine XS.iloadN X0.here hx rfl (hb hby d12_24) rfl ?_
    show Steps p.tables e below (s₁.setTop (mkF m 25 #[.val (.int p1)] [(.int p1)])) _
    refine XS.bipush X0.here hx rfl (hb hby d12_25) ?_
    show Steps p.tables e below (s₁.setTop (mkF m 27 #[.val (.int p1)] [(.int (43 : Int32)), (.int p1)])) _
    refine XS.icmpNo X0.here hx rfl (hb hby d12_27) rfl (feq (vh4 : ¬ (p1 = (43 : Int32)))).1 ?_
    show Steps p.tables e below (s₁.setTop (mkF m 30 #[.val (.int p1)] [])) _
    refine XS.iloadN X0.here hx rfl (hb hby d12_30) rfl ?_
    show Steps p.tables e below (s₁.setTop (mkF m 31 #[.val (.int p1)] [(.int p1)])) _
    refine XS.bipush X0.here hx rfl (hb hby d12_31) ?_
    show Steps p.tables e below (s₁.setTop (mkF m 33 #[.val (.int p1)] [(.int (45 : Int32)), (.int p1)])) _
    refine XS.icmpNo X0.here hx rfl (hb hby d12_33) rfl (feq (vh5 : ¬ (p1 = (45 : Int32)))).1 ?_
    show Steps p.tables e below (s₁.setTop (mkF m 36 #[.val (.int p1)] [])) _
    refine XS.iloadN X0.here hx rfl (hb hby d12_36) rfl ?_
    show Steps p.tables e below (s₁.setTop (mkF m 37 #[.val (.int p1)] [(.int p1)])) _
    refine XS.bipush X0.here hx rfl (hb hby d12_37) ?_
    show Steps p.tables e below (s₁.setTop (mkF m 39 #[.val (.int p1)] [(.int (46 : Int32)), (.int p1)])) _
    refine XS.icmpNo X0.here hx rfl (hb hby d12_39) rfl (feq (vh6 : ¬ (p1 = (46 : Int32)))).1 ?_
    show Steps p.tables e below (s₁.setTop (mkF m 42 #[.val (.int p1)] [])) _
    refine XS.iloadN X0.here hx rfl (hb hby d12_42) rfl ?_
    show Steps p.tables e below (s₁.setTop (mkF m 43 #[.val (.int p1)] [(.int p1)])) _
    refine XS.bipush X0.here hx rfl (hb hby d12_43) ?_
    show Steps p.tables e below (s₁.setTop (mkF m 45 #[.val (.int p1)] [(.int (47 : Int32)), (.int p1)])) _
    refine XS.icmpNo X0.here hx rfl (hb hby d12_45) rfl (feq (vh7 : ¬ (p1 = (47 : Int32)))).1 ?_
    show Steps p.tables e below (s₁.setTop (mkF m 48 #[.val (.int p1)] [])) _
    refine XS.iloadN X0.here hx rfl (hb hby d12_48) rfl ?_
    show Steps p.tables e below (s₁.setTop (mkF m 49 #[.val (.int p1)] [(.int p1)])) _
    refine XS.bipush X0.here hx rfl (hb hby d12_49) ?_
    show Steps p.tables e below (s₁.setTop (mkF m 51 #[.val (.int p1)] [(.int (58 : Int32)), (.int p1)])) _
    refine XS.icmpNo X0.here hx rfl (hb hby d12_51) rfl (feq (vh8 : ¬ (p1 = (58 : Int32)))).1 ?_
    show Steps p.tables e below (s₁.setTop (mkF m 54 #[.val (.int p1)] [])) _
    refine XS.iloadN X0.here hx rfl (hb hby d12_54) rfl ?_
    show Steps p.tables e below (s₁.setTop (mkF m 55 #[.val (.int p1)] [(.int p1)])) _
    refine XS.bipush X0.here hx rfl (hb hby d12_55) ?_
    show Steps p.tables e below (s₁.setTop (mkF m 57 #[.val (.int p1)] [(.int (60 : Int32)), (.int p1)])) _
    refine XS.icmpNo X0.here hx rfl (hb hby d12_57) rfl (feq (vh9 : ¬ (p1 = (60 : Int32)))).1 ?_
    show Steps p.tables e below (s₁.setTop (mkF m 60 #[.val (.int p1)] [])) _
    refine XS.iloadN X0.here hx rfl (hb hby d12_60) rfl ?_
    show Steps p.tables e below (s₁.setTop (mkF m 61 #[.val (.int p1)] [(.int p1)])) _
    refine XS.bipush X0.here hx rfl (hb hby d12_61) ?_
    show Steps p.tables e below (s₁.setTop (mkF m 63 #[.val (.int p1)] [(.int (61 : Int32)), (.int p1)])) _
    refine XS.icmpNo X0.here hx rfl (hb hby d12_63) rfl (feq (vh10 : ¬ (p1 = (61 : Int32)))).1 ?_
    show Steps p.tables e below (s₁.setTop (mkF m 66 #[.val (.int p1)] [])) _
    refine XS.iloadN X0.here hx rfl (hb hby d12_66) rfl ?_
    show Steps p.tables e below (s₁.setTop (mkF m 67 #[.val (.int p1)] [(.int p1)])) _
    refine XS.bipush X0.here hx rfl (hb hby d12_67) ?_
    show Steps p.tables e below (s₁.setTop (mkF m 69 #[.val (.int p1)] [(.int (62 : Int32)), (.int p1)])) _
    refine XS.icmpYes X0.here hx rfl (pc0 := 69) (pc' := 102) rfl (hb hby d12_69) rfl (teq (vh11 : p1 = (62 : Int32))).1 (by decide) (by decide) ?_
    show Steps p.tables e below (s₁.setTop (mkF m 102 #[.val (.int p1)] [])) _
    refine XS.iconst X0.here hx rfl (hb hby d12_102) ?_
    show Steps p.tables e below (s₁.setTop (mkF m 103 #[.val (.int p1)] [(.int (1 : Int32))])) _
    refine XS.goto X0.here hx rfl (pc0 := 103) (pc' := 107) rfl (hb hby d12_103) (by decide) (by decide) ?_
    show Steps p.tables e below (s₁.setTop (mkF m 107 #[.val (.int p1)] [(.int (1 : Int32))])) _
    exact retN X0 hx (t := .boolean) Bd.returns (by simp) (hb hby d12_107) hr
  · show QI Z (own_ref p1) h0 n0 _ s₁.heap _
    rw [e0]
    exact ⟨congrArg (fun z => some (Value.int z)) (Eq.symm ((if_neg vh0).trans ((if_neg vh1).trans ((if_neg vh2).trans ((if_neg vh3).trans ((if_neg vh4).trans ((if_neg vh5).trans ((if_neg vh6).trans ((if_neg vh7).trans ((if_neg vh8).trans ((if_neg vh9).trans ((if_neg vh10).trans (if_pos vh11))))))))))))), N0, rfl⟩
theorem d12_72 : decode method_3_code 72 = .ok (.iload_n 0, 1) := by decide +kernel
theorem d12_73 : decode method_3_code 73 = .ok (.bipush 63, 2) := by decide +kernel
theorem d12_75 : decode method_3_code 75 = .ok (.if_icmp .eq 27, 3) := by decide +kernel
set_option maxRecDepth 65536 in
set_option maxHeartbeats 40000000 in
theorem rmRf_12 (l : Launch) (Z : State) (a0 : Array Value) (hw : ∀ d ∈ tables_1, d.before a0 Z = true) (ws : List Jvm.Cond) (p1 : Int32) (h0 : Heap) (n0 : Nat) (Z0 : n0 ≤ h0.size) (vh0 : ¬ (p1 = (35 : Int32))) (vh1 : ¬ (p1 = (36 : Int32))) (vh2 : ¬ (p1 = (38 : Int32))) (vh3 : ¬ (p1 = (42 : Int32))) (vh4 : ¬ (p1 = (43 : Int32))) (vh5 : ¬ (p1 = (45 : Int32))) (vh6 : ¬ (p1 = (46 : Int32))) (vh7 : ¬ (p1 = (47 : Int32))) (vh8 : ¬ (p1 = (58 : Int32))) (vh9 : ¬ (p1 = (60 : Int32))) (vh10 : ¬ (p1 = (61 : Int32))) (vh11 : ¬ (p1 = (62 : Int32))) (vh12 : p1 = (63 : Int32)) :
    MetFree l (⟨"cohort/LexerIsSymbolCharPinLaw", "ref", "(I)Z"⟩ : MethodName) (head1 (Jvm.Cond.code (⟨"cohort/LexerIsSymbolCharPinLaw", "ref", "(I)Z"⟩ : MethodName) method_3_code 1 (some .boolean) :: ws) ({ frames := 0, cells := 0, slots := 0, locals := 0 } : Room)) (fun a U => a = #[(.int p1)] ∧ Z.Warmed39 U.vm ∧ U.heap = h0) (fun _ _ _ _ _ => True) (fun _ U o U' => ∃ v L, o = .returned v ∧ QI Z (own_ref p1) h0 n0 v U'.heap L ∧ FrameEnd U o U' L ({ frames := 0, cells := 0, slots := 0, locals := 0 } : Room).cells ({ frames := 0, cells := 0, slots := 0, locals := 0 } : Room).slots) := by
  refine MetFree.of_bodySF (plainFor_of_name pn_12) hisR ?_
  intro p e s m args below meth c s₁ Bd hml0 hP hK
  obtain ⟨rfl, hZ, hh⟩ := hP
  have hx := Bd.exec
  have hby := Bd.bytes
  have hml : c.maxLocals = 1 := hml0
  have hown : s.vm.findClass "cohort/LexerIsSymbolCharPinLaw" = some m.cls := findClass_of_methodNamed Bd.named
  have hnm := (name_of_methodNamed Bd.named Bd.method).1
  have X0 : Stand p l e ({ frames := 0, cells := 0, slots := 0, locals := 0 } : Room) s m #[(.int p1)] below meth c s₁ [] 0 0 := Stand.of_body Bd
  have e0 : s₁.heap = h0 := by rw [← hh, Bd.state]; rfl
  have N0 := Fr.nil n0
  have pre0 : ∀ tz, Steps p.tables e below (s₁.setTop (mkF m 0 #[.val (.int p1)] [])) tz → Steps p.tables e below (s₁.setTop (entryFrame m #[(.int p1)] 1)) tz := fun tz kz => castTop (ef_12 m p1) kz
  obtain ⟨fs, hr, hrun, hended, hW, hsame⟩ := X0.leave (v := some (.int (1 : Int32))) (fun h => by rw [Bd.returns] at h; cases h)
  refine ⟨_, _, pre0 _ ?_, hrun, hended, _, _, rfl, ?_, ⟨_, rfl⟩, hW, hsame.mono (by decide) (by decide)⟩
  · show Steps p.tables e below (s₁.setTop (mkF m 0 #[.val (.int p1)] [])) _
    refine XS.iloadN X0.here hx rfl (hb hby d12_0) rfl ?_
    show Steps p.tables e below (s₁.setTop (mkF m 1 #[.val (.int p1)] [(.int p1)])) _
    refine XS.bipush X0.here hx rfl (hb hby d12_1) ?_
    show Steps p.tables e below (s₁.setTop (mkF m 3 #[.val (.int p1)] [(.int (35 : Int32)), (.int p1)])) _
    refine XS.icmpNo X0.here hx rfl (hb hby d12_3) rfl (feq (vh0 : ¬ (p1 = (35 : Int32)))).1 ?_
    show Steps p.tables e below (s₁.setTop (mkF m 6 #[.val (.int p1)] [])) _
    refine XS.iloadN X0.here hx rfl (hb hby d12_6) rfl ?_
    show Steps p.tables e below (s₁.setTop (mkF m 7 #[.val (.int p1)] [(.int p1)])) _
    refine XS.bipush X0.here hx rfl (hb hby d12_7) ?_
    show Steps p.tables e below (s₁.setTop (mkF m 9 #[.val (.int p1)] [(.int (36 : Int32)), (.int p1)])) _
    refine XS.icmpNo X0.here hx rfl (hb hby d12_9) rfl (feq (vh1 : ¬ (p1 = (36 : Int32)))).1 ?_
    show Steps p.tables e below (s₁.setTop (mkF m 12 #[.val (.int p1)] [])) _
    refine XS.iloadN X0.here hx rfl (hb hby d12_12) rfl ?_
    show Steps p.tables e below (s₁.setTop (mkF m 13 #[.val (.int p1)] [(.int p1)])) _
    refine XS.bipush X0.here hx rfl (hb hby d12_13) ?_
    show Steps p.tables e below (s₁.setTop (mkF m 15 #[.val (.int p1)] [(.int (38 : Int32)), (.int p1)])) _
    refine XS.icmpNo X0.here hx rfl (hb hby d12_15) rfl (feq (vh2 : ¬ (p1 = (38 : Int32)))).1 ?_
    show Steps p.tables e below (s₁.setTop (mkF m 18 #[.val (.int p1)] [])) _
    refine XS.iloadN X0.here hx rfl (hb hby d12_18) rfl ?_
    show Steps p.tables e below (s₁.setTop (mkF m 19 #[.val (.int p1)] [(.int p1)])) _
    refine XS.bipush X0.here hx rfl (hb hby d12_19) ?_
    show Steps p.tables e below (s₁.setTop (mkF m 21 #[.val (.int p1)] [(.int (42 : Int32)), (.int p1)])) _
    refine XS.icmpNo X0.here hx rfl (hb hby d12_21) rfl (feq (vh3 : ¬ (p1 = (42 : Int32)))).1 ?_
    show Steps p.tables e below (s₁.setTop (mkF m 24 #[.val (.int p1)] [])) _
    refine XS.iloadN X0.here hx rfl (hb hby d12_24) rfl ?_
    show Steps p.tables e below (s₁.setTop (mkF m 25 #[.val (.int p1)] [(.int p1)])) _
    refine XS.bipush X0.here hx rfl (hb hby d12_25) ?_
    show Steps p.tables e below (s₁.setTop (mkF m 27 #[.val (.int p1)] [(.int (43 : Int32)), (.int p1)])) _
    refine XS.icmpNo X0.here hx rfl (hb hby d12_27) rfl (feq (vh4 : ¬ (p1 = (43 : Int32)))).1 ?_
    show Steps p.tables e below (s₁.setTop (mkF m 30 #[.val (.int p1)] [])) _
    refine XS.iloadN X0.here hx rfl (hb hby d12_30) rfl ?_
    show Steps p.tables e below (s₁.setTop (mkF m 31 #[.val (.int p1)] [(.int p1)])) _
    refine XS.bipush X0.here hx rfl (hb hby d12_31) ?_
    show Steps p.tables e below (s₁.setTop (mkF m 33 #[.val (.int p1)] [(.int (45 : Int32)), (.int p1)])) _
    refine XS.icmpNo X0.here hx rfl (hb hby d12_33) rfl (feq (vh5 : ¬ (p1 = (45 : Int32)))).1 ?_
    show Steps p.tables e below (s₁.setTop (mkF m 36 #[.val (.int p1)] [])) _
    refine XS.iloadN X0.here hx rfl (hb hby d12_36) rfl ?_
    show Steps p.tables e below (s₁.setTop (mkF m 37 #[.val (.int p1)] [(.int p1)])) _
    refine XS.bipush X0.here hx rfl (hb hby d12_37) ?_
    show Steps p.tables e below (s₁.setTop (mkF m 39 #[.val (.int p1)] [(.int (46 : Int32)), (.int p1)])) _
    refine XS.icmpNo X0.here hx rfl (hb hby d12_39) rfl (feq (vh6 : ¬ (p1 = (46 : Int32)))).1 ?_
    show Steps p.tables e below (s₁.setTop (mkF m 42 #[.val (.int p1)] [])) _
    refine XS.iloadN X0.here hx rfl (hb hby d12_42) rfl ?_
    show Steps p.tables e below (s₁.setTop (mkF m 43 #[.val (.int p1)] [(.int p1)])) _
    refine XS.bipush X0.here hx rfl (hb hby d12_43) ?_
    show Steps p.tables e below (s₁.setTop (mkF m 45 #[.val (.int p1)] [(.int (47 : Int32)), (.int p1)])) _
    refine XS.icmpNo X0.here hx rfl (hb hby d12_45) rfl (feq (vh7 : ¬ (p1 = (47 : Int32)))).1 ?_
    show Steps p.tables e below (s₁.setTop (mkF m 48 #[.val (.int p1)] [])) _
    refine XS.iloadN X0.here hx rfl (hb hby d12_48) rfl ?_
    show Steps p.tables e below (s₁.setTop (mkF m 49 #[.val (.int p1)] [(.int p1)])) _
    refine XS.bipush X0.here hx rfl (hb hby d12_49) ?_
    show Steps p.tables e below (s₁.setTop (mkF m 51 #[.val (.int p1)] [(.int (58 : Int32)), (.int p1)])) _
    refine XS.icmpNo X0.here hx rfl (hb hby d12_51) rfl (feq (vh8 : ¬ (p1 = (58 : Int32)))).1 ?_
    show Steps p.tables e below (s₁.setTop (mkF m 54 #[.val (.int p1)] [])) _
    refine XS.iloadN X0.here hx rfl (hb hby d12_54) rfl ?_
    show Steps p.tables e below (s₁.setTop (mkF m 55 #[.val (.int p1)] [(.int p1)])) _
    refine XS.bipush X0.here hx rfl (hb hby d12_55) ?_
    show Steps p.tables e below (s₁.setTop (mkF m 57 #[.val (.int p1)] [(.int (60 : Int32)), (.int p1)])) _
    refine XS.icmpNo X0.here hx rfl (hb hby d12_57) rfl (feq (vh9 : ¬ (p1 = (60 : Int32)))).1 ?_
    show Steps p.tables e below (s₁.setTop (mkF m 60 #[.val (.int p1)] [])) _
    refine XS.iloadN X0.here hx rfl (hb hby d12_60) rfl ?_
    show Steps p.tables e below (s₁.setTop (mkF m 61 #[.val (.int p1)] [(.int p1)])) _
    refine XS.bipush X0.here hx rfl (hb hby d12_61) ?_
    show Steps p.tables e below (s₁.setTop (mkF m 63 #[.val (.int p1)] [(.int (61 : Int32)), (.int p1)])) _
    refine XS.icmpNo X0.here hx rfl (hb hby d12_63) rfl (feq (vh10 : ¬ (p1 = (61 : Int32)))).1 ?_
    show Steps p.tables e below (s₁.setTop (mkF m 66 #[.val (.int p1)] [])) _
    refine XS.iloadN X0.here hx rfl (hb hby d12_66) rfl ?_
    show Steps p.tables e below (s₁.setTop (mkF m 67 #[.val (.int p1)] [(.int p1)])) _
    refine XS.bipush X0.here hx rfl (hb hby d12_67) ?_
    show Steps p.tables e below (s₁.setTop (mkF m 69 #[.val (.int p1)] [(.int (62 : Int32)), (.int p1)])) _
    refine XS.icmpNo X0.here hx rfl (hb hby d12_69) rfl (feq (vh11 : ¬ (p1 = (62 : Int32)))).1 ?_
    show Steps p.tables e below (s₁.setTop (mkF m 72 #[.val (.int p1)] [])) _
    refine XS.iloadN X0.here hx rfl (hb hby d12_72) rfl ?_
    show Steps p.tables e below (s₁.setTop (mkF m 73 #[.val (.int p1)] [(.int p1)])) _
    refine XS.bipush X0.here hx rfl (hb hby d12_73) ?_
    show Steps p.tables e below (s₁.setTop (mkF m 75 #[.val (.int p1)] [(.int (63 : Int32)), (.int p1)])) _
    refine XS.icmpYes X0.here hx rfl (pc0 := 75) (pc' := 102) rfl (hb hby d12_75) rfl (teq (vh12 : p1 = (63 : Int32))).1 (by decide) (by decide) ?_
    show Steps p.tables e below (s₁.setTop (mkF m 102 #[.val (.int p1)] [])) _
    refine XS.iconst X0.here hx rfl (hb hby d12_102) ?_
    show Steps p.tables e below (s₁.setTop (mkF m 103 #[.val (.int p1)] [(.int (1 : Int32))])) _
    refine XS.goto X0.here hx rfl (pc0 := 103) (pc' := 107) rfl (hb hby d12_103) (by decide) (by decide) ?_
    show Steps p.tables e below (s₁.setTop (mkF m 107 #[.val (.int p1)] [(.int (1 : Int32))])) _
    exact retN X0 hx (t := .boolean) Bd.returns (by simp) (hb hby d12_107) hr
  · show QI Z (own_ref p1) h0 n0 _ s₁.heap _
    rw [e0]
    exact ⟨congrArg (fun z => some (Value.int z)) (Eq.symm ((if_neg vh0).trans ((if_neg vh1).trans ((if_neg vh2).trans ((if_neg vh3).trans ((if_neg vh4).trans ((if_neg vh5).trans ((if_neg vh6).trans ((if_neg vh7).trans ((if_neg vh8).trans ((if_neg vh9).trans ((if_neg vh10).trans ((if_neg vh11).trans (if_pos vh12)))))))))))))), N0, rfl⟩
theorem d12_78 : decode method_3_code 78 = .ok (.iload_n 0, 1) := by decide +kernel
theorem d12_79 : decode method_3_code 79 = .ok (.bipush 64, 2) := by decide +kernel
theorem d12_81 : decode method_3_code 81 = .ok (.if_icmp .eq 21, 3) := by decide +kernel
set_option maxRecDepth 65536 in
set_option maxHeartbeats 40000000 in
theorem rmRf_13 (l : Launch) (Z : State) (a0 : Array Value) (hw : ∀ d ∈ tables_1, d.before a0 Z = true) (ws : List Jvm.Cond) (p1 : Int32) (h0 : Heap) (n0 : Nat) (Z0 : n0 ≤ h0.size) (vh0 : ¬ (p1 = (35 : Int32))) (vh1 : ¬ (p1 = (36 : Int32))) (vh2 : ¬ (p1 = (38 : Int32))) (vh3 : ¬ (p1 = (42 : Int32))) (vh4 : ¬ (p1 = (43 : Int32))) (vh5 : ¬ (p1 = (45 : Int32))) (vh6 : ¬ (p1 = (46 : Int32))) (vh7 : ¬ (p1 = (47 : Int32))) (vh8 : ¬ (p1 = (58 : Int32))) (vh9 : ¬ (p1 = (60 : Int32))) (vh10 : ¬ (p1 = (61 : Int32))) (vh11 : ¬ (p1 = (62 : Int32))) (vh12 : ¬ (p1 = (63 : Int32))) (vh13 : p1 = (64 : Int32)) :
    MetFree l (⟨"cohort/LexerIsSymbolCharPinLaw", "ref", "(I)Z"⟩ : MethodName) (head1 (Jvm.Cond.code (⟨"cohort/LexerIsSymbolCharPinLaw", "ref", "(I)Z"⟩ : MethodName) method_3_code 1 (some .boolean) :: ws) ({ frames := 0, cells := 0, slots := 0, locals := 0 } : Room)) (fun a U => a = #[(.int p1)] ∧ Z.Warmed39 U.vm ∧ U.heap = h0) (fun _ _ _ _ _ => True) (fun _ U o U' => ∃ v L, o = .returned v ∧ QI Z (own_ref p1) h0 n0 v U'.heap L ∧ FrameEnd U o U' L ({ frames := 0, cells := 0, slots := 0, locals := 0 } : Room).cells ({ frames := 0, cells := 0, slots := 0, locals := 0 } : Room).slots) := by
  refine MetFree.of_bodySF (plainFor_of_name pn_12) hisR ?_
  intro p e s m args below meth c s₁ Bd hml0 hP hK
  obtain ⟨rfl, hZ, hh⟩ := hP
  have hx := Bd.exec
  have hby := Bd.bytes
  have hml : c.maxLocals = 1 := hml0
  have hown : s.vm.findClass "cohort/LexerIsSymbolCharPinLaw" = some m.cls := findClass_of_methodNamed Bd.named
  have hnm := (name_of_methodNamed Bd.named Bd.method).1
  have X0 : Stand p l e ({ frames := 0, cells := 0, slots := 0, locals := 0 } : Room) s m #[(.int p1)] below meth c s₁ [] 0 0 := Stand.of_body Bd
  have e0 : s₁.heap = h0 := by rw [← hh, Bd.state]; rfl
  have N0 := Fr.nil n0
  have pre0 : ∀ tz, Steps p.tables e below (s₁.setTop (mkF m 0 #[.val (.int p1)] [])) tz → Steps p.tables e below (s₁.setTop (entryFrame m #[(.int p1)] 1)) tz := fun tz kz => castTop (ef_12 m p1) kz
  obtain ⟨fs, hr, hrun, hended, hW, hsame⟩ := X0.leave (v := some (.int (1 : Int32))) (fun h => by rw [Bd.returns] at h; cases h)
  refine ⟨_, _, pre0 _ ?_, hrun, hended, _, _, rfl, ?_, ⟨_, rfl⟩, hW, hsame.mono (by decide) (by decide)⟩
  · show Steps p.tables e below (s₁.setTop (mkF m 0 #[.val (.int p1)] [])) _
    refine XS.iloadN X0.here hx rfl (hb hby d12_0) rfl ?_
    show Steps p.tables e below (s₁.setTop (mkF m 1 #[.val (.int p1)] [(.int p1)])) _
    refine XS.bipush X0.here hx rfl (hb hby d12_1) ?_
    show Steps p.tables e below (s₁.setTop (mkF m 3 #[.val (.int p1)] [(.int (35 : Int32)), (.int p1)])) _
    refine XS.icmpNo X0.here hx rfl (hb hby d12_3) rfl (feq (vh0 : ¬ (p1 = (35 : Int32)))).1 ?_
    show Steps p.tables e below (s₁.setTop (mkF m 6 #[.val (.int p1)] [])) _
    refine XS.iloadN X0.here hx rfl (hb hby d12_6) rfl ?_
    show Steps p.tables e below (s₁.setTop (mkF m 7 #[.val (.int p1)] [(.int p1)])) _
    refine XS.bipush X0.here hx rfl (hb hby d12_7) ?_
    show Steps p.tables e below (s₁.setTop (mkF m 9 #[.val (.int p1)] [(.int (36 : Int32)), (.int p1)])) _
    refine XS.icmpNo X0.here hx rfl (hb hby d12_9) rfl (feq (vh1 : ¬ (p1 = (36 : Int32)))).1 ?_
    show Steps p.tables e below (s₁.setTop (mkF m 12 #[.val (.int p1)] [])) _
    refine XS.iloadN X0.here hx rfl (hb hby d12_12) rfl ?_
    show Steps p.tables e below (s₁.setTop (mkF m 13 #[.val (.int p1)] [(.int p1)])) _
    refine XS.bipush X0.here hx rfl (hb hby d12_13) ?_
    show Steps p.tables e below (s₁.setTop (mkF m 15 #[.val (.int p1)] [(.int (38 : Int32)), (.int p1)])) _
    refine XS.icmpNo X0.here hx rfl (hb hby d12_15) rfl (feq (vh2 : ¬ (p1 = (38 : Int32)))).1 ?_
    show Steps p.tables e below (s₁.setTop (mkF m 18 #[.val (.int p1)] [])) _
    refine XS.iloadN X0.here hx rfl (hb hby d12_18) rfl ?_
    show Steps p.tables e below (s₁.setTop (mkF m 19 #[.val (.int p1)] [(.int p1)])) _
    refine XS.bipush X0.here hx rfl (hb hby d12_19) ?_
    show Steps p.tables e below (s₁.setTop (mkF m 21 #[.val (.int p1)] [(.int (42 : Int32)), (.int p1)])) _
    refine XS.icmpNo X0.here hx rfl (hb hby d12_21) rfl (feq (vh3 : ¬ (p1 = (42 : Int32)))).1 ?_
    show Steps p.tables e below (s₁.setTop (mkF m 24 #[.val (.int p1)] [])) _
    refine XS.iloadN X0.here hx rfl (hb hby d12_24) rfl ?_
    show Steps p.tables e below (s₁.setTop (mkF m 25 #[.val (.int p1)] [(.int p1)])) _
    refine XS.bipush X0.here hx rfl (hb hby d12_25) ?_
    show Steps p.tables e below (s₁.setTop (mkF m 27 #[.val (.int p1)] [(.int (43 : Int32)), (.int p1)])) _
    refine XS.icmpNo X0.here hx rfl (hb hby d12_27) rfl (feq (vh4 : ¬ (p1 = (43 : Int32)))).1 ?_
    show Steps p.tables e below (s₁.setTop (mkF m 30 #[.val (.int p1)] [])) _
    refine XS.iloadN X0.here hx rfl (hb hby d12_30) rfl ?_
    show Steps p.tables e below (s₁.setTop (mkF m 31 #[.val (.int p1)] [(.int p1)])) _
    refine XS.bipush X0.here hx rfl (hb hby d12_31) ?_
    show Steps p.tables e below (s₁.setTop (mkF m 33 #[.val (.int p1)] [(.int (45 : Int32)), (.int p1)])) _
    refine XS.icmpNo X0.here hx rfl (hb hby d12_33) rfl (feq (vh5 : ¬ (p1 = (45 : Int32)))).1 ?_
    show Steps p.tables e below (s₁.setTop (mkF m 36 #[.val (.int p1)] [])) _
    refine XS.iloadN X0.here hx rfl (hb hby d12_36) rfl ?_
    show Steps p.tables e below (s₁.setTop (mkF m 37 #[.val (.int p1)] [(.int p1)])) _
    refine XS.bipush X0.here hx rfl (hb hby d12_37) ?_
    show Steps p.tables e below (s₁.setTop (mkF m 39 #[.val (.int p1)] [(.int (46 : Int32)), (.int p1)])) _
    refine XS.icmpNo X0.here hx rfl (hb hby d12_39) rfl (feq (vh6 : ¬ (p1 = (46 : Int32)))).1 ?_
    show Steps p.tables e below (s₁.setTop (mkF m 42 #[.val (.int p1)] [])) _
    refine XS.iloadN X0.here hx rfl (hb hby d12_42) rfl ?_
    show Steps p.tables e below (s₁.setTop (mkF m 43 #[.val (.int p1)] [(.int p1)])) _
    refine XS.bipush X0.here hx rfl (hb hby d12_43) ?_
    show Steps p.tables e below (s₁.setTop (mkF m 45 #[.val (.int p1)] [(.int (47 : Int32)), (.int p1)])) _
    refine XS.icmpNo X0.here hx rfl (hb hby d12_45) rfl (feq (vh7 : ¬ (p1 = (47 : Int32)))).1 ?_
    show Steps p.tables e below (s₁.setTop (mkF m 48 #[.val (.int p1)] [])) _
    refine XS.iloadN X0.here hx rfl (hb hby d12_48) rfl ?_
    show Steps p.tables e below (s₁.setTop (mkF m 49 #[.val (.int p1)] [(.int p1)])) _
    refine XS.bipush X0.here hx rfl (hb hby d12_49) ?_
    show Steps p.tables e below (s₁.setTop (mkF m 51 #[.val (.int p1)] [(.int (58 : Int32)), (.int p1)])) _
    refine XS.icmpNo X0.here hx rfl (hb hby d12_51) rfl (feq (vh8 : ¬ (p1 = (58 : Int32)))).1 ?_
    show Steps p.tables e below (s₁.setTop (mkF m 54 #[.val (.int p1)] [])) _
    refine XS.iloadN X0.here hx rfl (hb hby d12_54) rfl ?_
    show Steps p.tables e below (s₁.setTop (mkF m 55 #[.val (.int p1)] [(.int p1)])) _
    refine XS.bipush X0.here hx rfl (hb hby d12_55) ?_
    show Steps p.tables e below (s₁.setTop (mkF m 57 #[.val (.int p1)] [(.int (60 : Int32)), (.int p1)])) _
    refine XS.icmpNo X0.here hx rfl (hb hby d12_57) rfl (feq (vh9 : ¬ (p1 = (60 : Int32)))).1 ?_
    show Steps p.tables e below (s₁.setTop (mkF m 60 #[.val (.int p1)] [])) _
    refine XS.iloadN X0.here hx rfl (hb hby d12_60) rfl ?_
    show Steps p.tables e below (s₁.setTop (mkF m 61 #[.val (.int p1)] [(.int p1)])) _
    refine XS.bipush X0.here hx rfl (hb hby d12_61) ?_
    show Steps p.tables e below (s₁.setTop (mkF m 63 #[.val (.int p1)] [(.int (61 : Int32)), (.int p1)])) _
    refine XS.icmpNo X0.here hx rfl (hb hby d12_63) rfl (feq (vh10 : ¬ (p1 = (61 : Int32)))).1 ?_
    show Steps p.tables e below (s₁.setTop (mkF m 66 #[.val (.int p1)] [])) _
    refine XS.iloadN X0.here hx rfl (hb hby d12_66) rfl ?_
    show Steps p.tables e below (s₁.setTop (mkF m 67 #[.val (.int p1)] [(.int p1)])) _
    refine XS.bipush X0.here hx rfl (hb hby d12_67) ?_
    show Steps p.tables e below (s₁.setTop (mkF m 69 #[.val (.int p1)] [(.int (62 : Int32)), (.int p1)])) _
    refine XS.icmpNo X0.here hx rfl (hb hby d12_69) rfl (feq (vh11 : ¬ (p1 = (62 : Int32)))).1 ?_
    show Steps p.tables e below (s₁.setTop (mkF m 72 #[.val (.int p1)] [])) _
    refine XS.iloadN X0.here hx rfl (hb hby d12_72) rfl ?_
    show Steps p.tables e below (s₁.setTop (mkF m 73 #[.val (.int p1)] [(.int p1)])) _
    refine XS.bipush X0.here hx rfl (hb hby d12_73) ?_
    show Steps p.tables e below (s₁.setTop (mkF m 75 #[.val (.int p1)] [(.int (63 : Int32)), (.int p1)])) _
    refine XS.icmpNo X0.here hx rfl (hb hby d12_75) rfl (feq (vh12 : ¬ (p1 = (63 : Int32)))).1 ?_
    show Steps p.tables e below (s₁.setTop (mkF m 78 #[.val (.int p1)] [])) _
    refine XS.iloadN X0.here hx rfl (hb hby d12_78) rfl ?_
    show Steps p.tables e below (s₁.setTop (mkF m 79 #[.val (.int p1)] [(.int p1)])) _
    refine XS.bipush X0.here hx rfl (hb hby d12_79) ?_
    show Steps p.tables e below (s₁.setTop (mkF m 81 #[.val (.int p1)] [(.int (64 : Int32)), (.int p1)])) _
    refine XS.icmpYes X0.here hx rfl (pc0 := 81) (pc' := 102) rfl (hb hby d12_81) rfl (teq (vh13 : p1 = (64 : Int32))).1 (by decide) (by decide) ?_
    show Steps p.tables e below (s₁.setTop (mkF m 102 #[.val (.int p1)] [])) _
    refine XS.iconst X0.here hx rfl (hb hby d12_102) ?_
    show Steps p.tables e below (s₁.setTop (mkF m 103 #[.val (.int p1)] [(.int (1 : Int32))])) _
    refine XS.goto X0.here hx rfl (pc0 := 103) (pc' := 107) rfl (hb hby d12_103) (by decide) (by decide) ?_
    show Steps p.tables e below (s₁.setTop (mkF m 107 #[.val (.int p1)] [(.int (1 : Int32))])) _
    exact retN X0 hx (t := .boolean) Bd.returns (by simp) (hb hby d12_107) hr
  · show QI Z (own_ref p1) h0 n0 _ s₁.heap _
    rw [e0]
    exact ⟨congrArg (fun z => some (Value.int z)) (Eq.symm ((if_neg vh0).trans ((if_neg vh1).trans ((if_neg vh2).trans ((if_neg vh3).trans ((if_neg vh4).trans ((if_neg vh5).trans ((if_neg vh6).trans ((if_neg vh7).trans ((if_neg vh8).trans ((if_neg vh9).trans ((if_neg vh10).trans ((if_neg vh11).trans ((if_neg vh12).trans (if_pos vh13))))))))))))))), N0, rfl⟩
theorem d12_84 : decode method_3_code 84 = .ok (.iload_n 0, 1) := by decide +kernel
theorem d12_85 : decode method_3_code 85 = .ok (.bipush 94, 2) := by decide +kernel
theorem d12_87 : decode method_3_code 87 = .ok (.if_icmp .eq 15, 3) := by decide +kernel
set_option maxRecDepth 65536 in
set_option maxHeartbeats 40000000 in
theorem rmRf_14 (l : Launch) (Z : State) (a0 : Array Value) (hw : ∀ d ∈ tables_1, d.before a0 Z = true) (ws : List Jvm.Cond) (p1 : Int32) (h0 : Heap) (n0 : Nat) (Z0 : n0 ≤ h0.size) (vh0 : ¬ (p1 = (35 : Int32))) (vh1 : ¬ (p1 = (36 : Int32))) (vh2 : ¬ (p1 = (38 : Int32))) (vh3 : ¬ (p1 = (42 : Int32))) (vh4 : ¬ (p1 = (43 : Int32))) (vh5 : ¬ (p1 = (45 : Int32))) (vh6 : ¬ (p1 = (46 : Int32))) (vh7 : ¬ (p1 = (47 : Int32))) (vh8 : ¬ (p1 = (58 : Int32))) (vh9 : ¬ (p1 = (60 : Int32))) (vh10 : ¬ (p1 = (61 : Int32))) (vh11 : ¬ (p1 = (62 : Int32))) (vh12 : ¬ (p1 = (63 : Int32))) (vh13 : ¬ (p1 = (64 : Int32))) (vh14 : p1 = (94 : Int32)) :
    MetFree l (⟨"cohort/LexerIsSymbolCharPinLaw", "ref", "(I)Z"⟩ : MethodName) (head1 (Jvm.Cond.code (⟨"cohort/LexerIsSymbolCharPinLaw", "ref", "(I)Z"⟩ : MethodName) method_3_code 1 (some .boolean) :: ws) ({ frames := 0, cells := 0, slots := 0, locals := 0 } : Room)) (fun a U => a = #[(.int p1)] ∧ Z.Warmed39 U.vm ∧ U.heap = h0) (fun _ _ _ _ _ => True) (fun _ U o U' => ∃ v L, o = .returned v ∧ QI Z (own_ref p1) h0 n0 v U'.heap L ∧ FrameEnd U o U' L ({ frames := 0, cells := 0, slots := 0, locals := 0 } : Room).cells ({ frames := 0, cells := 0, slots := 0, locals := 0 } : Room).slots) := by
  refine MetFree.of_bodySF (plainFor_of_name pn_12) hisR ?_
  intro p e s m args below meth c s₁ Bd hml0 hP hK
  obtain ⟨rfl, hZ, hh⟩ := hP
  have hx := Bd.exec
  have hby := Bd.bytes
  have hml : c.maxLocals = 1 := hml0
  have hown : s.vm.findClass "cohort/LexerIsSymbolCharPinLaw" = some m.cls := findClass_of_methodNamed Bd.named
  have hnm := (name_of_methodNamed Bd.named Bd.method).1
  have X0 : Stand p l e ({ frames := 0, cells := 0, slots := 0, locals := 0 } : Room) s m #[(.int p1)] below meth c s₁ [] 0 0 := Stand.of_body Bd
  have e0 : s₁.heap = h0 := by rw [← hh, Bd.state]; rfl
  have N0 := Fr.nil n0
  have pre0 : ∀ tz, Steps p.tables e below (s₁.setTop (mkF m 0 #[.val (.int p1)] [])) tz → Steps p.tables e below (s₁.setTop (entryFrame m #[(.int p1)] 1)) tz := fun tz kz => castTop (ef_12 m p1) kz
  obtain ⟨fs, hr, hrun, hended, hW, hsame⟩ := X0.leave (v := some (.int (1 : Int32))) (fun h => by rw [Bd.returns] at h; cases h)
  refine ⟨_, _, pre0 _ ?_, hrun, hended, _, _, rfl, ?_, ⟨_, rfl⟩, hW, hsame.mono (by decide) (by decide)⟩
  · show Steps p.tables e below (s₁.setTop (mkF m 0 #[.val (.int p1)] [])) _
    refine XS.iloadN X0.here hx rfl (hb hby d12_0) rfl ?_
    show Steps p.tables e below (s₁.setTop (mkF m 1 #[.val (.int p1)] [(.int p1)])) _
    refine XS.bipush X0.here hx rfl (hb hby d12_1) ?_
    show Steps p.tables e below (s₁.setTop (mkF m 3 #[.val (.int p1)] [(.int (35 : Int32)), (.int p1)])) _
    refine XS.icmpNo X0.here hx rfl (hb hby d12_3) rfl (feq (vh0 : ¬ (p1 = (35 : Int32)))).1 ?_
    show Steps p.tables e below (s₁.setTop (mkF m 6 #[.val (.int p1)] [])) _
    refine XS.iloadN X0.here hx rfl (hb hby d12_6) rfl ?_
    show Steps p.tables e below (s₁.setTop (mkF m 7 #[.val (.int p1)] [(.int p1)])) _
    refine XS.bipush X0.here hx rfl (hb hby d12_7) ?_
    show Steps p.tables e below (s₁.setTop (mkF m 9 #[.val (.int p1)] [(.int (36 : Int32)), (.int p1)])) _
    refine XS.icmpNo X0.here hx rfl (hb hby d12_9) rfl (feq (vh1 : ¬ (p1 = (36 : Int32)))).1 ?_
    show Steps p.tables e below (s₁.setTop (mkF m 12 #[.val (.int p1)] [])) _
    refine XS.iloadN X0.here hx rfl (hb hby d12_12) rfl ?_
    show Steps p.tables e below (s₁.setTop (mkF m 13 #[.val (.int p1)] [(.int p1)])) _
    refine XS.bipush X0.here hx rfl (hb hby d12_13) ?_
    show Steps p.tables e below (s₁.setTop (mkF m 15 #[.val (.int p1)] [(.int (38 : Int32)), (.int p1)])) _
    refine XS.icmpNo X0.here hx rfl (hb hby d12_15) rfl (feq (vh2 : ¬ (p1 = (38 : Int32)))).1 ?_
    show Steps p.tables e below (s₁.setTop (mkF m 18 #[.val (.int p1)] [])) _
    refine XS.iloadN X0.here hx rfl (hb hby d12_18) rfl ?_
    show Steps p.tables e below (s₁.setTop (mkF m 19 #[.val (.int p1)] [(.int p1)])) _
    refine XS.bipush X0.here hx rfl (hb hby d12_19) ?_
    show Steps p.tables e below (s₁.setTop (mkF m 21 #[.val (.int p1)] [(.int (42 : Int32)), (.int p1)])) _
    refine XS.icmpNo X0.here hx rfl (hb hby d12_21) rfl (feq (vh3 : ¬ (p1 = (42 : Int32)))).1 ?_
    show Steps p.tables e below (s₁.setTop (mkF m 24 #[.val (.int p1)] [])) _
    refine XS.iloadN X0.here hx rfl (hb hby d12_24) rfl ?_
    show Steps p.tables e below (s₁.setTop (mkF m 25 #[.val (.int p1)] [(.int p1)])) _
    refine XS.bipush X0.here hx rfl (hb hby d12_25) ?_
    show Steps p.tables e below (s₁.setTop (mkF m 27 #[.val (.int p1)] [(.int (43 : Int32)), (.int p1)])) _
    refine XS.icmpNo X0.here hx rfl (hb hby d12_27) rfl (feq (vh4 : ¬ (p1 = (43 : Int32)))).1 ?_
    show Steps p.tables e below (s₁.setTop (mkF m 30 #[.val (.int p1)] [])) _
    refine XS.iloadN X0.here hx rfl (hb hby d12_30) rfl ?_
    show Steps p.tables e below (s₁.setTop (mkF m 31 #[.val (.int p1)] [(.int p1)])) _
    refine XS.bipush X0.here hx rfl (hb hby d12_31) ?_
    show Steps p.tables e below (s₁.setTop (mkF m 33 #[.val (.int p1)] [(.int (45 : Int32)), (.int p1)])) _
    refine XS.icmpNo X0.here hx rfl (hb hby d12_33) rfl (feq (vh5 : ¬ (p1 = (45 : Int32)))).1 ?_
    show Steps p.tables e below (s₁.setTop (mkF m 36 #[.val (.int p1)] [])) _
    refine XS.iloadN X0.here hx rfl (hb hby d12_36) rfl ?_
    show Steps p.tables e below (s₁.setTop (mkF m 37 #[.val (.int p1)] [(.int p1)])) _
    refine XS.bipush X0.here hx rfl (hb hby d12_37) ?_
    show Steps p.tables e below (s₁.setTop (mkF m 39 #[.val (.int p1)] [(.int (46 : Int32)), (.int p1)])) _
    refine XS.icmpNo X0.here hx rfl (hb hby d12_39) rfl (feq (vh6 : ¬ (p1 = (46 : Int32)))).1 ?_
    show Steps p.tables e below (s₁.setTop (mkF m 42 #[.val (.int p1)] [])) _
    refine XS.iloadN X0.here hx rfl (hb hby d12_42) rfl ?_
    show Steps p.tables e below (s₁.setTop (mkF m 43 #[.val (.int p1)] [(.int p1)])) _
    refine XS.bipush X0.here hx rfl (hb hby d12_43) ?_
    show Steps p.tables e below (s₁.setTop (mkF m 45 #[.val (.int p1)] [(.int (47 : Int32)), (.int p1)])) _
    refine XS.icmpNo X0.here hx rfl (hb hby d12_45) rfl (feq (vh7 : ¬ (p1 = (47 : Int32)))).1 ?_
    show Steps p.tables e below (s₁.setTop (mkF m 48 #[.val (.int p1)] [])) _
    refine XS.iloadN X0.here hx rfl (hb hby d12_48) rfl ?_
    show Steps p.tables e below (s₁.setTop (mkF m 49 #[.val (.int p1)] [(.int p1)])) _
    refine XS.bipush X0.here hx rfl (hb hby d12_49) ?_
    show Steps p.tables e below (s₁.setTop (mkF m 51 #[.val (.int p1)] [(.int (58 : Int32)), (.int p1)])) _
    refine XS.icmpNo X0.here hx rfl (hb hby d12_51) rfl (feq (vh8 : ¬ (p1 = (58 : Int32)))).1 ?_
    show Steps p.tables e below (s₁.setTop (mkF m 54 #[.val (.int p1)] [])) _
    refine XS.iloadN X0.here hx rfl (hb hby d12_54) rfl ?_
    show Steps p.tables e below (s₁.setTop (mkF m 55 #[.val (.int p1)] [(.int p1)])) _
    refine XS.bipush X0.here hx rfl (hb hby d12_55) ?_
    show Steps p.tables e below (s₁.setTop (mkF m 57 #[.val (.int p1)] [(.int (60 : Int32)), (.int p1)])) _
    refine XS.icmpNo X0.here hx rfl (hb hby d12_57) rfl (feq (vh9 : ¬ (p1 = (60 : Int32)))).1 ?_
    show Steps p.tables e below (s₁.setTop (mkF m 60 #[.val (.int p1)] [])) _
    refine XS.iloadN X0.here hx rfl (hb hby d12_60) rfl ?_
    show Steps p.tables e below (s₁.setTop (mkF m 61 #[.val (.int p1)] [(.int p1)])) _
    refine XS.bipush X0.here hx rfl (hb hby d12_61) ?_
    show Steps p.tables e below (s₁.setTop (mkF m 63 #[.val (.int p1)] [(.int (61 : Int32)), (.int p1)])) _
    refine XS.icmpNo X0.here hx rfl (hb hby d12_63) rfl (feq (vh10 : ¬ (p1 = (61 : Int32)))).1 ?_
    show Steps p.tables e below (s₁.setTop (mkF m 66 #[.val (.int p1)] [])) _
    refine XS.iloadN X0.here hx rfl (hb hby d12_66) rfl ?_
    show Steps p.tables e below (s₁.setTop (mkF m 67 #[.val (.int p1)] [(.int p1)])) _
    refine XS.bipush X0.here hx rfl (hb hby d12_67) ?_
    show Steps p.tables e below (s₁.setTop (mkF m 69 #[.val (.int p1)] [(.int (62 : Int32)), (.int p1)])) _
    refine XS.icmpNo X0.here hx rfl (hb hby d12_69) rfl (feq (vh11 : ¬ (p1 = (62 : Int32)))).1 ?_
    show Steps p.tables e below (s₁.setTop (mkF m 72 #[.val (.int p1)] [])) _
    refine XS.iloadN X0.here hx rfl (hb hby d12_72) rfl ?_
    show Steps p.tables e below (s₁.setTop (mkF m 73 #[.val (.int p1)] [(.int p1)])) _
    refine XS.bipush X0.here hx rfl (hb hby d12_73) ?_
    show Steps p.tables e below (s₁.setTop (mkF m 75 #[.val (.int p1)] [(.int (63 : Int32)), (.int p1)])) _
    refine XS.icmpNo X0.here hx rfl (hb hby d12_75) rfl (feq (vh12 : ¬ (p1 = (63 : Int32)))).1 ?_
    show Steps p.tables e below (s₁.setTop (mkF m 78 #[.val (.int p1)] [])) _
    refine XS.iloadN X0.here hx rfl (hb hby d12_78) rfl ?_
    show Steps p.tables e below (s₁.setTop (mkF m 79 #[.val (.int p1)] [(.int p1)])) _
    refine XS.bipush X0.here hx rfl (hb hby d12_79) ?_
    show Steps p.tables e below (s₁.setTop (mkF m 81 #[.val (.int p1)] [(.int (64 : Int32)), (.int p1)])) _
    refine XS.icmpNo X0.here hx rfl (hb hby d12_81) rfl (feq (vh13 : ¬ (p1 = (64 : Int32)))).1 ?_
    show Steps p.tables e below (s₁.setTop (mkF m 84 #[.val (.int p1)] [])) _
    refine XS.iloadN X0.here hx rfl (hb hby d12_84) rfl ?_
    show Steps p.tables e below (s₁.setTop (mkF m 85 #[.val (.int p1)] [(.int p1)])) _
    refine XS.bipush X0.here hx rfl (hb hby d12_85) ?_
    show Steps p.tables e below (s₁.setTop (mkF m 87 #[.val (.int p1)] [(.int (94 : Int32)), (.int p1)])) _
    refine XS.icmpYes X0.here hx rfl (pc0 := 87) (pc' := 102) rfl (hb hby d12_87) rfl (teq (vh14 : p1 = (94 : Int32))).1 (by decide) (by decide) ?_
    show Steps p.tables e below (s₁.setTop (mkF m 102 #[.val (.int p1)] [])) _
    refine XS.iconst X0.here hx rfl (hb hby d12_102) ?_
    show Steps p.tables e below (s₁.setTop (mkF m 103 #[.val (.int p1)] [(.int (1 : Int32))])) _
    refine XS.goto X0.here hx rfl (pc0 := 103) (pc' := 107) rfl (hb hby d12_103) (by decide) (by decide) ?_
    show Steps p.tables e below (s₁.setTop (mkF m 107 #[.val (.int p1)] [(.int (1 : Int32))])) _
    exact retN X0 hx (t := .boolean) Bd.returns (by simp) (hb hby d12_107) hr
  · show QI Z (own_ref p1) h0 n0 _ s₁.heap _
    rw [e0]
    exact ⟨congrArg (fun z => some (Value.int z)) (Eq.symm ((if_neg vh0).trans ((if_neg vh1).trans ((if_neg vh2).trans ((if_neg vh3).trans ((if_neg vh4).trans ((if_neg vh5).trans ((if_neg vh6).trans ((if_neg vh7).trans ((if_neg vh8).trans ((if_neg vh9).trans ((if_neg vh10).trans ((if_neg vh11).trans ((if_neg vh12).trans ((if_neg vh13).trans (if_pos vh14)))))))))))))))), N0, rfl⟩
theorem d12_90 : decode method_3_code 90 = .ok (.iload_n 0, 1) := by decide +kernel
theorem d12_91 : decode method_3_code 91 = .ok (.bipush 126, 2) := by decide +kernel
theorem d12_93 : decode method_3_code 93 = .ok (.if_icmp .eq 9, 3) := by decide +kernel
set_option maxRecDepth 65536 in
set_option maxHeartbeats 40000000 in
theorem rmRf_15 (l : Launch) (Z : State) (a0 : Array Value) (hw : ∀ d ∈ tables_1, d.before a0 Z = true) (ws : List Jvm.Cond) (p1 : Int32) (h0 : Heap) (n0 : Nat) (Z0 : n0 ≤ h0.size) (vh0 : ¬ (p1 = (35 : Int32))) (vh1 : ¬ (p1 = (36 : Int32))) (vh2 : ¬ (p1 = (38 : Int32))) (vh3 : ¬ (p1 = (42 : Int32))) (vh4 : ¬ (p1 = (43 : Int32))) (vh5 : ¬ (p1 = (45 : Int32))) (vh6 : ¬ (p1 = (46 : Int32))) (vh7 : ¬ (p1 = (47 : Int32))) (vh8 : ¬ (p1 = (58 : Int32))) (vh9 : ¬ (p1 = (60 : Int32))) (vh10 : ¬ (p1 = (61 : Int32))) (vh11 : ¬ (p1 = (62 : Int32))) (vh12 : ¬ (p1 = (63 : Int32))) (vh13 : ¬ (p1 = (64 : Int32))) (vh14 : ¬ (p1 = (94 : Int32))) (vh15 : p1 = (126 : Int32)) :
    MetFree l (⟨"cohort/LexerIsSymbolCharPinLaw", "ref", "(I)Z"⟩ : MethodName) (head1 (Jvm.Cond.code (⟨"cohort/LexerIsSymbolCharPinLaw", "ref", "(I)Z"⟩ : MethodName) method_3_code 1 (some .boolean) :: ws) ({ frames := 0, cells := 0, slots := 0, locals := 0 } : Room)) (fun a U => a = #[(.int p1)] ∧ Z.Warmed39 U.vm ∧ U.heap = h0) (fun _ _ _ _ _ => True) (fun _ U o U' => ∃ v L, o = .returned v ∧ QI Z (own_ref p1) h0 n0 v U'.heap L ∧ FrameEnd U o U' L ({ frames := 0, cells := 0, slots := 0, locals := 0 } : Room).cells ({ frames := 0, cells := 0, slots := 0, locals := 0 } : Room).slots) := by
  refine MetFree.of_bodySF (plainFor_of_name pn_12) hisR ?_
  intro p e s m args below meth c s₁ Bd hml0 hP hK
  obtain ⟨rfl, hZ, hh⟩ := hP
  have hx := Bd.exec
  have hby := Bd.bytes
  have hml : c.maxLocals = 1 := hml0
  have hown : s.vm.findClass "cohort/LexerIsSymbolCharPinLaw" = some m.cls := findClass_of_methodNamed Bd.named
  have hnm := (name_of_methodNamed Bd.named Bd.method).1
  have X0 : Stand p l e ({ frames := 0, cells := 0, slots := 0, locals := 0 } : Room) s m #[(.int p1)] below meth c s₁ [] 0 0 := Stand.of_body Bd
  have e0 : s₁.heap = h0 := by rw [← hh, Bd.state]; rfl
  have N0 := Fr.nil n0
  have pre0 : ∀ tz, Steps p.tables e below (s₁.setTop (mkF m 0 #[.val (.int p1)] [])) tz → Steps p.tables e below (s₁.setTop (entryFrame m #[(.int p1)] 1)) tz := fun tz kz => castTop (ef_12 m p1) kz
  obtain ⟨fs, hr, hrun, hended, hW, hsame⟩ := X0.leave (v := some (.int (1 : Int32))) (fun h => by rw [Bd.returns] at h; cases h)
  refine ⟨_, _, pre0 _ ?_, hrun, hended, _, _, rfl, ?_, ⟨_, rfl⟩, hW, hsame.mono (by decide) (by decide)⟩
  · show Steps p.tables e below (s₁.setTop (mkF m 0 #[.val (.int p1)] [])) _
    refine XS.iloadN X0.here hx rfl (hb hby d12_0) rfl ?_
    show Steps p.tables e below (s₁.setTop (mkF m 1 #[.val (.int p1)] [(.int p1)])) _
    refine XS.bipush X0.here hx rfl (hb hby d12_1) ?_
    show Steps p.tables e below (s₁.setTop (mkF m 3 #[.val (.int p1)] [(.int (35 : Int32)), (.int p1)])) _
    refine XS.icmpNo X0.here hx rfl (hb hby d12_3) rfl (feq (vh0 : ¬ (p1 = (35 : Int32)))).1 ?_
    show Steps p.tables e below (s₁.setTop (mkF m 6 #[.val (.int p1)] [])) _
    refine XS.iloadN X0.here hx rfl (hb hby d12_6) rfl ?_
    show Steps p.tables e below (s₁.setTop (mkF m 7 #[.val (.int p1)] [(.int p1)])) _
    refine XS.bipush X0.here hx rfl (hb hby d12_7) ?_
    show Steps p.tables e below (s₁.setTop (mkF m 9 #[.val (.int p1)] [(.int (36 : Int32)), (.int p1)])) _
    refine XS.icmpNo X0.here hx rfl (hb hby d12_9) rfl (feq (vh1 : ¬ (p1 = (36 : Int32)))).1 ?_
    show Steps p.tables e below (s₁.setTop (mkF m 12 #[.val (.int p1)] [])) _
    refine XS.iloadN X0.here hx rfl (hb hby d12_12) rfl ?_
    show Steps p.tables e below (s₁.setTop (mkF m 13 #[.val (.int p1)] [(.int p1)])) _
    refine XS.bipush X0.here hx rfl (hb hby d12_13) ?_
    show Steps p.tables e below (s₁.setTop (mkF m 15 #[.val (.int p1)] [(.int (38 : Int32)), (.int p1)])) _
    refine XS.icmpNo X0.here hx rfl (hb hby d12_15) rfl (feq (vh2 : ¬ (p1 = (38 : Int32)))).1 ?_
    show Steps p.tables e below (s₁.setTop (mkF m 18 #[.val (.int p1)] [])) _
    refine XS.iloadN X0.here hx rfl (hb hby d12_18) rfl ?_
    show Steps p.tables e below (s₁.setTop (mkF m 19 #[.val (.int p1)] [(.int p1)])) _
    refine XS.bipush X0.here hx rfl (hb hby d12_19) ?_
    show Steps p.tables e below (s₁.setTop (mkF m 21 #[.val (.int p1)] [(.int (42 : Int32)), (.int p1)])) _
    refine XS.icmpNo X0.here hx rfl (hb hby d12_21) rfl (feq (vh3 : ¬ (p1 = (42 : Int32)))).1 ?_
    show Steps p.tables e below (s₁.setTop (mkF m 24 #[.val (.int p1)] [])) _
    refine XS.iloadN X0.here hx rfl (hb hby d12_24) rfl ?_
    show Steps p.tables e below (s₁.setTop (mkF m 25 #[.val (.int p1)] [(.int p1)])) _
    refine XS.bipush X0.here hx rfl (hb hby d12_25) ?_
    show Steps p.tables e below (s₁.setTop (mkF m 27 #[.val (.int p1)] [(.int (43 : Int32)), (.int p1)])) _
    refine XS.icmpNo X0.here hx rfl (hb hby d12_27) rfl (feq (vh4 : ¬ (p1 = (43 : Int32)))).1 ?_
    show Steps p.tables e below (s₁.setTop (mkF m 30 #[.val (.int p1)] [])) _
    refine XS.iloadN X0.here hx rfl (hb hby d12_30) rfl ?_
    show Steps p.tables e below (s₁.setTop (mkF m 31 #[.val (.int p1)] [(.int p1)])) _
    refine XS.bipush X0.here hx rfl (hb hby d12_31) ?_
    show Steps p.tables e below (s₁.setTop (mkF m 33 #[.val (.int p1)] [(.int (45 : Int32)), (.int p1)])) _
    refine XS.icmpNo X0.here hx rfl (hb hby d12_33) rfl (feq (vh5 : ¬ (p1 = (45 : Int32)))).1 ?_
    show Steps p.tables e below (s₁.setTop (mkF m 36 #[.val (.int p1)] [])) _
    refine XS.iloadN X0.here hx rfl (hb hby d12_36) rfl ?_
    show Steps p.tables e below (s₁.setTop (mkF m 37 #[.val (.int p1)] [(.int p1)])) _
    refine XS.bipush X0.here hx rfl (hb hby d12_37) ?_
    show Steps p.tables e below (s₁.setTop (mkF m 39 #[.val (.int p1)] [(.int (46 : Int32)), (.int p1)])) _
    refine XS.icmpNo X0.here hx rfl (hb hby d12_39) rfl (feq (vh6 : ¬ (p1 = (46 : Int32)))).1 ?_
    show Steps p.tables e below (s₁.setTop (mkF m 42 #[.val (.int p1)] [])) _
    refine XS.iloadN X0.here hx rfl (hb hby d12_42) rfl ?_
    show Steps p.tables e below (s₁.setTop (mkF m 43 #[.val (.int p1)] [(.int p1)])) _
    refine XS.bipush X0.here hx rfl (hb hby d12_43) ?_
    show Steps p.tables e below (s₁.setTop (mkF m 45 #[.val (.int p1)] [(.int (47 : Int32)), (.int p1)])) _
    refine XS.icmpNo X0.here hx rfl (hb hby d12_45) rfl (feq (vh7 : ¬ (p1 = (47 : Int32)))).1 ?_
    show Steps p.tables e below (s₁.setTop (mkF m 48 #[.val (.int p1)] [])) _
    refine XS.iloadN X0.here hx rfl (hb hby d12_48) rfl ?_
    show Steps p.tables e below (s₁.setTop (mkF m 49 #[.val (.int p1)] [(.int p1)])) _
    refine XS.bipush X0.here hx rfl (hb hby d12_49) ?_
    show Steps p.tables e below (s₁.setTop (mkF m 51 #[.val (.int p1)] [(.int (58 : Int32)), (.int p1)])) _
    refine XS.icmpNo X0.here hx rfl (hb hby d12_51) rfl (feq (vh8 : ¬ (p1 = (58 : Int32)))).1 ?_
    show Steps p.tables e below (s₁.setTop (mkF m 54 #[.val (.int p1)] [])) _
    refine XS.iloadN X0.here hx rfl (hb hby d12_54) rfl ?_
    show Steps p.tables e below (s₁.setTop (mkF m 55 #[.val (.int p1)] [(.int p1)])) _
    refine XS.bipush X0.here hx rfl (hb hby d12_55) ?_
    show Steps p.tables e below (s₁.setTop (mkF m 57 #[.val (.int p1)] [(.int (60 : Int32)), (.int p1)])) _
    refine XS.icmpNo X0.here hx rfl (hb hby d12_57) rfl (feq (vh9 : ¬ (p1 = (60 : Int32)))).1 ?_
    show Steps p.tables e below (s₁.setTop (mkF m 60 #[.val (.int p1)] [])) _
    refine XS.iloadN X0.here hx rfl (hb hby d12_60) rfl ?_
    show Steps p.tables e below (s₁.setTop (mkF m 61 #[.val (.int p1)] [(.int p1)])) _
    refine XS.bipush X0.here hx rfl (hb hby d12_61) ?_
    show Steps p.tables e below (s₁.setTop (mkF m 63 #[.val (.int p1)] [(.int (61 : Int32)), (.int p1)])) _
    refine XS.icmpNo X0.here hx rfl (hb hby d12_63) rfl (feq (vh10 : ¬ (p1 = (61 : Int32)))).1 ?_
    show Steps p.tables e below (s₁.setTop (mkF m 66 #[.val (.int p1)] [])) _
    refine XS.iloadN X0.here hx rfl (hb hby d12_66) rfl ?_
    show Steps p.tables e below (s₁.setTop (mkF m 67 #[.val (.int p1)] [(.int p1)])) _
    refine XS.bipush X0.here hx rfl (hb hby d12_67) ?_
    show Steps p.tables e below (s₁.setTop (mkF m 69 #[.val (.int p1)] [(.int (62 : Int32)), (.int p1)])) _
    refine XS.icmpNo X0.here hx rfl (hb hby d12_69) rfl (feq (vh11 : ¬ (p1 = (62 : Int32)))).1 ?_
    show Steps p.tables e below (s₁.setTop (mkF m 72 #[.val (.int p1)] [])) _
    refine XS.iloadN X0.here hx rfl (hb hby d12_72) rfl ?_
    show Steps p.tables e below (s₁.setTop (mkF m 73 #[.val (.int p1)] [(.int p1)])) _
    refine XS.bipush X0.here hx rfl (hb hby d12_73) ?_
    show Steps p.tables e below (s₁.setTop (mkF m 75 #[.val (.int p1)] [(.int (63 : Int32)), (.int p1)])) _
    refine XS.icmpNo X0.here hx rfl (hb hby d12_75) rfl (feq (vh12 : ¬ (p1 = (63 : Int32)))).1 ?_
    show Steps p.tables e below (s₁.setTop (mkF m 78 #[.val (.int p1)] [])) _
    refine XS.iloadN X0.here hx rfl (hb hby d12_78) rfl ?_
    show Steps p.tables e below (s₁.setTop (mkF m 79 #[.val (.int p1)] [(.int p1)])) _
    refine XS.bipush X0.here hx rfl (hb hby d12_79) ?_
    show Steps p.tables e below (s₁.setTop (mkF m 81 #[.val (.int p1)] [(.int (64 : Int32)), (.int p1)])) _
    refine XS.icmpNo X0.here hx rfl (hb hby d12_81) rfl (feq (vh13 : ¬ (p1 = (64 : Int32)))).1 ?_
    show Steps p.tables e below (s₁.setTop (mkF m 84 #[.val (.int p1)] [])) _
    refine XS.iloadN X0.here hx rfl (hb hby d12_84) rfl ?_
    show Steps p.tables e below (s₁.setTop (mkF m 85 #[.val (.int p1)] [(.int p1)])) _
    refine XS.bipush X0.here hx rfl (hb hby d12_85) ?_
    show Steps p.tables e below (s₁.setTop (mkF m 87 #[.val (.int p1)] [(.int (94 : Int32)), (.int p1)])) _
    refine XS.icmpNo X0.here hx rfl (hb hby d12_87) rfl (feq (vh14 : ¬ (p1 = (94 : Int32)))).1 ?_
    show Steps p.tables e below (s₁.setTop (mkF m 90 #[.val (.int p1)] [])) _
    refine XS.iloadN X0.here hx rfl (hb hby d12_90) rfl ?_
    show Steps p.tables e below (s₁.setTop (mkF m 91 #[.val (.int p1)] [(.int p1)])) _
    refine XS.bipush X0.here hx rfl (hb hby d12_91) ?_
    show Steps p.tables e below (s₁.setTop (mkF m 93 #[.val (.int p1)] [(.int (126 : Int32)), (.int p1)])) _
    refine XS.icmpYes X0.here hx rfl (pc0 := 93) (pc' := 102) rfl (hb hby d12_93) rfl (teq (vh15 : p1 = (126 : Int32))).1 (by decide) (by decide) ?_
    show Steps p.tables e below (s₁.setTop (mkF m 102 #[.val (.int p1)] [])) _
    refine XS.iconst X0.here hx rfl (hb hby d12_102) ?_
    show Steps p.tables e below (s₁.setTop (mkF m 103 #[.val (.int p1)] [(.int (1 : Int32))])) _
    refine XS.goto X0.here hx rfl (pc0 := 103) (pc' := 107) rfl (hb hby d12_103) (by decide) (by decide) ?_
    show Steps p.tables e below (s₁.setTop (mkF m 107 #[.val (.int p1)] [(.int (1 : Int32))])) _
    exact retN X0 hx (t := .boolean) Bd.returns (by simp) (hb hby d12_107) hr
  · show QI Z (own_ref p1) h0 n0 _ s₁.heap _
    rw [e0]
    exact ⟨congrArg (fun z => some (Value.int z)) (Eq.symm ((if_neg vh0).trans ((if_neg vh1).trans ((if_neg vh2).trans ((if_neg vh3).trans ((if_neg vh4).trans ((if_neg vh5).trans ((if_neg vh6).trans ((if_neg vh7).trans ((if_neg vh8).trans ((if_neg vh9).trans ((if_neg vh10).trans ((if_neg vh11).trans ((if_neg vh12).trans ((if_neg vh13).trans ((if_neg vh14).trans (if_pos vh15))))))))))))))))), N0, rfl⟩
theorem d12_96 : decode method_3_code 96 = .ok (.iload_n 0, 1) := by decide +kernel
theorem d12_97 : decode method_3_code 97 = .ok (.bipush 92, 2) := by decide +kernel
theorem d12_99 : decode method_3_code 99 = .ok (.if_icmp .ne 7, 3) := by decide +kernel
set_option maxRecDepth 65536 in
set_option maxHeartbeats 40000000 in
theorem rmRf_16 (l : Launch) (Z : State) (a0 : Array Value) (hw : ∀ d ∈ tables_1, d.before a0 Z = true) (ws : List Jvm.Cond) (p1 : Int32) (h0 : Heap) (n0 : Nat) (Z0 : n0 ≤ h0.size) (vh0 : ¬ (p1 = (35 : Int32))) (vh1 : ¬ (p1 = (36 : Int32))) (vh2 : ¬ (p1 = (38 : Int32))) (vh3 : ¬ (p1 = (42 : Int32))) (vh4 : ¬ (p1 = (43 : Int32))) (vh5 : ¬ (p1 = (45 : Int32))) (vh6 : ¬ (p1 = (46 : Int32))) (vh7 : ¬ (p1 = (47 : Int32))) (vh8 : ¬ (p1 = (58 : Int32))) (vh9 : ¬ (p1 = (60 : Int32))) (vh10 : ¬ (p1 = (61 : Int32))) (vh11 : ¬ (p1 = (62 : Int32))) (vh12 : ¬ (p1 = (63 : Int32))) (vh13 : ¬ (p1 = (64 : Int32))) (vh14 : ¬ (p1 = (94 : Int32))) (vh15 : ¬ (p1 = (126 : Int32))) (vh16 : p1 = (92 : Int32)) :
    MetFree l (⟨"cohort/LexerIsSymbolCharPinLaw", "ref", "(I)Z"⟩ : MethodName) (head1 (Jvm.Cond.code (⟨"cohort/LexerIsSymbolCharPinLaw", "ref", "(I)Z"⟩ : MethodName) method_3_code 1 (some .boolean) :: ws) ({ frames := 0, cells := 0, slots := 0, locals := 0 } : Room)) (fun a U => a = #[(.int p1)] ∧ Z.Warmed39 U.vm ∧ U.heap = h0) (fun _ _ _ _ _ => True) (fun _ U o U' => ∃ v L, o = .returned v ∧ QI Z (own_ref p1) h0 n0 v U'.heap L ∧ FrameEnd U o U' L ({ frames := 0, cells := 0, slots := 0, locals := 0 } : Room).cells ({ frames := 0, cells := 0, slots := 0, locals := 0 } : Room).slots) := by
  refine MetFree.of_bodySF (plainFor_of_name pn_12) hisR ?_
  intro p e s m args below meth c s₁ Bd hml0 hP hK
  obtain ⟨rfl, hZ, hh⟩ := hP
  have hx := Bd.exec
  have hby := Bd.bytes
  have hml : c.maxLocals = 1 := hml0
  have hown : s.vm.findClass "cohort/LexerIsSymbolCharPinLaw" = some m.cls := findClass_of_methodNamed Bd.named
  have hnm := (name_of_methodNamed Bd.named Bd.method).1
  have X0 : Stand p l e ({ frames := 0, cells := 0, slots := 0, locals := 0 } : Room) s m #[(.int p1)] below meth c s₁ [] 0 0 := Stand.of_body Bd
  have e0 : s₁.heap = h0 := by rw [← hh, Bd.state]; rfl
  have N0 := Fr.nil n0
  have pre0 : ∀ tz, Steps p.tables e below (s₁.setTop (mkF m 0 #[.val (.int p1)] [])) tz → Steps p.tables e below (s₁.setTop (entryFrame m #[(.int p1)] 1)) tz := fun tz kz => castTop (ef_12 m p1) kz
  obtain ⟨fs, hr, hrun, hended, hW, hsame⟩ := X0.leave (v := some (.int (1 : Int32))) (fun h => by rw [Bd.returns] at h; cases h)
  refine ⟨_, _, pre0 _ ?_, hrun, hended, _, _, rfl, ?_, ⟨_, rfl⟩, hW, hsame.mono (by decide) (by decide)⟩
  · show Steps p.tables e below (s₁.setTop (mkF m 0 #[.val (.int p1)] [])) _
    refine XS.iloadN X0.here hx rfl (hb hby d12_0) rfl ?_
    show Steps p.tables e below (s₁.setTop (mkF m 1 #[.val (.int p1)] [(.int p1)])) _
    refine XS.bipush X0.here hx rfl (hb hby d12_1) ?_
    show Steps p.tables e below (s₁.setTop (mkF m 3 #[.val (.int p1)] [(.int (35 : Int32)), (.int p1)])) _
    refine XS.icmpNo X0.here hx rfl (hb hby d12_3) rfl (feq (vh0 : ¬ (p1 = (35 : Int32)))).1 ?_
    show Steps p.tables e below (s₁.setTop (mkF m 6 #[.val (.int p1)] [])) _
    refine XS.iloadN X0.here hx rfl (hb hby d12_6) rfl ?_
    show Steps p.tables e below (s₁.setTop (mkF m 7 #[.val (.int p1)] [(.int p1)])) _
    refine XS.bipush X0.here hx rfl (hb hby d12_7) ?_
    show Steps p.tables e below (s₁.setTop (mkF m 9 #[.val (.int p1)] [(.int (36 : Int32)), (.int p1)])) _
    refine XS.icmpNo X0.here hx rfl (hb hby d12_9) rfl (feq (vh1 : ¬ (p1 = (36 : Int32)))).1 ?_
    show Steps p.tables e below (s₁.setTop (mkF m 12 #[.val (.int p1)] [])) _
    refine XS.iloadN X0.here hx rfl (hb hby d12_12) rfl ?_
    show Steps p.tables e below (s₁.setTop (mkF m 13 #[.val (.int p1)] [(.int p1)])) _
    refine XS.bipush X0.here hx rfl (hb hby d12_13) ?_
    show Steps p.tables e below (s₁.setTop (mkF m 15 #[.val (.int p1)] [(.int (38 : Int32)), (.int p1)])) _
    refine XS.icmpNo X0.here hx rfl (hb hby d12_15) rfl (feq (vh2 : ¬ (p1 = (38 : Int32)))).1 ?_
    show Steps p.tables e below (s₁.setTop (mkF m 18 #[.val (.int p1)] [])) _
    refine XS.iloadN X0.here hx rfl (hb hby d12_18) rfl ?_
    show Steps p.tables e below (s₁.setTop (mkF m 19 #[.val (.int p1)] [(.int p1)])) _
    refine XS.bipush X0.here hx rfl (hb hby d12_19) ?_
    show Steps p.tables e below (s₁.setTop (mkF m 21 #[.val (.int p1)] [(.int (42 : Int32)), (.int p1)])) _
    refine XS.icmpNo X0.here hx rfl (hb hby d12_21) rfl (feq (vh3 : ¬ (p1 = (42 : Int32)))).1 ?_
    show Steps p.tables e below (s₁.setTop (mkF m 24 #[.val (.int p1)] [])) _
    refine XS.iloadN X0.here hx rfl (hb hby d12_24) rfl ?_
    show Steps p.tables e below (s₁.setTop (mkF m 25 #[.val (.int p1)] [(.int p1)])) _
    refine XS.bipush X0.here hx rfl (hb hby d12_25) ?_
    show Steps p.tables e below (s₁.setTop (mkF m 27 #[.val (.int p1)] [(.int (43 : Int32)), (.int p1)])) _
    refine XS.icmpNo X0.here hx rfl (hb hby d12_27) rfl (feq (vh4 : ¬ (p1 = (43 : Int32)))).1 ?_
    show Steps p.tables e below (s₁.setTop (mkF m 30 #[.val (.int p1)] [])) _
    refine XS.iloadN X0.here hx rfl (hb hby d12_30) rfl ?_
    show Steps p.tables e below (s₁.setTop (mkF m 31 #[.val (.int p1)] [(.int p1)])) _
    refine XS.bipush X0.here hx rfl (hb hby d12_31) ?_
    show Steps p.tables e below (s₁.setTop (mkF m 33 #[.val (.int p1)] [(.int (45 : Int32)), (.int p1)])) _
    refine XS.icmpNo X0.here hx rfl (hb hby d12_33) rfl (feq (vh5 : ¬ (p1 = (45 : Int32)))).1 ?_
    show Steps p.tables e below (s₁.setTop (mkF m 36 #[.val (.int p1)] [])) _
    refine XS.iloadN X0.here hx rfl (hb hby d12_36) rfl ?_
    show Steps p.tables e below (s₁.setTop (mkF m 37 #[.val (.int p1)] [(.int p1)])) _
    refine XS.bipush X0.here hx rfl (hb hby d12_37) ?_
    show Steps p.tables e below (s₁.setTop (mkF m 39 #[.val (.int p1)] [(.int (46 : Int32)), (.int p1)])) _
    refine XS.icmpNo X0.here hx rfl (hb hby d12_39) rfl (feq (vh6 : ¬ (p1 = (46 : Int32)))).1 ?_
    show Steps p.tables e below (s₁.setTop (mkF m 42 #[.val (.int p1)] [])) _
    refine XS.iloadN X0.here hx rfl (hb hby d12_42) rfl ?_
    show Steps p.tables e below (s₁.setTop (mkF m 43 #[.val (.int p1)] [(.int p1)])) _
    refine XS.bipush X0.here hx rfl (hb hby d12_43) ?_
    show Steps p.tables e below (s₁.setTop (mkF m 45 #[.val (.int p1)] [(.int (47 : Int32)), (.int p1)])) _
    refine XS.icmpNo X0.here hx rfl (hb hby d12_45) rfl (feq (vh7 : ¬ (p1 = (47 : Int32)))).1 ?_
    show Steps p.tables e below (s₁.setTop (mkF m 48 #[.val (.int p1)] [])) _
    refine XS.iloadN X0.here hx rfl (hb hby d12_48) rfl ?_
    show Steps p.tables e below (s₁.setTop (mkF m 49 #[.val (.int p1)] [(.int p1)])) _
    refine XS.bipush X0.here hx rfl (hb hby d12_49) ?_
    show Steps p.tables e below (s₁.setTop (mkF m 51 #[.val (.int p1)] [(.int (58 : Int32)), (.int p1)])) _
    refine XS.icmpNo X0.here hx rfl (hb hby d12_51) rfl (feq (vh8 : ¬ (p1 = (58 : Int32)))).1 ?_
    show Steps p.tables e below (s₁.setTop (mkF m 54 #[.val (.int p1)] [])) _
    refine XS.iloadN X0.here hx rfl (hb hby d12_54) rfl ?_
    show Steps p.tables e below (s₁.setTop (mkF m 55 #[.val (.int p1)] [(.int p1)])) _
    refine XS.bipush X0.here hx rfl (hb hby d12_55) ?_
    show Steps p.tables e below (s₁.setTop (mkF m 57 #[.val (.int p1)] [(.int (60 : Int32)), (.int p1)])) _
    refine XS.icmpNo X0.here hx rfl (hb hby d12_57) rfl (feq (vh9 : ¬ (p1 = (60 : Int32)))).1 ?_
    show Steps p.tables e below (s₁.setTop (mkF m 60 #[.val (.int p1)] [])) _
    refine XS.iloadN X0.here hx rfl (hb hby d12_60) rfl ?_
    show Steps p.tables e below (s₁.setTop (mkF m 61 #[.val (.int p1)] [(.int p1)])) _
    refine XS.bipush X0.here hx rfl (hb hby d12_61) ?_
    show Steps p.tables e below (s₁.setTop (mkF m 63 #[.val (.int p1)] [(.int (61 : Int32)), (.int p1)])) _
    refine XS.icmpNo X0.here hx rfl (hb hby d12_63) rfl (feq (vh10 : ¬ (p1 = (61 : Int32)))).1 ?_
    show Steps p.tables e below (s₁.setTop (mkF m 66 #[.val (.int p1)] [])) _
    refine XS.iloadN X0.here hx rfl (hb hby d12_66) rfl ?_
    show Steps p.tables e below (s₁.setTop (mkF m 67 #[.val (.int p1)] [(.int p1)])) _
    refine XS.bipush X0.here hx rfl (hb hby d12_67) ?_
    show Steps p.tables e below (s₁.setTop (mkF m 69 #[.val (.int p1)] [(.int (62 : Int32)), (.int p1)])) _
    refine XS.icmpNo X0.here hx rfl (hb hby d12_69) rfl (feq (vh11 : ¬ (p1 = (62 : Int32)))).1 ?_
    show Steps p.tables e below (s₁.setTop (mkF m 72 #[.val (.int p1)] [])) _
    refine XS.iloadN X0.here hx rfl (hb hby d12_72) rfl ?_
    show Steps p.tables e below (s₁.setTop (mkF m 73 #[.val (.int p1)] [(.int p1)])) _
    refine XS.bipush X0.here hx rfl (hb hby d12_73) ?_
    show Steps p.tables e below (s₁.setTop (mkF m 75 #[.val (.int p1)] [(.int (63 : Int32)), (.int p1)])) _
    refine XS.icmpNo X0.here hx rfl (hb hby d12_75) rfl (feq (vh12 : ¬ (p1 = (63 : Int32)))).1 ?_
    show Steps p.tables e below (s₁.setTop (mkF m 78 #[.val (.int p1)] [])) _
    refine XS.iloadN X0.here hx rfl (hb hby d12_78) rfl ?_
    show Steps p.tables e below (s₁.setTop (mkF m 79 #[.val (.int p1)] [(.int p1)])) _
    refine XS.bipush X0.here hx rfl (hb hby d12_79) ?_
    show Steps p.tables e below (s₁.setTop (mkF m 81 #[.val (.int p1)] [(.int (64 : Int32)), (.int p1)])) _
    refine XS.icmpNo X0.here hx rfl (hb hby d12_81) rfl (feq (vh13 : ¬ (p1 = (64 : Int32)))).1 ?_
    show Steps p.tables e below (s₁.setTop (mkF m 84 #[.val (.int p1)] [])) _
    refine XS.iloadN X0.here hx rfl (hb hby d12_84) rfl ?_
    show Steps p.tables e below (s₁.setTop (mkF m 85 #[.val (.int p1)] [(.int p1)])) _
    refine XS.bipush X0.here hx rfl (hb hby d12_85) ?_
    show Steps p.tables e below (s₁.setTop (mkF m 87 #[.val (.int p1)] [(.int (94 : Int32)), (.int p1)])) _
    refine XS.icmpNo X0.here hx rfl (hb hby d12_87) rfl (feq (vh14 : ¬ (p1 = (94 : Int32)))).1 ?_
    show Steps p.tables e below (s₁.setTop (mkF m 90 #[.val (.int p1)] [])) _
    refine XS.iloadN X0.here hx rfl (hb hby d12_90) rfl ?_
    show Steps p.tables e below (s₁.setTop (mkF m 91 #[.val (.int p1)] [(.int p1)])) _
    refine XS.bipush X0.here hx rfl (hb hby d12_91) ?_
    show Steps p.tables e below (s₁.setTop (mkF m 93 #[.val (.int p1)] [(.int (126 : Int32)), (.int p1)])) _
    refine XS.icmpNo X0.here hx rfl (hb hby d12_93) rfl (feq (vh15 : ¬ (p1 = (126 : Int32)))).1 ?_
    show Steps p.tables e below (s₁.setTop (mkF m 96 #[.val (.int p1)] [])) _
    refine XS.iloadN X0.here hx rfl (hb hby d12_96) rfl ?_
    show Steps p.tables e below (s₁.setTop (mkF m 97 #[.val (.int p1)] [(.int p1)])) _
    refine XS.bipush X0.here hx rfl (hb hby d12_97) ?_
    show Steps p.tables e below (s₁.setTop (mkF m 99 #[.val (.int p1)] [(.int (92 : Int32)), (.int p1)])) _
    refine XS.icmpNo X0.here hx rfl (hb hby d12_99) rfl (teq (vh16 : p1 = (92 : Int32))).2 ?_
    show Steps p.tables e below (s₁.setTop (mkF m 102 #[.val (.int p1)] [])) _
    refine XS.iconst X0.here hx rfl (hb hby d12_102) ?_
    show Steps p.tables e below (s₁.setTop (mkF m 103 #[.val (.int p1)] [(.int (1 : Int32))])) _
    refine XS.goto X0.here hx rfl (pc0 := 103) (pc' := 107) rfl (hb hby d12_103) (by decide) (by decide) ?_
    show Steps p.tables e below (s₁.setTop (mkF m 107 #[.val (.int p1)] [(.int (1 : Int32))])) _
    exact retN X0 hx (t := .boolean) Bd.returns (by simp) (hb hby d12_107) hr
  · show QI Z (own_ref p1) h0 n0 _ s₁.heap _
    rw [e0]
    exact ⟨congrArg (fun z => some (Value.int z)) (Eq.symm ((if_neg vh0).trans ((if_neg vh1).trans ((if_neg vh2).trans ((if_neg vh3).trans ((if_neg vh4).trans ((if_neg vh5).trans ((if_neg vh6).trans ((if_neg vh7).trans ((if_neg vh8).trans ((if_neg vh9).trans ((if_neg vh10).trans ((if_neg vh11).trans ((if_neg vh12).trans ((if_neg vh13).trans ((if_neg vh14).trans ((if_neg vh15).trans (if_pos vh16)))))))))))))))))), N0, rfl⟩
theorem d12_106 : decode method_3_code 106 = .ok (.iconst 0, 1) := by decide +kernel
set_option maxRecDepth 65536 in
set_option maxHeartbeats 40000000 in
theorem rmRf_17 (l : Launch) (Z : State) (a0 : Array Value) (hw : ∀ d ∈ tables_1, d.before a0 Z = true) (ws : List Jvm.Cond) (p1 : Int32) (h0 : Heap) (n0 : Nat) (Z0 : n0 ≤ h0.size) (vh0 : ¬ (p1 = (35 : Int32))) (vh1 : ¬ (p1 = (36 : Int32))) (vh2 : ¬ (p1 = (38 : Int32))) (vh3 : ¬ (p1 = (42 : Int32))) (vh4 : ¬ (p1 = (43 : Int32))) (vh5 : ¬ (p1 = (45 : Int32))) (vh6 : ¬ (p1 = (46 : Int32))) (vh7 : ¬ (p1 = (47 : Int32))) (vh8 : ¬ (p1 = (58 : Int32))) (vh9 : ¬ (p1 = (60 : Int32))) (vh10 : ¬ (p1 = (61 : Int32))) (vh11 : ¬ (p1 = (62 : Int32))) (vh12 : ¬ (p1 = (63 : Int32))) (vh13 : ¬ (p1 = (64 : Int32))) (vh14 : ¬ (p1 = (94 : Int32))) (vh15 : ¬ (p1 = (126 : Int32))) (vh16 : ¬ (p1 = (92 : Int32))) :
    MetFree l (⟨"cohort/LexerIsSymbolCharPinLaw", "ref", "(I)Z"⟩ : MethodName) (head1 (Jvm.Cond.code (⟨"cohort/LexerIsSymbolCharPinLaw", "ref", "(I)Z"⟩ : MethodName) method_3_code 1 (some .boolean) :: ws) ({ frames := 0, cells := 0, slots := 0, locals := 0 } : Room)) (fun a U => a = #[(.int p1)] ∧ Z.Warmed39 U.vm ∧ U.heap = h0) (fun _ _ _ _ _ => True) (fun _ U o U' => ∃ v L, o = .returned v ∧ QI Z (own_ref p1) h0 n0 v U'.heap L ∧ FrameEnd U o U' L ({ frames := 0, cells := 0, slots := 0, locals := 0 } : Room).cells ({ frames := 0, cells := 0, slots := 0, locals := 0 } : Room).slots) := by
  refine MetFree.of_bodySF (plainFor_of_name pn_12) hisR ?_
  intro p e s m args below meth c s₁ Bd hml0 hP hK
  obtain ⟨rfl, hZ, hh⟩ := hP
  have hx := Bd.exec
  have hby := Bd.bytes
  have hml : c.maxLocals = 1 := hml0
  have hown : s.vm.findClass "cohort/LexerIsSymbolCharPinLaw" = some m.cls := findClass_of_methodNamed Bd.named
  have hnm := (name_of_methodNamed Bd.named Bd.method).1
  have X0 : Stand p l e ({ frames := 0, cells := 0, slots := 0, locals := 0 } : Room) s m #[(.int p1)] below meth c s₁ [] 0 0 := Stand.of_body Bd
  have e0 : s₁.heap = h0 := by rw [← hh, Bd.state]; rfl
  have N0 := Fr.nil n0
  have pre0 : ∀ tz, Steps p.tables e below (s₁.setTop (mkF m 0 #[.val (.int p1)] [])) tz → Steps p.tables e below (s₁.setTop (entryFrame m #[(.int p1)] 1)) tz := fun tz kz => castTop (ef_12 m p1) kz
  obtain ⟨fs, hr, hrun, hended, hW, hsame⟩ := X0.leave (v := some (.int (0 : Int32))) (fun h => by rw [Bd.returns] at h; cases h)
  refine ⟨_, _, pre0 _ ?_, hrun, hended, _, _, rfl, ?_, ⟨_, rfl⟩, hW, hsame.mono (by decide) (by decide)⟩
  · show Steps p.tables e below (s₁.setTop (mkF m 0 #[.val (.int p1)] [])) _
    refine XS.iloadN X0.here hx rfl (hb hby d12_0) rfl ?_
    show Steps p.tables e below (s₁.setTop (mkF m 1 #[.val (.int p1)] [(.int p1)])) _
    refine XS.bipush X0.here hx rfl (hb hby d12_1) ?_
    show Steps p.tables e below (s₁.setTop (mkF m 3 #[.val (.int p1)] [(.int (35 : Int32)), (.int p1)])) _
    refine XS.icmpNo X0.here hx rfl (hb hby d12_3) rfl (feq (vh0 : ¬ (p1 = (35 : Int32)))).1 ?_
    show Steps p.tables e below (s₁.setTop (mkF m 6 #[.val (.int p1)] [])) _
    refine XS.iloadN X0.here hx rfl (hb hby d12_6) rfl ?_
    show Steps p.tables e below (s₁.setTop (mkF m 7 #[.val (.int p1)] [(.int p1)])) _
    refine XS.bipush X0.here hx rfl (hb hby d12_7) ?_
    show Steps p.tables e below (s₁.setTop (mkF m 9 #[.val (.int p1)] [(.int (36 : Int32)), (.int p1)])) _
    refine XS.icmpNo X0.here hx rfl (hb hby d12_9) rfl (feq (vh1 : ¬ (p1 = (36 : Int32)))).1 ?_
    show Steps p.tables e below (s₁.setTop (mkF m 12 #[.val (.int p1)] [])) _
    refine XS.iloadN X0.here hx rfl (hb hby d12_12) rfl ?_
    show Steps p.tables e below (s₁.setTop (mkF m 13 #[.val (.int p1)] [(.int p1)])) _
    refine XS.bipush X0.here hx rfl (hb hby d12_13) ?_
    show Steps p.tables e below (s₁.setTop (mkF m 15 #[.val (.int p1)] [(.int (38 : Int32)), (.int p1)])) _
    refine XS.icmpNo X0.here hx rfl (hb hby d12_15) rfl (feq (vh2 : ¬ (p1 = (38 : Int32)))).1 ?_
    show Steps p.tables e below (s₁.setTop (mkF m 18 #[.val (.int p1)] [])) _
    refine XS.iloadN X0.here hx rfl (hb hby d12_18) rfl ?_
    show Steps p.tables e below (s₁.setTop (mkF m 19 #[.val (.int p1)] [(.int p1)])) _
    refine XS.bipush X0.here hx rfl (hb hby d12_19) ?_
    show Steps p.tables e below (s₁.setTop (mkF m 21 #[.val (.int p1)] [(.int (42 : Int32)), (.int p1)])) _
    refine XS.icmpNo X0.here hx rfl (hb hby d12_21) rfl (feq (vh3 : ¬ (p1 = (42 : Int32)))).1 ?_
    show Steps p.tables e below (s₁.setTop (mkF m 24 #[.val (.int p1)] [])) _
    refine XS.iloadN X0.here hx rfl (hb hby d12_24) rfl ?_
    show Steps p.tables e below (s₁.setTop (mkF m 25 #[.val (.int p1)] [(.int p1)])) _
    refine XS.bipush X0.here hx rfl (hb hby d12_25) ?_
    show Steps p.tables e below (s₁.setTop (mkF m 27 #[.val (.int p1)] [(.int (43 : Int32)), (.int p1)])) _
    refine XS.icmpNo X0.here hx rfl (hb hby d12_27) rfl (feq (vh4 : ¬ (p1 = (43 : Int32)))).1 ?_
    show Steps p.tables e below (s₁.setTop (mkF m 30 #[.val (.int p1)] [])) _
    refine XS.iloadN X0.here hx rfl (hb hby d12_30) rfl ?_
    show Steps p.tables e below (s₁.setTop (mkF m 31 #[.val (.int p1)] [(.int p1)])) _
    refine XS.bipush X0.here hx rfl (hb hby d12_31) ?_
    show Steps p.tables e below (s₁.setTop (mkF m 33 #[.val (.int p1)] [(.int (45 : Int32)), (.int p1)])) _
    refine XS.icmpNo X0.here hx rfl (hb hby d12_33) rfl (feq (vh5 : ¬ (p1 = (45 : Int32)))).1 ?_
    show Steps p.tables e below (s₁.setTop (mkF m 36 #[.val (.int p1)] [])) _
    refine XS.iloadN X0.here hx rfl (hb hby d12_36) rfl ?_
    show Steps p.tables e below (s₁.setTop (mkF m 37 #[.val (.int p1)] [(.int p1)])) _
    refine XS.bipush X0.here hx rfl (hb hby d12_37) ?_
    show Steps p.tables e below (s₁.setTop (mkF m 39 #[.val (.int p1)] [(.int (46 : Int32)), (.int p1)])) _
    refine XS.icmpNo X0.here hx rfl (hb hby d12_39) rfl (feq (vh6 : ¬ (p1 = (46 : Int32)))).1 ?_
    show Steps p.tables e below (s₁.setTop (mkF m 42 #[.val (.int p1)] [])) _
    refine XS.iloadN X0.here hx rfl (hb hby d12_42) rfl ?_
    show Steps p.tables e below (s₁.setTop (mkF m 43 #[.val (.int p1)] [(.int p1)])) _
    refine XS.bipush X0.here hx rfl (hb hby d12_43) ?_
    show Steps p.tables e below (s₁.setTop (mkF m 45 #[.val (.int p1)] [(.int (47 : Int32)), (.int p1)])) _
    refine XS.icmpNo X0.here hx rfl (hb hby d12_45) rfl (feq (vh7 : ¬ (p1 = (47 : Int32)))).1 ?_
    show Steps p.tables e below (s₁.setTop (mkF m 48 #[.val (.int p1)] [])) _
    refine XS.iloadN X0.here hx rfl (hb hby d12_48) rfl ?_
    show Steps p.tables e below (s₁.setTop (mkF m 49 #[.val (.int p1)] [(.int p1)])) _
    refine XS.bipush X0.here hx rfl (hb hby d12_49) ?_
    show Steps p.tables e below (s₁.setTop (mkF m 51 #[.val (.int p1)] [(.int (58 : Int32)), (.int p1)])) _
    refine XS.icmpNo X0.here hx rfl (hb hby d12_51) rfl (feq (vh8 : ¬ (p1 = (58 : Int32)))).1 ?_
    show Steps p.tables e below (s₁.setTop (mkF m 54 #[.val (.int p1)] [])) _
    refine XS.iloadN X0.here hx rfl (hb hby d12_54) rfl ?_
    show Steps p.tables e below (s₁.setTop (mkF m 55 #[.val (.int p1)] [(.int p1)])) _
    refine XS.bipush X0.here hx rfl (hb hby d12_55) ?_
    show Steps p.tables e below (s₁.setTop (mkF m 57 #[.val (.int p1)] [(.int (60 : Int32)), (.int p1)])) _
    refine XS.icmpNo X0.here hx rfl (hb hby d12_57) rfl (feq (vh9 : ¬ (p1 = (60 : Int32)))).1 ?_
    show Steps p.tables e below (s₁.setTop (mkF m 60 #[.val (.int p1)] [])) _
    refine XS.iloadN X0.here hx rfl (hb hby d12_60) rfl ?_
    show Steps p.tables e below (s₁.setTop (mkF m 61 #[.val (.int p1)] [(.int p1)])) _
    refine XS.bipush X0.here hx rfl (hb hby d12_61) ?_
    show Steps p.tables e below (s₁.setTop (mkF m 63 #[.val (.int p1)] [(.int (61 : Int32)), (.int p1)])) _
    refine XS.icmpNo X0.here hx rfl (hb hby d12_63) rfl (feq (vh10 : ¬ (p1 = (61 : Int32)))).1 ?_
    show Steps p.tables e below (s₁.setTop (mkF m 66 #[.val (.int p1)] [])) _
    refine XS.iloadN X0.here hx rfl (hb hby d12_66) rfl ?_
    show Steps p.tables e below (s₁.setTop (mkF m 67 #[.val (.int p1)] [(.int p1)])) _
    refine XS.bipush X0.here hx rfl (hb hby d12_67) ?_
    show Steps p.tables e below (s₁.setTop (mkF m 69 #[.val (.int p1)] [(.int (62 : Int32)), (.int p1)])) _
    refine XS.icmpNo X0.here hx rfl (hb hby d12_69) rfl (feq (vh11 : ¬ (p1 = (62 : Int32)))).1 ?_
    show Steps p.tables e below (s₁.setTop (mkF m 72 #[.val (.int p1)] [])) _
    refine XS.iloadN X0.here hx rfl (hb hby d12_72) rfl ?_
    show Steps p.tables e below (s₁.setTop (mkF m 73 #[.val (.int p1)] [(.int p1)])) _
    refine XS.bipush X0.here hx rfl (hb hby d12_73) ?_
    show Steps p.tables e below (s₁.setTop (mkF m 75 #[.val (.int p1)] [(.int (63 : Int32)), (.int p1)])) _
    refine XS.icmpNo X0.here hx rfl (hb hby d12_75) rfl (feq (vh12 : ¬ (p1 = (63 : Int32)))).1 ?_
    show Steps p.tables e below (s₁.setTop (mkF m 78 #[.val (.int p1)] [])) _
    refine XS.iloadN X0.here hx rfl (hb hby d12_78) rfl ?_
    show Steps p.tables e below (s₁.setTop (mkF m 79 #[.val (.int p1)] [(.int p1)])) _
    refine XS.bipush X0.here hx rfl (hb hby d12_79) ?_
    show Steps p.tables e below (s₁.setTop (mkF m 81 #[.val (.int p1)] [(.int (64 : Int32)), (.int p1)])) _
    refine XS.icmpNo X0.here hx rfl (hb hby d12_81) rfl (feq (vh13 : ¬ (p1 = (64 : Int32)))).1 ?_
    show Steps p.tables e below (s₁.setTop (mkF m 84 #[.val (.int p1)] [])) _
    refine XS.iloadN X0.here hx rfl (hb hby d12_84) rfl ?_
    show Steps p.tables e below (s₁.setTop (mkF m 85 #[.val (.int p1)] [(.int p1)])) _
    refine XS.bipush X0.here hx rfl (hb hby d12_85) ?_
    show Steps p.tables e below (s₁.setTop (mkF m 87 #[.val (.int p1)] [(.int (94 : Int32)), (.int p1)])) _
    refine XS.icmpNo X0.here hx rfl (hb hby d12_87) rfl (feq (vh14 : ¬ (p1 = (94 : Int32)))).1 ?_
    show Steps p.tables e below (s₁.setTop (mkF m 90 #[.val (.int p1)] [])) _
    refine XS.iloadN X0.here hx rfl (hb hby d12_90) rfl ?_
    show Steps p.tables e below (s₁.setTop (mkF m 91 #[.val (.int p1)] [(.int p1)])) _
    refine XS.bipush X0.here hx rfl (hb hby d12_91) ?_
    show Steps p.tables e below (s₁.setTop (mkF m 93 #[.val (.int p1)] [(.int (126 : Int32)), (.int p1)])) _
    refine XS.icmpNo X0.here hx rfl (hb hby d12_93) rfl (feq (vh15 : ¬ (p1 = (126 : Int32)))).1 ?_
    show Steps p.tables e below (s₁.setTop (mkF m 96 #[.val (.int p1)] [])) _
    refine XS.iloadN X0.here hx rfl (hb hby d12_96) rfl ?_
    show Steps p.tables e below (s₁.setTop (mkF m 97 #[.val (.int p1)] [(.int p1)])) _
    refine XS.bipush X0.here hx rfl (hb hby d12_97) ?_
    show Steps p.tables e below (s₁.setTop (mkF m 99 #[.val (.int p1)] [(.int (92 : Int32)), (.int p1)])) _
    refine XS.icmpYes X0.here hx rfl (pc0 := 99) (pc' := 106) rfl (hb hby d12_99) rfl (feq (vh16 : ¬ (p1 = (92 : Int32)))).2 (by decide) (by decide) ?_
    show Steps p.tables e below (s₁.setTop (mkF m 106 #[.val (.int p1)] [])) _
    refine XS.iconst X0.here hx rfl (hb hby d12_106) ?_
    show Steps p.tables e below (s₁.setTop (mkF m 107 #[.val (.int p1)] [(.int (0 : Int32))])) _
    exact retN X0 hx (t := .boolean) Bd.returns (by simp) (hb hby d12_107) hr
  · show QI Z (own_ref p1) h0 n0 _ s₁.heap _
    rw [e0]
    exact ⟨congrArg (fun z => some (Value.int z)) (Eq.symm ((if_neg vh0).trans ((if_neg vh1).trans ((if_neg vh2).trans ((if_neg vh3).trans ((if_neg vh4).trans ((if_neg vh5).trans ((if_neg vh6).trans ((if_neg vh7).trans ((if_neg vh8).trans ((if_neg vh9).trans ((if_neg vh10).trans ((if_neg vh11).trans ((if_neg vh12).trans ((if_neg vh13).trans ((if_neg vh14).trans ((if_neg vh15).trans ((if_neg vh16).trans (rfl))))))))))))))))))), N0, rfl⟩
theorem rmRf (l : Launch) (Z : State) (a0 : Array Value) (hw : ∀ d ∈ tables_1, d.before a0 Z = true) (ws : List Jvm.Cond) (p1 : Int32) (h0 : Heap) (n0 : Nat) (Z0 : n0 ≤ h0.size) : MetFree l (⟨"cohort/LexerIsSymbolCharPinLaw", "ref", "(I)Z"⟩ : MethodName) (head1 (Jvm.Cond.code (⟨"cohort/LexerIsSymbolCharPinLaw", "ref", "(I)Z"⟩ : MethodName) method_3_code 1 (some .boolean) :: ws) ({ frames := 0, cells := 0, slots := 0, locals := 0 } : Room)) (fun a U => a = #[(.int p1)] ∧ Z.Warmed39 U.vm ∧ U.heap = h0) (fun _ _ _ _ _ => True) (fun _ U o U' => ∃ v L, o = .returned v ∧ QI Z (own_ref p1) h0 n0 v U'.heap L ∧ FrameEnd U o U' L ({ frames := 0, cells := 0, slots := 0, locals := 0 } : Room).cells ({ frames := 0, cells := 0, slots := 0, locals := 0 } : Room).slots) := by
  by_cases vh0 : p1 = (35 : Int32)
  · exact rmRf_0 l Z a0 hw ws p1 h0 n0 Z0 vh0
  by_cases vh1 : p1 = (36 : Int32)
  · exact rmRf_1 l Z a0 hw ws p1 h0 n0 Z0 vh0 vh1
  by_cases vh2 : p1 = (38 : Int32)
  · exact rmRf_2 l Z a0 hw ws p1 h0 n0 Z0 vh0 vh1 vh2
  by_cases vh3 : p1 = (42 : Int32)
  · exact rmRf_3 l Z a0 hw ws p1 h0 n0 Z0 vh0 vh1 vh2 vh3
  by_cases vh4 : p1 = (43 : Int32)
  · exact rmRf_4 l Z a0 hw ws p1 h0 n0 Z0 vh0 vh1 vh2 vh3 vh4
  by_cases vh5 : p1 = (45 : Int32)
  · exact rmRf_5 l Z a0 hw ws p1 h0 n0 Z0 vh0 vh1 vh2 vh3 vh4 vh5
  by_cases vh6 : p1 = (46 : Int32)
  · exact rmRf_6 l Z a0 hw ws p1 h0 n0 Z0 vh0 vh1 vh2 vh3 vh4 vh5 vh6
  by_cases vh7 : p1 = (47 : Int32)
  · exact rmRf_7 l Z a0 hw ws p1 h0 n0 Z0 vh0 vh1 vh2 vh3 vh4 vh5 vh6 vh7
  by_cases vh8 : p1 = (58 : Int32)
  · exact rmRf_8 l Z a0 hw ws p1 h0 n0 Z0 vh0 vh1 vh2 vh3 vh4 vh5 vh6 vh7 vh8
  by_cases vh9 : p1 = (60 : Int32)
  · exact rmRf_9 l Z a0 hw ws p1 h0 n0 Z0 vh0 vh1 vh2 vh3 vh4 vh5 vh6 vh7 vh8 vh9
  by_cases vh10 : p1 = (61 : Int32)
  · exact rmRf_10 l Z a0 hw ws p1 h0 n0 Z0 vh0 vh1 vh2 vh3 vh4 vh5 vh6 vh7 vh8 vh9 vh10
  by_cases vh11 : p1 = (62 : Int32)
  · exact rmRf_11 l Z a0 hw ws p1 h0 n0 Z0 vh0 vh1 vh2 vh3 vh4 vh5 vh6 vh7 vh8 vh9 vh10 vh11
  by_cases vh12 : p1 = (63 : Int32)
  · exact rmRf_12 l Z a0 hw ws p1 h0 n0 Z0 vh0 vh1 vh2 vh3 vh4 vh5 vh6 vh7 vh8 vh9 vh10 vh11 vh12
  by_cases vh13 : p1 = (64 : Int32)
  · exact rmRf_13 l Z a0 hw ws p1 h0 n0 Z0 vh0 vh1 vh2 vh3 vh4 vh5 vh6 vh7 vh8 vh9 vh10 vh11 vh12 vh13
  by_cases vh14 : p1 = (94 : Int32)
  · exact rmRf_14 l Z a0 hw ws p1 h0 n0 Z0 vh0 vh1 vh2 vh3 vh4 vh5 vh6 vh7 vh8 vh9 vh10 vh11 vh12 vh13 vh14
  by_cases vh15 : p1 = (126 : Int32)
  · exact rmRf_15 l Z a0 hw ws p1 h0 n0 Z0 vh0 vh1 vh2 vh3 vh4 vh5 vh6 vh7 vh8 vh9 vh10 vh11 vh12 vh13 vh14 vh15
  by_cases vh16 : p1 = (92 : Int32)
  · exact rmRf_16 l Z a0 hw ws p1 h0 n0 Z0 vh0 vh1 vh2 vh3 vh4 vh5 vh6 vh7 vh8 vh9 vh10 vh11 vh12 vh13 vh14 vh15 vh16
  exact rmRf_17 l Z a0 hw ws p1 h0 n0 Z0 vh0 vh1 vh2 vh3 vh4 vh5 vh6 vh7 vh8 vh9 vh10 vh11 vh12 vh13 vh14 vh15 vh16
theorem pd_0_0 : parseMethodDescriptor "(I)Z" = some ⟨[.int], some .boolean⟩ := by decide +kernel
theorem pn_0 : plainName "cohort/LexerIsSymbolCharPinLaw" = true := by first | (simp [plainName, overriddenIn]; done) | decide +kernel
theorem ef_0 (m : MethodId) (x0 : Int32) (x1 : Int32) : entryFrame m #[(.int x0), (.int x1)] maxLocals = mkF m 0 #[.val (.int x0), .val (.int x1), .unset, .unset] [] := by first | (simp [entryFrame, mkF, argsToLocals, Value.category, maxLocals]; done) | rfl
set_option maxRecDepth 65536 in
set_option maxHeartbeats 40000000 in
theorem rm0m0 (l : Launch) (Z : State) (a0 : Array Value) (hw : ∀ d ∈ tables_1, d.before a0 Z = true) (ws : List Jvm.Cond) (p1 p2 : Int32) (cs : Int32) (h0 : Heap) (n0 : Nat) (Z0 : n0 ≤ h0.size) (S_c : Sta Z h0 "java/lang/String" "COMPACT_STRINGS" "Z" (.int cs)) (hcs : ¬ (cs = (0 : Int32))) (hc5 : (p2 &&& (3 : Int32)) = (0 : Int32)) :
    MetFree l x (head1 (Jvm.Cond.code x code maxLocals ret :: ws) room_1) (fun a U => a = #[(.int p1), (.int p2)] ∧ Z.Warmed39 U.vm ∧ U.heap = h0 ∧ CHv Z [("cohort/Lexer", 40)] U.vm h0) (fun _ _ _ _ _ => True) (fun _ U o U' => ∃ v L, o = .returned v ∧ QS Z (1 : Int32) h0 n0 v U'.heap L ∧ CHr Z [("cohort/Lexer", 40)] U.vm U.heap U'.vm U'.heap ∧ ReturnedEndW U o U' L room_1.cells room_1.slots) := by
  refine MetFree.of_bodySF (plainFor_of_name pn_0) hisR ?_
  intro p e s m args below meth c s₁ Bd hml0 hP hK
  obtain ⟨rfl, hZ, hh, hCH⟩ := hP
  have hx := Bd.exec
  have hby := Bd.bytes
  have hml : c.maxLocals = 4 := hml0
  have hown : s.vm.findClass "cohort/LexerIsSymbolCharPinLaw" = some m.cls := findClass_of_methodNamed Bd.named
  have hnm := (name_of_methodNamed Bd.named Bd.method).1
  have X0 : Stand p l e room_1 s m #[(.int p1), (.int p2)] below meth c s₁ [] 0 0 := Stand.of_body Bd
  have e0 : s₁.heap = h0 := by rw [← hh, Bd.state]; rfl
  have N0 := Fr.nil n0
  have pre0 : ∀ tz, Steps p.tables e below (s₁.setTop (mkF m 0 #[.val (.int p1), .val (.int p2), .unset, .unset] [])) tz → Steps p.tables e below (s₁.setTop (entryFrame m #[(.int p1), (.int p2)] maxLocals)) tz := fun tz kz => castTop (ef_0 m p1 p2) kz
  obtain ⟨_, _, ⟨T1, L1, k1, n1⟩, -, X1, hS1, hg1, ⟨Lc1, hQ1, l1, y1, z1, CR1⟩, st1⟩ := callSS (s := s) X0 hx (y := (⟨"cohort/Lexer", "isSymbolChar", "(I)Z"⟩ : MethodName)) hown (mvT hZ (hw _ (List.mem_of_getElem? (i := 1) rfl))) (mvT hZ (hw _ (List.mem_of_getElem? (i := 2) rfl))) (mvT hZ (hw _ (List.mem_of_getElem? (i := 3) rfl))) (mvT hZ (hw _ (List.mem_of_getElem? (i := 4) rfl))) (by decide) (backOfSH (s := s) (vm0 := s.vm) (W := 0) (rmSy l Z a0 hw [] p1 cs h0 n0 Z0 S_c hcs) hZ (hw _ (List.mem_of_getElem? (i := 4) rfl)) (hw _ (List.mem_of_getElem? (i := 3) rfl)) (by decide) (by decide) (own_ew hw) hCH) (g := (mkF m 50 #[.val (.int p1), .val (.int p2), .val (.int (p2 &&& (3 : Int32))), .val (.int p1)] [(.int p1)])) rfl (by rw [hml]; rfl) (argsL := [(.int p1)]) (rest := []) (lenOf pd_0_0 rfl) rfl (by show 2 * 0 + _ ≤ _; exact Nat.le_of_eq rfl) (hb hby at_50) (fun _ _ => ⟨rfl, e0, (by decide : 0 + 2 ≤ _), (by decide : 0 + 72 ≤ _)⟩)
  dsimp only [Pt.U, Pt.locs, Pt.cells, Pt.slots] at X1 l1 y1 z1 st1 hQ1 hS1 hg1 CR1
  subst l1 y1 z1
  obtain ⟨rfl, N1q⟩ := hQ1
  have N1 := Fr.app N0 N1q
  have hZ1 : Z.Warmed39 (s.setVm T1.vm).vm := State.Warmed39.trans (t := s) hZ hS1.1
  have hown1 : (s.setVm T1.vm).vm.findClass "cohort/LexerIsSymbolCharPinLaw" = some m.cls := by rw [show (s.setVm T1.vm).vm = T1.vm from rfl, hS1.1.alike.findClass]; exact hown
  have Zn1 : n0 ≤ T1.heap.size := Nat.le_trans Z0 (by rw [← e0]; exact hg1)
  obtain ⟨_, _, ⟨T2, L2, k2, n2⟩, -, X2, ⟨Lc2, hQ2, l2, y2, z2⟩, st2⟩ := Jvm.LawKit.callS X1 hx (y := (⟨"cohort/LexerIsSymbolCharPinLaw", "ref", "(I)Z"⟩ : MethodName)) hown1 (mvT hZ1 (hw _ (List.mem_of_getElem? (i := 58) rfl))) (mvT hZ1 (hw _ (List.mem_of_getElem? (i := 59) rfl))) (mvT hZ1 (hw _ (List.mem_of_getElem? (i := 60) rfl))) (mvT hZ1 (hw _ (List.mem_of_getElem? (i := 61) rfl))) (by decide) (backOf (W := 1) (rmRf l Z a0 hw [] p1 T1.heap n0 Zn1) hZ1 (hw _ (List.mem_of_getElem? (i := 61) rfl)) (hw _ (List.mem_of_getElem? (i := 60) rfl)) (by decide) (by decide)) (g := (mkF m 54 #[.val (.int p1), .val (.int p2), .val (.int (p2 &&& (3 : Int32))), .val (.int p1)] [(.int p1), (.int (own_sym p1))])) rfl (by rw [hml]; rfl) (argsL := [(.int p1)]) (rest := [(.int (own_sym p1))]) (lenOf pd_0_0 rfl) rfl (by show 2 * 0 + _ ≤ _; exact Nat.le_of_eq rfl) (hb hby at_54) (fun _ _ => ⟨rfl, rfl, (by decide : 2 + 0 ≤ _), (by decide : 72 + 0 ≤ _)⟩)
  dsimp only [Pt.U, Pt.locs, Pt.cells, Pt.slots] at X2 l2 y2 z2 st2 hQ2
  subst l2 y2 z2
  obtain ⟨rfl, N2q, eh2⟩ := hQ2
  have N2 := Fr.app N1 N2q
  obtain ⟨fs, hr, hrun, hended, hEW⟩ := X2.leaveW (s := s) hS1 (Nat.le_of_eq (congrArg Array.size eh2.symm)) (v := some (.int (1 : Int32))) (fun h => by rw [Bd.returns] at h; cases h)
  refine ⟨_, _, pre0 _ ?_, hrun, hended, _, _, rfl, ?_, ?_, hEW.1, hEW.2.1, hEW.2.2.1, hEW.2.2.2.mono (by decide) (by decide)⟩
  · show Steps p.tables e below (s₁.setTop (mkF m 0 #[.val (.int p1), .val (.int p2), .unset, .unset] [])) _
    refine XS.iloadN X0.here hx rfl (hb hby at_0) rfl ?_
    show Steps p.tables e below (s₁.setTop (mkF m 1 #[.val (.int p1), .val (.int p2), .unset, .unset] [(.int p2)])) _
    refine XS.iconst X0.here hx rfl (hb hby at_1) ?_
    show Steps p.tables e below (s₁.setTop (mkF m 2 #[.val (.int p1), .val (.int p2), .unset, .unset] [(.int (3 : Int32)), (.int p2)])) _
    refine XS.iand X0.here hx rfl (hb hby at_2) rfl ?_
    show Steps p.tables e below (s₁.setTop (mkF m 3 #[.val (.int p1), .val (.int p2), .unset, .unset] [(.int (p2 &&& (3 : Int32)))])) _
    refine XS.istoreN X0.here hx rfl (hb hby at_3) rfl (l' := #[.val (.int p1), .val (.int p2), .val (.int (p2 &&& (3 : Int32))), .unset]) rfl ?_
    show Steps p.tables e below (s₁.setTop (mkF m 4 #[.val (.int p1), .val (.int p2), .val (.int (p2 &&& (3 : Int32))), .unset] [])) _
    refine XS.iloadN X0.here hx rfl (hb hby at_4) rfl ?_
    show Steps p.tables e below (s₁.setTop (mkF m 5 #[.val (.int p1), .val (.int p2), .val (.int (p2 &&& (3 : Int32))), .unset] [(.int (p2 &&& (3 : Int32)))])) _
    refine XS.ifNo X0.here hx rfl (hb hby at_5) rfl ((if0 _ _).trans (teq (hc5 : (p2 &&& (3 : Int32)) = (0 : Int32))).2) ?_
    show Steps p.tables e below (s₁.setTop (mkF m 8 #[.val (.int p1), .val (.int p2), .val (.int (p2 &&& (3 : Int32))), .unset] [])) _
    refine XS.iloadN X0.here hx rfl (hb hby at_8) rfl ?_
    show Steps p.tables e below (s₁.setTop (mkF m 9 #[.val (.int p1), .val (.int p2), .val (.int (p2 &&& (3 : Int32))), .unset] [(.int p1)])) _
    refine XS.istoreN X0.here hx rfl (hb hby at_9) rfl (l' := #[.val (.int p1), .val (.int p2), .val (.int (p2 &&& (3 : Int32))), .val (.int p1)]) rfl ?_
    show Steps p.tables e below (s₁.setTop (mkF m 10 #[.val (.int p1), .val (.int p2), .val (.int (p2 &&& (3 : Int32))), .val (.int p1)] [])) _
    refine XS.goto X0.here hx rfl (pc0 := 10) (pc' := 49) rfl (hb hby at_10) (by decide) (by decide) ?_
    show Steps p.tables e below (s₁.setTop (mkF m 49 #[.val (.int p1), .val (.int p2), .val (.int (p2 &&& (3 : Int32))), .val (.int p1)] [])) _
    refine XS.iloadN X0.here hx rfl (hb hby at_49) rfl ?_
    show Steps p.tables e below (s₁.setTop (mkF m 50 #[.val (.int p1), .val (.int p2), .val (.int (p2 &&& (3 : Int32))), .val (.int p1)] [(.int p1)])) _
    refine st1.trans ?_
    show Steps p.tables e below (T1.setTop (mkF m 53 #[.val (.int p1), .val (.int p2), .val (.int (p2 &&& (3 : Int32))), .val (.int p1)] [(.int (own_sym p1))])) _
    refine XS.iloadN X1.here hx rfl (hb hby at_53) rfl ?_
    show Steps p.tables e below (T1.setTop (mkF m 54 #[.val (.int p1), .val (.int p2), .val (.int (p2 &&& (3 : Int32))), .val (.int p1)] [(.int p1), (.int (own_sym p1))])) _
    refine st2 _ ?_
    show Steps p.tables e below (T2.setTop (mkF m 57 #[.val (.int p1), .val (.int p2), .val (.int (p2 &&& (3 : Int32))), .val (.int p1)] [(.int (own_ref p1)), (.int (own_sym p1))])) _
    refine XS.icmpNo X2.here hx rfl (hb hby at_57) rfl (teq (own_eq p1 : (own_sym p1) = (own_ref p1))).2 ?_
    show Steps p.tables e below (T2.setTop (mkF m 60 #[.val (.int p1), .val (.int p2), .val (.int (p2 &&& (3 : Int32))), .val (.int p1)] [])) _
    refine XS.iconst X2.here hx rfl (hb hby at_60) ?_
    show Steps p.tables e below (T2.setTop (mkF m 61 #[.val (.int p1), .val (.int p2), .val (.int (p2 &&& (3 : Int32))), .val (.int p1)] [(.int (1 : Int32))])) _
    refine XS.goto X2.here hx rfl (pc0 := 61) (pc' := 65) rfl (hb hby at_61) (by decide) (by decide) ?_
    show Steps p.tables e below (T2.setTop (mkF m 65 #[.val (.int p1), .val (.int p2), .val (.int (p2 &&& (3 : Int32))), .val (.int p1)] [(.int (1 : Int32))])) _
    exact retN X2 hx (t := .boolean) Bd.returns (by simp) (hb hby at_65) hr
  · show QS Z (1 : Int32) h0 n0 _ T2.heap _
    exact ⟨rfl, N2⟩
  · show CHr Z [("cohort/Lexer", 40)] s.vm s.heap T2.vm T2.heap
    rw [hh]
    exact (by rw [eh2]; exact CR1.trans (CHv.at X2 hZ1 (own_ew hw) CR1.1))
set_option maxRecDepth 65536 in
set_option maxHeartbeats 40000000 in
theorem rm0m1 (l : Launch) (Z : State) (a0 : Array Value) (hw : ∀ d ∈ tables_1, d.before a0 Z = true) (ws : List Jvm.Cond) (p1 p2 : Int32) (cs : Int32) (h0 : Heap) (n0 : Nat) (Z0 : n0 ≤ h0.size) (S_c : Sta Z h0 "java/lang/String" "COMPACT_STRINGS" "Z" (.int cs)) (hcs : ¬ (cs = (0 : Int32))) (hc5 : ¬ ((p2 &&& (3 : Int32)) = (0 : Int32))) (hc15 : (p2 &&& (3 : Int32)) = (1 : Int32)) :
    MetFree l x (head1 (Jvm.Cond.code x code maxLocals ret :: ws) room_1) (fun a U => a = #[(.int p1), (.int p2)] ∧ Z.Warmed39 U.vm ∧ U.heap = h0 ∧ CHv Z [("cohort/Lexer", 40)] U.vm h0) (fun _ _ _ _ _ => True) (fun _ U o U' => ∃ v L, o = .returned v ∧ QS Z (1 : Int32) h0 n0 v U'.heap L ∧ CHr Z [("cohort/Lexer", 40)] U.vm U.heap U'.vm U'.heap ∧ ReturnedEndW U o U' L room_1.cells room_1.slots) := by
  refine MetFree.of_bodySF (plainFor_of_name pn_0) hisR ?_
  intro p e s m args below meth c s₁ Bd hml0 hP hK
  obtain ⟨rfl, hZ, hh, hCH⟩ := hP
  have hx := Bd.exec
  have hby := Bd.bytes
  have hml : c.maxLocals = 4 := hml0
  have hown : s.vm.findClass "cohort/LexerIsSymbolCharPinLaw" = some m.cls := findClass_of_methodNamed Bd.named
  have hnm := (name_of_methodNamed Bd.named Bd.method).1
  have X0 : Stand p l e room_1 s m #[(.int p1), (.int p2)] below meth c s₁ [] 0 0 := Stand.of_body Bd
  have e0 : s₁.heap = h0 := by rw [← hh, Bd.state]; rfl
  have N0 := Fr.nil n0
  have pre0 : ∀ tz, Steps p.tables e below (s₁.setTop (mkF m 0 #[.val (.int p1), .val (.int p2), .unset, .unset] [])) tz → Steps p.tables e below (s₁.setTop (entryFrame m #[(.int p1), (.int p2)] maxLocals)) tz := fun tz kz => castTop (ef_0 m p1 p2) kz
  obtain ⟨_, _, ⟨T1, L1, k1, n1⟩, -, X1, hS1, hg1, ⟨Lc1, hQ1, l1, y1, z1, CR1⟩, st1⟩ := callSS (s := s) X0 hx (y := (⟨"cohort/Lexer", "isSymbolChar", "(I)Z"⟩ : MethodName)) hown (mvT hZ (hw _ (List.mem_of_getElem? (i := 1) rfl))) (mvT hZ (hw _ (List.mem_of_getElem? (i := 2) rfl))) (mvT hZ (hw _ (List.mem_of_getElem? (i := 3) rfl))) (mvT hZ (hw _ (List.mem_of_getElem? (i := 4) rfl))) (by decide) (backOfSH (s := s) (vm0 := s.vm) (W := 0) (rmSy l Z a0 hw [] (p1 &&& (127 : Int32)) cs h0 n0 Z0 S_c hcs) hZ (hw _ (List.mem_of_getElem? (i := 4) rfl)) (hw _ (List.mem_of_getElem? (i := 3) rfl)) (by decide) (by decide) (own_ew hw) hCH) (g := (mkF m 50 #[.val (.int p1), .val (.int p2), .val (.int (p2 &&& (3 : Int32))), .val (.int (p1 &&& (127 : Int32)))] [(.int (p1 &&& (127 : Int32)))])) rfl (by rw [hml]; rfl) (argsL := [(.int (p1 &&& (127 : Int32)))]) (rest := []) (lenOf pd_0_0 rfl) rfl (by show 2 * 0 + _ ≤ _; exact Nat.le_of_eq rfl) (hb hby at_50) (fun _ _ => ⟨rfl, e0, (by decide : 0 + 2 ≤ _), (by decide : 0 + 72 ≤ _)⟩)
  dsimp only [Pt.U, Pt.locs, Pt.cells, Pt.slots] at X1 l1 y1 z1 st1 hQ1 hS1 hg1 CR1
  subst l1 y1 z1
  obtain ⟨rfl, N1q⟩ := hQ1
  have N1 := Fr.app N0 N1q
  have hZ1 : Z.Warmed39 (s.setVm T1.vm).vm := State.Warmed39.trans (t := s) hZ hS1.1
  have hown1 : (s.setVm T1.vm).vm.findClass "cohort/LexerIsSymbolCharPinLaw" = some m.cls := by rw [show (s.setVm T1.vm).vm = T1.vm from rfl, hS1.1.alike.findClass]; exact hown
  have Zn1 : n0 ≤ T1.heap.size := Nat.le_trans Z0 (by rw [← e0]; exact hg1)
  obtain ⟨_, _, ⟨T2, L2, k2, n2⟩, -, X2, ⟨Lc2, hQ2, l2, y2, z2⟩, st2⟩ := Jvm.LawKit.callS X1 hx (y := (⟨"cohort/LexerIsSymbolCharPinLaw", "ref", "(I)Z"⟩ : MethodName)) hown1 (mvT hZ1 (hw _ (List.mem_of_getElem? (i := 58) rfl))) (mvT hZ1 (hw _ (List.mem_of_getElem? (i := 59) rfl))) (mvT hZ1 (hw _ (List.mem_of_getElem? (i := 60) rfl))) (mvT hZ1 (hw _ (List.mem_of_getElem? (i := 61) rfl))) (by decide) (backOf (W := 1) (rmRf l Z a0 hw [] (p1 &&& (127 : Int32)) T1.heap n0 Zn1) hZ1 (hw _ (List.mem_of_getElem? (i := 61) rfl)) (hw _ (List.mem_of_getElem? (i := 60) rfl)) (by decide) (by decide)) (g := (mkF m 54 #[.val (.int p1), .val (.int p2), .val (.int (p2 &&& (3 : Int32))), .val (.int (p1 &&& (127 : Int32)))] [(.int (p1 &&& (127 : Int32))), (.int (own_sym (p1 &&& (127 : Int32))))])) rfl (by rw [hml]; rfl) (argsL := [(.int (p1 &&& (127 : Int32)))]) (rest := [(.int (own_sym (p1 &&& (127 : Int32))))]) (lenOf pd_0_0 rfl) rfl (by show 2 * 0 + _ ≤ _; exact Nat.le_of_eq rfl) (hb hby at_54) (fun _ _ => ⟨rfl, rfl, (by decide : 2 + 0 ≤ _), (by decide : 72 + 0 ≤ _)⟩)
  dsimp only [Pt.U, Pt.locs, Pt.cells, Pt.slots] at X2 l2 y2 z2 st2 hQ2
  subst l2 y2 z2
  obtain ⟨rfl, N2q, eh2⟩ := hQ2
  have N2 := Fr.app N1 N2q
  obtain ⟨fs, hr, hrun, hended, hEW⟩ := X2.leaveW (s := s) hS1 (Nat.le_of_eq (congrArg Array.size eh2.symm)) (v := some (.int (1 : Int32))) (fun h => by rw [Bd.returns] at h; cases h)
  refine ⟨_, _, pre0 _ ?_, hrun, hended, _, _, rfl, ?_, ?_, hEW.1, hEW.2.1, hEW.2.2.1, hEW.2.2.2.mono (by decide) (by decide)⟩
  · show Steps p.tables e below (s₁.setTop (mkF m 0 #[.val (.int p1), .val (.int p2), .unset, .unset] [])) _
    refine XS.iloadN X0.here hx rfl (hb hby at_0) rfl ?_
    show Steps p.tables e below (s₁.setTop (mkF m 1 #[.val (.int p1), .val (.int p2), .unset, .unset] [(.int p2)])) _
    refine XS.iconst X0.here hx rfl (hb hby at_1) ?_
    show Steps p.tables e below (s₁.setTop (mkF m 2 #[.val (.int p1), .val (.int p2), .unset, .unset] [(.int (3 : Int32)), (.int p2)])) _
    refine XS.iand X0.here hx rfl (hb hby at_2) rfl ?_
    show Steps p.tables e below (s₁.setTop (mkF m 3 #[.val (.int p1), .val (.int p2), .unset, .unset] [(.int (p2 &&& (3 : Int32)))])) _
    refine XS.istoreN X0.here hx rfl (hb hby at_3) rfl (l' := #[.val (.int p1), .val (.int p2), .val (.int (p2 &&& (3 : Int32))), .unset]) rfl ?_
    show Steps p.tables e below (s₁.setTop (mkF m 4 #[.val (.int p1), .val (.int p2), .val (.int (p2 &&& (3 : Int32))), .unset] [])) _
    refine XS.iloadN X0.here hx rfl (hb hby at_4) rfl ?_
    show Steps p.tables e below (s₁.setTop (mkF m 5 #[.val (.int p1), .val (.int p2), .val (.int (p2 &&& (3 : Int32))), .unset] [(.int (p2 &&& (3 : Int32)))])) _
    refine XS.ifYes X0.here hx rfl (pc0 := 5) (pc' := 13) rfl (hb hby at_5) rfl ((if0 _ _).trans (feq (hc5 : ¬ ((p2 &&& (3 : Int32)) = (0 : Int32)))).2) (by decide) (by decide) ?_
    show Steps p.tables e below (s₁.setTop (mkF m 13 #[.val (.int p1), .val (.int p2), .val (.int (p2 &&& (3 : Int32))), .unset] [])) _
    refine XS.iloadN X0.here hx rfl (hb hby at_13) rfl ?_
    show Steps p.tables e below (s₁.setTop (mkF m 14 #[.val (.int p1), .val (.int p2), .val (.int (p2 &&& (3 : Int32))), .unset] [(.int (p2 &&& (3 : Int32)))])) _
    refine XS.iconst X0.here hx rfl (hb hby at_14) ?_
    show Steps p.tables e below (s₁.setTop (mkF m 15 #[.val (.int p1), .val (.int p2), .val (.int (p2 &&& (3 : Int32))), .unset] [(.int (1 : Int32)), (.int (p2 &&& (3 : Int32)))])) _
    refine XS.icmpNo X0.here hx rfl (hb hby at_15) rfl (teq (hc15 : (p2 &&& (3 : Int32)) = (1 : Int32))).2 ?_
    show Steps p.tables e below (s₁.setTop (mkF m 18 #[.val (.int p1), .val (.int p2), .val (.int (p2 &&& (3 : Int32))), .unset] [])) _
    refine XS.iloadN X0.here hx rfl (hb hby at_18) rfl ?_
    show Steps p.tables e below (s₁.setTop (mkF m 19 #[.val (.int p1), .val (.int p2), .val (.int (p2 &&& (3 : Int32))), .unset] [(.int p1)])) _
    refine XS.bipush X0.here hx rfl (hb hby at_19) ?_
    show Steps p.tables e below (s₁.setTop (mkF m 21 #[.val (.int p1), .val (.int p2), .val (.int (p2 &&& (3 : Int32))), .unset] [(.int (127 : Int32)), (.int p1)])) _
    refine XS.iand X0.here hx rfl (hb hby at_21) rfl ?_
    show Steps p.tables e below (s₁.setTop (mkF m 22 #[.val (.int p1), .val (.int p2), .val (.int (p2 &&& (3 : Int32))), .unset] [(.int (p1 &&& (127 : Int32)))])) _
    refine XS.istoreN X0.here hx rfl (hb hby at_22) rfl (l' := #[.val (.int p1), .val (.int p2), .val (.int (p2 &&& (3 : Int32))), .val (.int (p1 &&& (127 : Int32)))]) rfl ?_
    show Steps p.tables e below (s₁.setTop (mkF m 23 #[.val (.int p1), .val (.int p2), .val (.int (p2 &&& (3 : Int32))), .val (.int (p1 &&& (127 : Int32)))] [])) _
    refine XS.goto X0.here hx rfl (pc0 := 23) (pc' := 49) rfl (hb hby at_23) (by decide) (by decide) ?_
    show Steps p.tables e below (s₁.setTop (mkF m 49 #[.val (.int p1), .val (.int p2), .val (.int (p2 &&& (3 : Int32))), .val (.int (p1 &&& (127 : Int32)))] [])) _
    refine XS.iloadN X0.here hx rfl (hb hby at_49) rfl ?_
    show Steps p.tables e below (s₁.setTop (mkF m 50 #[.val (.int p1), .val (.int p2), .val (.int (p2 &&& (3 : Int32))), .val (.int (p1 &&& (127 : Int32)))] [(.int (p1 &&& (127 : Int32)))])) _
    refine st1.trans ?_
    show Steps p.tables e below (T1.setTop (mkF m 53 #[.val (.int p1), .val (.int p2), .val (.int (p2 &&& (3 : Int32))), .val (.int (p1 &&& (127 : Int32)))] [(.int (own_sym (p1 &&& (127 : Int32))))])) _
    refine XS.iloadN X1.here hx rfl (hb hby at_53) rfl ?_
    show Steps p.tables e below (T1.setTop (mkF m 54 #[.val (.int p1), .val (.int p2), .val (.int (p2 &&& (3 : Int32))), .val (.int (p1 &&& (127 : Int32)))] [(.int (p1 &&& (127 : Int32))), (.int (own_sym (p1 &&& (127 : Int32))))])) _
    refine st2 _ ?_
    show Steps p.tables e below (T2.setTop (mkF m 57 #[.val (.int p1), .val (.int p2), .val (.int (p2 &&& (3 : Int32))), .val (.int (p1 &&& (127 : Int32)))] [(.int (own_ref (p1 &&& (127 : Int32)))), (.int (own_sym (p1 &&& (127 : Int32))))])) _
    refine XS.icmpNo X2.here hx rfl (hb hby at_57) rfl (teq (own_eq (p1 &&& (127 : Int32)) : (own_sym (p1 &&& (127 : Int32))) = (own_ref (p1 &&& (127 : Int32))))).2 ?_
    show Steps p.tables e below (T2.setTop (mkF m 60 #[.val (.int p1), .val (.int p2), .val (.int (p2 &&& (3 : Int32))), .val (.int (p1 &&& (127 : Int32)))] [])) _
    refine XS.iconst X2.here hx rfl (hb hby at_60) ?_
    show Steps p.tables e below (T2.setTop (mkF m 61 #[.val (.int p1), .val (.int p2), .val (.int (p2 &&& (3 : Int32))), .val (.int (p1 &&& (127 : Int32)))] [(.int (1 : Int32))])) _
    refine XS.goto X2.here hx rfl (pc0 := 61) (pc' := 65) rfl (hb hby at_61) (by decide) (by decide) ?_
    show Steps p.tables e below (T2.setTop (mkF m 65 #[.val (.int p1), .val (.int p2), .val (.int (p2 &&& (3 : Int32))), .val (.int (p1 &&& (127 : Int32)))] [(.int (1 : Int32))])) _
    exact retN X2 hx (t := .boolean) Bd.returns (by simp) (hb hby at_65) hr
  · show QS Z (1 : Int32) h0 n0 _ T2.heap _
    exact ⟨rfl, N2⟩
  · show CHr Z [("cohort/Lexer", 40)] s.vm s.heap T2.vm T2.heap
    rw [hh]
    exact (by rw [eh2]; exact CR1.trans (CHv.at X2 hZ1 (own_ew hw) CR1.1))
set_option maxRecDepth 65536 in
set_option maxHeartbeats 40000000 in
theorem rm0m2 (l : Launch) (Z : State) (a0 : Array Value) (hw : ∀ d ∈ tables_1, d.before a0 Z = true) (ws : List Jvm.Cond) (p1 p2 : Int32) (cs : Int32) (h0 : Heap) (n0 : Nat) (Z0 : n0 ≤ h0.size) (S_c : Sta Z h0 "java/lang/String" "COMPACT_STRINGS" "Z" (.int cs)) (hcs : ¬ (cs = (0 : Int32))) (hc5 : ¬ ((p2 &&& (3 : Int32)) = (0 : Int32))) (hc15 : ¬ ((p2 &&& (3 : Int32)) = (1 : Int32))) (hc28 : (p2 &&& (3 : Int32)) = (2 : Int32)) :
    MetFree l x (head1 (Jvm.Cond.code x code maxLocals ret :: ws) room_1) (fun a U => a = #[(.int p1), (.int p2)] ∧ Z.Warmed39 U.vm ∧ U.heap = h0 ∧ CHv Z [("cohort/Lexer", 40)] U.vm h0) (fun _ _ _ _ _ => True) (fun _ U o U' => ∃ v L, o = .returned v ∧ QS Z (1 : Int32) h0 n0 v U'.heap L ∧ CHr Z [("cohort/Lexer", 40)] U.vm U.heap U'.vm U'.heap ∧ ReturnedEndW U o U' L room_1.cells room_1.slots) := by
  refine MetFree.of_bodySF (plainFor_of_name pn_0) hisR ?_
  intro p e s m args below meth c s₁ Bd hml0 hP hK
  obtain ⟨rfl, hZ, hh, hCH⟩ := hP
  have hx := Bd.exec
  have hby := Bd.bytes
  have hml : c.maxLocals = 4 := hml0
  have hown : s.vm.findClass "cohort/LexerIsSymbolCharPinLaw" = some m.cls := findClass_of_methodNamed Bd.named
  have hnm := (name_of_methodNamed Bd.named Bd.method).1
  have X0 : Stand p l e room_1 s m #[(.int p1), (.int p2)] below meth c s₁ [] 0 0 := Stand.of_body Bd
  have e0 : s₁.heap = h0 := by rw [← hh, Bd.state]; rfl
  have N0 := Fr.nil n0
  have pre0 : ∀ tz, Steps p.tables e below (s₁.setTop (mkF m 0 #[.val (.int p1), .val (.int p2), .unset, .unset] [])) tz → Steps p.tables e below (s₁.setTop (entryFrame m #[(.int p1), (.int p2)] maxLocals)) tz := fun tz kz => castTop (ef_0 m p1 p2) kz
  obtain ⟨_, _, ⟨T1, L1, k1, n1⟩, -, X1, hS1, hg1, ⟨Lc1, hQ1, l1, y1, z1, CR1⟩, st1⟩ := callSS (s := s) X0 hx (y := (⟨"cohort/Lexer", "isSymbolChar", "(I)Z"⟩ : MethodName)) hown (mvT hZ (hw _ (List.mem_of_getElem? (i := 1) rfl))) (mvT hZ (hw _ (List.mem_of_getElem? (i := 2) rfl))) (mvT hZ (hw _ (List.mem_of_getElem? (i := 3) rfl))) (mvT hZ (hw _ (List.mem_of_getElem? (i := 4) rfl))) (by decide) (backOfSH (s := s) (vm0 := s.vm) (W := 0) (rmSy l Z a0 hw [] (p1 &&& (65535 : Int32)) cs h0 n0 Z0 S_c hcs) hZ (hw _ (List.mem_of_getElem? (i := 4) rfl)) (hw _ (List.mem_of_getElem? (i := 3) rfl)) (by decide) (by decide) (own_ew hw) hCH) (g := (mkF m 50 #[.val (.int p1), .val (.int p2), .val (.int (p2 &&& (3 : Int32))), .val (.int (p1 &&& (65535 : Int32)))] [(.int (p1 &&& (65535 : Int32)))])) rfl (by rw [hml]; rfl) (argsL := [(.int (p1 &&& (65535 : Int32)))]) (rest := []) (lenOf pd_0_0 rfl) rfl (by show 2 * 0 + _ ≤ _; exact Nat.le_of_eq rfl) (hb hby at_50) (fun _ _ => ⟨rfl, e0, (by decide : 0 + 2 ≤ _), (by decide : 0 + 72 ≤ _)⟩)
  dsimp only [Pt.U, Pt.locs, Pt.cells, Pt.slots] at X1 l1 y1 z1 st1 hQ1 hS1 hg1 CR1
  subst l1 y1 z1
  obtain ⟨rfl, N1q⟩ := hQ1
  have N1 := Fr.app N0 N1q
  have hZ1 : Z.Warmed39 (s.setVm T1.vm).vm := State.Warmed39.trans (t := s) hZ hS1.1
  have hown1 : (s.setVm T1.vm).vm.findClass "cohort/LexerIsSymbolCharPinLaw" = some m.cls := by rw [show (s.setVm T1.vm).vm = T1.vm from rfl, hS1.1.alike.findClass]; exact hown
  have Zn1 : n0 ≤ T1.heap.size := Nat.le_trans Z0 (by rw [← e0]; exact hg1)
  obtain ⟨_, _, ⟨T2, L2, k2, n2⟩, -, X2, ⟨Lc2, hQ2, l2, y2, z2⟩, st2⟩ := Jvm.LawKit.callS X1 hx (y := (⟨"cohort/LexerIsSymbolCharPinLaw", "ref", "(I)Z"⟩ : MethodName)) hown1 (mvT hZ1 (hw _ (List.mem_of_getElem? (i := 58) rfl))) (mvT hZ1 (hw _ (List.mem_of_getElem? (i := 59) rfl))) (mvT hZ1 (hw _ (List.mem_of_getElem? (i := 60) rfl))) (mvT hZ1 (hw _ (List.mem_of_getElem? (i := 61) rfl))) (by decide) (backOf (W := 1) (rmRf l Z a0 hw [] (p1 &&& (65535 : Int32)) T1.heap n0 Zn1) hZ1 (hw _ (List.mem_of_getElem? (i := 61) rfl)) (hw _ (List.mem_of_getElem? (i := 60) rfl)) (by decide) (by decide)) (g := (mkF m 54 #[.val (.int p1), .val (.int p2), .val (.int (p2 &&& (3 : Int32))), .val (.int (p1 &&& (65535 : Int32)))] [(.int (p1 &&& (65535 : Int32))), (.int (own_sym (p1 &&& (65535 : Int32))))])) rfl (by rw [hml]; rfl) (argsL := [(.int (p1 &&& (65535 : Int32)))]) (rest := [(.int (own_sym (p1 &&& (65535 : Int32))))]) (lenOf pd_0_0 rfl) rfl (by show 2 * 0 + _ ≤ _; exact Nat.le_of_eq rfl) (hb hby at_54) (fun _ _ => ⟨rfl, rfl, (by decide : 2 + 0 ≤ _), (by decide : 72 + 0 ≤ _)⟩)
  dsimp only [Pt.U, Pt.locs, Pt.cells, Pt.slots] at X2 l2 y2 z2 st2 hQ2
  subst l2 y2 z2
  obtain ⟨rfl, N2q, eh2⟩ := hQ2
  have N2 := Fr.app N1 N2q
  obtain ⟨fs, hr, hrun, hended, hEW⟩ := X2.leaveW (s := s) hS1 (Nat.le_of_eq (congrArg Array.size eh2.symm)) (v := some (.int (1 : Int32))) (fun h => by rw [Bd.returns] at h; cases h)
  refine ⟨_, _, pre0 _ ?_, hrun, hended, _, _, rfl, ?_, ?_, hEW.1, hEW.2.1, hEW.2.2.1, hEW.2.2.2.mono (by decide) (by decide)⟩
  · show Steps p.tables e below (s₁.setTop (mkF m 0 #[.val (.int p1), .val (.int p2), .unset, .unset] [])) _
    refine XS.iloadN X0.here hx rfl (hb hby at_0) rfl ?_
    show Steps p.tables e below (s₁.setTop (mkF m 1 #[.val (.int p1), .val (.int p2), .unset, .unset] [(.int p2)])) _
    refine XS.iconst X0.here hx rfl (hb hby at_1) ?_
    show Steps p.tables e below (s₁.setTop (mkF m 2 #[.val (.int p1), .val (.int p2), .unset, .unset] [(.int (3 : Int32)), (.int p2)])) _
    refine XS.iand X0.here hx rfl (hb hby at_2) rfl ?_
    show Steps p.tables e below (s₁.setTop (mkF m 3 #[.val (.int p1), .val (.int p2), .unset, .unset] [(.int (p2 &&& (3 : Int32)))])) _
    refine XS.istoreN X0.here hx rfl (hb hby at_3) rfl (l' := #[.val (.int p1), .val (.int p2), .val (.int (p2 &&& (3 : Int32))), .unset]) rfl ?_
    show Steps p.tables e below (s₁.setTop (mkF m 4 #[.val (.int p1), .val (.int p2), .val (.int (p2 &&& (3 : Int32))), .unset] [])) _
    refine XS.iloadN X0.here hx rfl (hb hby at_4) rfl ?_
    show Steps p.tables e below (s₁.setTop (mkF m 5 #[.val (.int p1), .val (.int p2), .val (.int (p2 &&& (3 : Int32))), .unset] [(.int (p2 &&& (3 : Int32)))])) _
    refine XS.ifYes X0.here hx rfl (pc0 := 5) (pc' := 13) rfl (hb hby at_5) rfl ((if0 _ _).trans (feq (hc5 : ¬ ((p2 &&& (3 : Int32)) = (0 : Int32)))).2) (by decide) (by decide) ?_
    show Steps p.tables e below (s₁.setTop (mkF m 13 #[.val (.int p1), .val (.int p2), .val (.int (p2 &&& (3 : Int32))), .unset] [])) _
    refine XS.iloadN X0.here hx rfl (hb hby at_13) rfl ?_
    show Steps p.tables e below (s₁.setTop (mkF m 14 #[.val (.int p1), .val (.int p2), .val (.int (p2 &&& (3 : Int32))), .unset] [(.int (p2 &&& (3 : Int32)))])) _
    refine XS.iconst X0.here hx rfl (hb hby at_14) ?_
    show Steps p.tables e below (s₁.setTop (mkF m 15 #[.val (.int p1), .val (.int p2), .val (.int (p2 &&& (3 : Int32))), .unset] [(.int (1 : Int32)), (.int (p2 &&& (3 : Int32)))])) _
    refine XS.icmpYes X0.here hx rfl (pc0 := 15) (pc' := 26) rfl (hb hby at_15) rfl (feq (hc15 : ¬ ((p2 &&& (3 : Int32)) = (1 : Int32)))).2 (by decide) (by decide) ?_
    show Steps p.tables e below (s₁.setTop (mkF m 26 #[.val (.int p1), .val (.int p2), .val (.int (p2 &&& (3 : Int32))), .unset] [])) _
    refine XS.iloadN X0.here hx rfl (hb hby at_26) rfl ?_
    show Steps p.tables e below (s₁.setTop (mkF m 27 #[.val (.int p1), .val (.int p2), .val (.int (p2 &&& (3 : Int32))), .unset] [(.int (p2 &&& (3 : Int32)))])) _
    refine XS.iconst X0.here hx rfl (hb hby at_27) ?_
    show Steps p.tables e below (s₁.setTop (mkF m 28 #[.val (.int p1), .val (.int p2), .val (.int (p2 &&& (3 : Int32))), .unset] [(.int (2 : Int32)), (.int (p2 &&& (3 : Int32)))])) _
    refine XS.icmpNo X0.here hx rfl (hb hby at_28) rfl (teq (hc28 : (p2 &&& (3 : Int32)) = (2 : Int32))).2 ?_
    show Steps p.tables e below (s₁.setTop (mkF m 31 #[.val (.int p1), .val (.int p2), .val (.int (p2 &&& (3 : Int32))), .unset] [])) _
    refine XS.iloadN X0.here hx rfl (hb hby at_31) rfl ?_
    show Steps p.tables e below (s₁.setTop (mkF m 32 #[.val (.int p1), .val (.int p2), .val (.int (p2 &&& (3 : Int32))), .unset] [(.int p1)])) _
    refine X0.ldcInt hx hown (mvT hZ (hw _ (List.mem_of_getElem? (i := 62) rfl))) (g := (mkF m 32 #[.val (.int p1), .val (.int p2), .val (.int (p2 &&& (3 : Int32))), .unset] [(.int p1)])) rfl (hb hby at_32) _ ?_
    show Steps p.tables e below (s₁.setTop (mkF m 34 #[.val (.int p1), .val (.int p2), .val (.int (p2 &&& (3 : Int32))), .unset] [(.int (65535 : Int32)), (.int p1)])) _
    refine XS.iand X0.here hx rfl (hb hby at_34) rfl ?_
    show Steps p.tables e below (s₁.setTop (mkF m 35 #[.val (.int p1), .val (.int p2), .val (.int (p2 &&& (3 : Int32))), .unset] [(.int (p1 &&& (65535 : Int32)))])) _
    refine XS.istoreN X0.here hx rfl (hb hby at_35) rfl (l' := #[.val (.int p1), .val (.int p2), .val (.int (p2 &&& (3 : Int32))), .val (.int (p1 &&& (65535 : Int32)))]) rfl ?_
    show Steps p.tables e below (s₁.setTop (mkF m 36 #[.val (.int p1), .val (.int p2), .val (.int (p2 &&& (3 : Int32))), .val (.int (p1 &&& (65535 : Int32)))] [])) _
    refine XS.goto X0.here hx rfl (pc0 := 36) (pc' := 49) rfl (hb hby at_36) (by decide) (by decide) ?_
    show Steps p.tables e below (s₁.setTop (mkF m 49 #[.val (.int p1), .val (.int p2), .val (.int (p2 &&& (3 : Int32))), .val (.int (p1 &&& (65535 : Int32)))] [])) _
    refine XS.iloadN X0.here hx rfl (hb hby at_49) rfl ?_
    show Steps p.tables e below (s₁.setTop (mkF m 50 #[.val (.int p1), .val (.int p2), .val (.int (p2 &&& (3 : Int32))), .val (.int (p1 &&& (65535 : Int32)))] [(.int (p1 &&& (65535 : Int32)))])) _
    refine st1.trans ?_
    show Steps p.tables e below (T1.setTop (mkF m 53 #[.val (.int p1), .val (.int p2), .val (.int (p2 &&& (3 : Int32))), .val (.int (p1 &&& (65535 : Int32)))] [(.int (own_sym (p1 &&& (65535 : Int32))))])) _
    refine XS.iloadN X1.here hx rfl (hb hby at_53) rfl ?_
    show Steps p.tables e below (T1.setTop (mkF m 54 #[.val (.int p1), .val (.int p2), .val (.int (p2 &&& (3 : Int32))), .val (.int (p1 &&& (65535 : Int32)))] [(.int (p1 &&& (65535 : Int32))), (.int (own_sym (p1 &&& (65535 : Int32))))])) _
    refine st2 _ ?_
    show Steps p.tables e below (T2.setTop (mkF m 57 #[.val (.int p1), .val (.int p2), .val (.int (p2 &&& (3 : Int32))), .val (.int (p1 &&& (65535 : Int32)))] [(.int (own_ref (p1 &&& (65535 : Int32)))), (.int (own_sym (p1 &&& (65535 : Int32))))])) _
    refine XS.icmpNo X2.here hx rfl (hb hby at_57) rfl (teq (own_eq (p1 &&& (65535 : Int32)) : (own_sym (p1 &&& (65535 : Int32))) = (own_ref (p1 &&& (65535 : Int32))))).2 ?_
    show Steps p.tables e below (T2.setTop (mkF m 60 #[.val (.int p1), .val (.int p2), .val (.int (p2 &&& (3 : Int32))), .val (.int (p1 &&& (65535 : Int32)))] [])) _
    refine XS.iconst X2.here hx rfl (hb hby at_60) ?_
    show Steps p.tables e below (T2.setTop (mkF m 61 #[.val (.int p1), .val (.int p2), .val (.int (p2 &&& (3 : Int32))), .val (.int (p1 &&& (65535 : Int32)))] [(.int (1 : Int32))])) _
    refine XS.goto X2.here hx rfl (pc0 := 61) (pc' := 65) rfl (hb hby at_61) (by decide) (by decide) ?_
    show Steps p.tables e below (T2.setTop (mkF m 65 #[.val (.int p1), .val (.int p2), .val (.int (p2 &&& (3 : Int32))), .val (.int (p1 &&& (65535 : Int32)))] [(.int (1 : Int32))])) _
    exact retN X2 hx (t := .boolean) Bd.returns (by simp) (hb hby at_65) hr
  · show QS Z (1 : Int32) h0 n0 _ T2.heap _
    exact ⟨rfl, N2⟩
  · show CHr Z [("cohort/Lexer", 40)] s.vm s.heap T2.vm T2.heap
    rw [hh]
    exact (by rw [eh2]; exact CR1.trans (CHv.at X2 hZ1 (own_ew hw) CR1.1))
set_option maxRecDepth 65536 in
set_option maxHeartbeats 40000000 in
theorem rm0m3 (l : Launch) (Z : State) (a0 : Array Value) (hw : ∀ d ∈ tables_1, d.before a0 Z = true) (ws : List Jvm.Cond) (p1 p2 : Int32) (cs : Int32) (h0 : Heap) (n0 : Nat) (Z0 : n0 ≤ h0.size) (S_c : Sta Z h0 "java/lang/String" "COMPACT_STRINGS" "Z" (.int cs)) (hcs : ¬ (cs = (0 : Int32))) (hc5 : ¬ ((p2 &&& (3 : Int32)) = (0 : Int32))) (hc15 : ¬ ((p2 &&& (3 : Int32)) = (1 : Int32))) (hc28 : ¬ ((p2 &&& (3 : Int32)) = (2 : Int32))) :
    MetFree l x (head1 (Jvm.Cond.code x code maxLocals ret :: ws) room_1) (fun a U => a = #[(.int p1), (.int p2)] ∧ Z.Warmed39 U.vm ∧ U.heap = h0 ∧ CHv Z [("cohort/Lexer", 40)] U.vm h0) (fun _ _ _ _ _ => True) (fun _ U o U' => ∃ v L, o = .returned v ∧ QS Z (1 : Int32) h0 n0 v U'.heap L ∧ CHr Z [("cohort/Lexer", 40)] U.vm U.heap U'.vm U'.heap ∧ ReturnedEndW U o U' L room_1.cells room_1.slots) := by
  refine MetFree.of_bodySF (plainFor_of_name pn_0) hisR ?_
  intro p e s m args below meth c s₁ Bd hml0 hP hK
  obtain ⟨rfl, hZ, hh, hCH⟩ := hP
  have hx := Bd.exec
  have hby := Bd.bytes
  have hml : c.maxLocals = 4 := hml0
  have hown : s.vm.findClass "cohort/LexerIsSymbolCharPinLaw" = some m.cls := findClass_of_methodNamed Bd.named
  have hnm := (name_of_methodNamed Bd.named Bd.method).1
  have X0 : Stand p l e room_1 s m #[(.int p1), (.int p2)] below meth c s₁ [] 0 0 := Stand.of_body Bd
  have e0 : s₁.heap = h0 := by rw [← hh, Bd.state]; rfl
  have N0 := Fr.nil n0
  have pre0 : ∀ tz, Steps p.tables e below (s₁.setTop (mkF m 0 #[.val (.int p1), .val (.int p2), .unset, .unset] [])) tz → Steps p.tables e below (s₁.setTop (entryFrame m #[(.int p1), (.int p2)] maxLocals)) tz := fun tz kz => castTop (ef_0 m p1 p2) kz
  obtain ⟨_, _, ⟨T1, L1, k1, n1⟩, -, X1, hS1, hg1, ⟨Lc1, hQ1, l1, y1, z1, CR1⟩, st1⟩ := callSS (s := s) X0 hx (y := (⟨"cohort/Lexer", "isSymbolChar", "(I)Z"⟩ : MethodName)) hown (mvT hZ (hw _ (List.mem_of_getElem? (i := 1) rfl))) (mvT hZ (hw _ (List.mem_of_getElem? (i := 2) rfl))) (mvT hZ (hw _ (List.mem_of_getElem? (i := 3) rfl))) (mvT hZ (hw _ (List.mem_of_getElem? (i := 4) rfl))) (by decide) (backOfSH (s := s) (vm0 := s.vm) (W := 0) (rmSy l Z a0 hw [] ((p1 &&& (127 : Int32)) ||| (p1 &&& (-65536 : Int32))) cs h0 n0 Z0 S_c hcs) hZ (hw _ (List.mem_of_getElem? (i := 4) rfl)) (hw _ (List.mem_of_getElem? (i := 3) rfl)) (by decide) (by decide) (own_ew hw) hCH) (g := (mkF m 50 #[.val (.int p1), .val (.int p2), .val (.int (p2 &&& (3 : Int32))), .val (.int ((p1 &&& (127 : Int32)) ||| (p1 &&& (-65536 : Int32))))] [(.int ((p1 &&& (127 : Int32)) ||| (p1 &&& (-65536 : Int32))))])) rfl (by rw [hml]; rfl) (argsL := [(.int ((p1 &&& (127 : Int32)) ||| (p1 &&& (-65536 : Int32))))]) (rest := []) (lenOf pd_0_0 rfl) rfl (by show 2 * 0 + _ ≤ _; exact Nat.le_of_eq rfl) (hb hby at_50) (fun _ _ => ⟨rfl, e0, (by decide : 0 + 2 ≤ _), (by decide : 0 + 72 ≤ _)⟩)
  dsimp only [Pt.U, Pt.locs, Pt.cells, Pt.slots] at X1 l1 y1 z1 st1 hQ1 hS1 hg1 CR1
  subst l1 y1 z1
  obtain ⟨rfl, N1q⟩ := hQ1
  have N1 := Fr.app N0 N1q
  have hZ1 : Z.Warmed39 (s.setVm T1.vm).vm := State.Warmed39.trans (t := s) hZ hS1.1
  have hown1 : (s.setVm T1.vm).vm.findClass "cohort/LexerIsSymbolCharPinLaw" = some m.cls := by rw [show (s.setVm T1.vm).vm = T1.vm from rfl, hS1.1.alike.findClass]; exact hown
  have Zn1 : n0 ≤ T1.heap.size := Nat.le_trans Z0 (by rw [← e0]; exact hg1)
  obtain ⟨_, _, ⟨T2, L2, k2, n2⟩, -, X2, ⟨Lc2, hQ2, l2, y2, z2⟩, st2⟩ := Jvm.LawKit.callS X1 hx (y := (⟨"cohort/LexerIsSymbolCharPinLaw", "ref", "(I)Z"⟩ : MethodName)) hown1 (mvT hZ1 (hw _ (List.mem_of_getElem? (i := 58) rfl))) (mvT hZ1 (hw _ (List.mem_of_getElem? (i := 59) rfl))) (mvT hZ1 (hw _ (List.mem_of_getElem? (i := 60) rfl))) (mvT hZ1 (hw _ (List.mem_of_getElem? (i := 61) rfl))) (by decide) (backOf (W := 1) (rmRf l Z a0 hw [] ((p1 &&& (127 : Int32)) ||| (p1 &&& (-65536 : Int32))) T1.heap n0 Zn1) hZ1 (hw _ (List.mem_of_getElem? (i := 61) rfl)) (hw _ (List.mem_of_getElem? (i := 60) rfl)) (by decide) (by decide)) (g := (mkF m 54 #[.val (.int p1), .val (.int p2), .val (.int (p2 &&& (3 : Int32))), .val (.int ((p1 &&& (127 : Int32)) ||| (p1 &&& (-65536 : Int32))))] [(.int ((p1 &&& (127 : Int32)) ||| (p1 &&& (-65536 : Int32)))), (.int (own_sym ((p1 &&& (127 : Int32)) ||| (p1 &&& (-65536 : Int32)))))])) rfl (by rw [hml]; rfl) (argsL := [(.int ((p1 &&& (127 : Int32)) ||| (p1 &&& (-65536 : Int32))))]) (rest := [(.int (own_sym ((p1 &&& (127 : Int32)) ||| (p1 &&& (-65536 : Int32)))))]) (lenOf pd_0_0 rfl) rfl (by show 2 * 0 + _ ≤ _; exact Nat.le_of_eq rfl) (hb hby at_54) (fun _ _ => ⟨rfl, rfl, (by decide : 2 + 0 ≤ _), (by decide : 72 + 0 ≤ _)⟩)
  dsimp only [Pt.U, Pt.locs, Pt.cells, Pt.slots] at X2 l2 y2 z2 st2 hQ2
  subst l2 y2 z2
  obtain ⟨rfl, N2q, eh2⟩ := hQ2
  have N2 := Fr.app N1 N2q
  obtain ⟨fs, hr, hrun, hended, hEW⟩ := X2.leaveW (s := s) hS1 (Nat.le_of_eq (congrArg Array.size eh2.symm)) (v := some (.int (1 : Int32))) (fun h => by rw [Bd.returns] at h; cases h)
  refine ⟨_, _, pre0 _ ?_, hrun, hended, _, _, rfl, ?_, ?_, hEW.1, hEW.2.1, hEW.2.2.1, hEW.2.2.2.mono (by decide) (by decide)⟩
  · show Steps p.tables e below (s₁.setTop (mkF m 0 #[.val (.int p1), .val (.int p2), .unset, .unset] [])) _
    refine XS.iloadN X0.here hx rfl (hb hby at_0) rfl ?_
    show Steps p.tables e below (s₁.setTop (mkF m 1 #[.val (.int p1), .val (.int p2), .unset, .unset] [(.int p2)])) _
    refine XS.iconst X0.here hx rfl (hb hby at_1) ?_
    show Steps p.tables e below (s₁.setTop (mkF m 2 #[.val (.int p1), .val (.int p2), .unset, .unset] [(.int (3 : Int32)), (.int p2)])) _
    refine XS.iand X0.here hx rfl (hb hby at_2) rfl ?_
    show Steps p.tables e below (s₁.setTop (mkF m 3 #[.val (.int p1), .val (.int p2), .unset, .unset] [(.int (p2 &&& (3 : Int32)))])) _
    refine XS.istoreN X0.here hx rfl (hb hby at_3) rfl (l' := #[.val (.int p1), .val (.int p2), .val (.int (p2 &&& (3 : Int32))), .unset]) rfl ?_
    show Steps p.tables e below (s₁.setTop (mkF m 4 #[.val (.int p1), .val (.int p2), .val (.int (p2 &&& (3 : Int32))), .unset] [])) _
    refine XS.iloadN X0.here hx rfl (hb hby at_4) rfl ?_
    show Steps p.tables e below (s₁.setTop (mkF m 5 #[.val (.int p1), .val (.int p2), .val (.int (p2 &&& (3 : Int32))), .unset] [(.int (p2 &&& (3 : Int32)))])) _
    refine XS.ifYes X0.here hx rfl (pc0 := 5) (pc' := 13) rfl (hb hby at_5) rfl ((if0 _ _).trans (feq (hc5 : ¬ ((p2 &&& (3 : Int32)) = (0 : Int32)))).2) (by decide) (by decide) ?_
    show Steps p.tables e below (s₁.setTop (mkF m 13 #[.val (.int p1), .val (.int p2), .val (.int (p2 &&& (3 : Int32))), .unset] [])) _
    refine XS.iloadN X0.here hx rfl (hb hby at_13) rfl ?_
    show Steps p.tables e below (s₁.setTop (mkF m 14 #[.val (.int p1), .val (.int p2), .val (.int (p2 &&& (3 : Int32))), .unset] [(.int (p2 &&& (3 : Int32)))])) _
    refine XS.iconst X0.here hx rfl (hb hby at_14) ?_
    show Steps p.tables e below (s₁.setTop (mkF m 15 #[.val (.int p1), .val (.int p2), .val (.int (p2 &&& (3 : Int32))), .unset] [(.int (1 : Int32)), (.int (p2 &&& (3 : Int32)))])) _
    refine XS.icmpYes X0.here hx rfl (pc0 := 15) (pc' := 26) rfl (hb hby at_15) rfl (feq (hc15 : ¬ ((p2 &&& (3 : Int32)) = (1 : Int32)))).2 (by decide) (by decide) ?_
    show Steps p.tables e below (s₁.setTop (mkF m 26 #[.val (.int p1), .val (.int p2), .val (.int (p2 &&& (3 : Int32))), .unset] [])) _
    refine XS.iloadN X0.here hx rfl (hb hby at_26) rfl ?_
    show Steps p.tables e below (s₁.setTop (mkF m 27 #[.val (.int p1), .val (.int p2), .val (.int (p2 &&& (3 : Int32))), .unset] [(.int (p2 &&& (3 : Int32)))])) _
    refine XS.iconst X0.here hx rfl (hb hby at_27) ?_
    show Steps p.tables e below (s₁.setTop (mkF m 28 #[.val (.int p1), .val (.int p2), .val (.int (p2 &&& (3 : Int32))), .unset] [(.int (2 : Int32)), (.int (p2 &&& (3 : Int32)))])) _
    refine XS.icmpYes X0.here hx rfl (pc0 := 28) (pc' := 39) rfl (hb hby at_28) rfl (feq (hc28 : ¬ ((p2 &&& (3 : Int32)) = (2 : Int32)))).2 (by decide) (by decide) ?_
    show Steps p.tables e below (s₁.setTop (mkF m 39 #[.val (.int p1), .val (.int p2), .val (.int (p2 &&& (3 : Int32))), .unset] [])) _
    refine XS.iloadN X0.here hx rfl (hb hby at_39) rfl ?_
    show Steps p.tables e below (s₁.setTop (mkF m 40 #[.val (.int p1), .val (.int p2), .val (.int (p2 &&& (3 : Int32))), .unset] [(.int p1)])) _
    refine XS.bipush X0.here hx rfl (hb hby at_40) ?_
    show Steps p.tables e below (s₁.setTop (mkF m 42 #[.val (.int p1), .val (.int p2), .val (.int (p2 &&& (3 : Int32))), .unset] [(.int (127 : Int32)), (.int p1)])) _
    refine XS.iand X0.here hx rfl (hb hby at_42) rfl ?_
    show Steps p.tables e below (s₁.setTop (mkF m 43 #[.val (.int p1), .val (.int p2), .val (.int (p2 &&& (3 : Int32))), .unset] [(.int (p1 &&& (127 : Int32)))])) _
    refine XS.iloadN X0.here hx rfl (hb hby at_43) rfl ?_
    show Steps p.tables e below (s₁.setTop (mkF m 44 #[.val (.int p1), .val (.int p2), .val (.int (p2 &&& (3 : Int32))), .unset] [(.int p1), (.int (p1 &&& (127 : Int32)))])) _
    refine X0.ldcInt hx hown (mvT hZ (hw _ (List.mem_of_getElem? (i := 0) rfl))) (g := (mkF m 44 #[.val (.int p1), .val (.int p2), .val (.int (p2 &&& (3 : Int32))), .unset] [(.int p1), (.int (p1 &&& (127 : Int32)))])) rfl (hb hby at_44) _ ?_
    show Steps p.tables e below (s₁.setTop (mkF m 46 #[.val (.int p1), .val (.int p2), .val (.int (p2 &&& (3 : Int32))), .unset] [(.int (-65536 : Int32)), (.int p1), (.int (p1 &&& (127 : Int32)))])) _
    refine XS.iand X0.here hx rfl (hb hby at_46) rfl ?_
    show Steps p.tables e below (s₁.setTop (mkF m 47 #[.val (.int p1), .val (.int p2), .val (.int (p2 &&& (3 : Int32))), .unset] [(.int (p1 &&& (-65536 : Int32))), (.int (p1 &&& (127 : Int32)))])) _
    refine XS.ior X0.here hx rfl (hb hby at_47) rfl ?_
    show Steps p.tables e below (s₁.setTop (mkF m 48 #[.val (.int p1), .val (.int p2), .val (.int (p2 &&& (3 : Int32))), .unset] [(.int ((p1 &&& (127 : Int32)) ||| (p1 &&& (-65536 : Int32))))])) _
    refine XS.istoreN X0.here hx rfl (hb hby at_48) rfl (l' := #[.val (.int p1), .val (.int p2), .val (.int (p2 &&& (3 : Int32))), .val (.int ((p1 &&& (127 : Int32)) ||| (p1 &&& (-65536 : Int32))))]) rfl ?_
    show Steps p.tables e below (s₁.setTop (mkF m 49 #[.val (.int p1), .val (.int p2), .val (.int (p2 &&& (3 : Int32))), .val (.int ((p1 &&& (127 : Int32)) ||| (p1 &&& (-65536 : Int32))))] [])) _
    refine XS.iloadN X0.here hx rfl (hb hby at_49) rfl ?_
    show Steps p.tables e below (s₁.setTop (mkF m 50 #[.val (.int p1), .val (.int p2), .val (.int (p2 &&& (3 : Int32))), .val (.int ((p1 &&& (127 : Int32)) ||| (p1 &&& (-65536 : Int32))))] [(.int ((p1 &&& (127 : Int32)) ||| (p1 &&& (-65536 : Int32))))])) _
    refine st1.trans ?_
    show Steps p.tables e below (T1.setTop (mkF m 53 #[.val (.int p1), .val (.int p2), .val (.int (p2 &&& (3 : Int32))), .val (.int ((p1 &&& (127 : Int32)) ||| (p1 &&& (-65536 : Int32))))] [(.int (own_sym ((p1 &&& (127 : Int32)) ||| (p1 &&& (-65536 : Int32)))))])) _
    refine XS.iloadN X1.here hx rfl (hb hby at_53) rfl ?_
    show Steps p.tables e below (T1.setTop (mkF m 54 #[.val (.int p1), .val (.int p2), .val (.int (p2 &&& (3 : Int32))), .val (.int ((p1 &&& (127 : Int32)) ||| (p1 &&& (-65536 : Int32))))] [(.int ((p1 &&& (127 : Int32)) ||| (p1 &&& (-65536 : Int32)))), (.int (own_sym ((p1 &&& (127 : Int32)) ||| (p1 &&& (-65536 : Int32)))))])) _
    refine st2 _ ?_
    show Steps p.tables e below (T2.setTop (mkF m 57 #[.val (.int p1), .val (.int p2), .val (.int (p2 &&& (3 : Int32))), .val (.int ((p1 &&& (127 : Int32)) ||| (p1 &&& (-65536 : Int32))))] [(.int (own_ref ((p1 &&& (127 : Int32)) ||| (p1 &&& (-65536 : Int32))))), (.int (own_sym ((p1 &&& (127 : Int32)) ||| (p1 &&& (-65536 : Int32)))))])) _
    refine XS.icmpNo X2.here hx rfl (hb hby at_57) rfl (teq (own_eq ((p1 &&& (127 : Int32)) ||| (p1 &&& (-65536 : Int32))) : (own_sym ((p1 &&& (127 : Int32)) ||| (p1 &&& (-65536 : Int32)))) = (own_ref ((p1 &&& (127 : Int32)) ||| (p1 &&& (-65536 : Int32)))))).2 ?_
    show Steps p.tables e below (T2.setTop (mkF m 60 #[.val (.int p1), .val (.int p2), .val (.int (p2 &&& (3 : Int32))), .val (.int ((p1 &&& (127 : Int32)) ||| (p1 &&& (-65536 : Int32))))] [])) _
    refine XS.iconst X2.here hx rfl (hb hby at_60) ?_
    show Steps p.tables e below (T2.setTop (mkF m 61 #[.val (.int p1), .val (.int p2), .val (.int (p2 &&& (3 : Int32))), .val (.int ((p1 &&& (127 : Int32)) ||| (p1 &&& (-65536 : Int32))))] [(.int (1 : Int32))])) _
    refine XS.goto X2.here hx rfl (pc0 := 61) (pc' := 65) rfl (hb hby at_61) (by decide) (by decide) ?_
    show Steps p.tables e below (T2.setTop (mkF m 65 #[.val (.int p1), .val (.int p2), .val (.int (p2 &&& (3 : Int32))), .val (.int ((p1 &&& (127 : Int32)) ||| (p1 &&& (-65536 : Int32))))] [(.int (1 : Int32))])) _
    exact retN X2 hx (t := .boolean) Bd.returns (by simp) (hb hby at_65) hr
  · show QS Z (1 : Int32) h0 n0 _ T2.heap _
    exact ⟨rfl, N2⟩
  · show CHr Z [("cohort/Lexer", 40)] s.vm s.heap T2.vm T2.heap
    rw [hh]
    exact (by rw [eh2]; exact CR1.trans (CHv.at X2 hZ1 (own_ew hw) CR1.1))
theorem rm0 (l : Launch) (Z : State) (a0 : Array Value) (hw : ∀ d ∈ tables_1, d.before a0 Z = true) (ws : List Jvm.Cond) (p1 p2 : Int32) (cs : Int32) (h0 : Heap) (n0 : Nat) (Z0 : n0 ≤ h0.size) (S_c : Sta Z h0 "java/lang/String" "COMPACT_STRINGS" "Z" (.int cs)) (hcs : ¬ (cs = (0 : Int32))) :
    MetFree l x (head1 (Jvm.Cond.code x code maxLocals ret :: ws) room_1) (fun a U => a = #[(.int p1), (.int p2)] ∧ Z.Warmed39 U.vm ∧ U.heap = h0 ∧ CHv Z [("cohort/Lexer", 40)] U.vm h0) (fun _ _ _ _ _ => True) (fun _ U o U' => ∃ v L, o = .returned v ∧ QS Z (1 : Int32) h0 n0 v U'.heap L ∧ CHr Z [("cohort/Lexer", 40)] U.vm U.heap U'.vm U'.heap ∧ ReturnedEndW U o U' L room_1.cells room_1.slots) := by
  by_cases h0m : (p2 &&& (3 : Int32)) = (0 : Int32)
  · exact rm0m0 l Z a0 hw ws p1 p2 cs h0 n0 Z0 S_c hcs h0m
  by_cases h1m : (p2 &&& (3 : Int32)) = (1 : Int32)
  · exact rm0m1 l Z a0 hw ws p1 p2 cs h0 n0 Z0 S_c hcs h0m h1m
  by_cases h2m : (p2 &&& (3 : Int32)) = (2 : Int32)
  · exact rm0m2 l Z a0 hw ws p1 p2 cs h0 n0 Z0 S_c hcs h0m h1m h2m
  · exact rm0m3 l Z a0 hw ws p1 p2 cs h0 n0 Z0 S_c hcs h0m h1m h2m
set_option maxRecDepth 65536 in
set_option maxHeartbeats 40000000 in
theorem comes_1 {Post : Tables → Env → Array Value → State → Outcome → State → Prop} (hpost : ∀ tb e args s v u, (limb_1_1.after args s (.returned v) u = true ∧ limb_1_2.after args s (.returned v) u = true ∧ True) → ReturnedEndW s (.returned v) u (Jvm.fieldLocs frame_1_writes args s ++ Jvm.arrayLocs frame_1_arrays args s ++ Jvm.staticLocs frame_1_statics s) 8 1088 → Post tb e args s (.returned v) u) :
    ArmFor flags0 classFile x code maxLocals ret World_1 tables_1 room_1 Calls_1 rest_1 Pre_1 Post := by
  intro l hfl _ _ p e ha hc hk s m args below hf hA hF happ hP
  obtain ⟨hcalls, hrest, hpre⟩ := hP
  obtain ⟨-, -, -, hnamed, -, -, -, hat⟩ := (Spec.applies_iff hf).mp happ
  obtain ⟨hg, hn⟩ := and_e (Cond.before_iff.mp (show (Jvm.Cond.and given_1 narrow_1).before args s = true from hpre))
  obtain ⟨u0, r0⟩ := and_e hg
  obtain ⟨u1, u2⟩ := and_e r0
  obtain ⟨w0, w1, rfl⟩ : ∃ w0 w1 : Value, args = #[w0, w1] := by
    have hs : args.size = 2 := by simpa [Cond.value, given_1] using u0
    obtain ⟨L⟩ := args
    match L, hs with
    | [w0, w1], _ => exact ⟨w0, w1, rfl⟩
  have hw := fun d (hd : d ∈ tables_1) => atoms_spec (ws := Jvm.Cond.code x code maxLocals ret :: tables_1) hat d (List.mem_cons_of_mem _ hd)
  obtain ⟨hsets, hown0⟩ := atoms_of _ (rest_1_c_eq ▸ (show rest_1_c.before _ s = true from hrest))
  obtain ⟨i0, ei0⟩ := is_v u1
  obtain rfl : w0 = (.int i0) := Option.some.inj ei0
  obtain ⟨i1, ei1⟩ := is_v u2
  obtain rfl : w1 = (.int i1) := Option.some.inj ei1
  obtain ⟨cs, ecs⟩ := is_v (Cond.before_iff.mp (hsets _ (List.mem_of_getElem? (i := 1) rfl)))
  have S_c := Sta.start ecs (Or.inl (hsets _ (List.mem_of_getElem? (i := 0) rfl)))
  have hcw := hsets _ (List.mem_of_getElem? (i := 2) rfl)
  have hcs : ¬ (cs = (0 : Int32)) := by
    have q := not_v (Cond.before_iff.mp hcw)
    intro h0
    subst h0
    cases (eq_i ecs (Term.int_eval (0)) rfl).symm.trans q
  have hCH : CHv s [("cohort/Lexer", 40)] s.vm s.heap := CHv.start (own_ew hw) (fun q hq => by
    cases List.mem_singleton.mp hq
    exact hcalls.1 _ (List.mem_singleton.mpr rfl)) hcw (hw _ (List.mem_of_getElem? (i := 8) rfl)) (hw _ (List.mem_of_getElem? (i := 7) rfl))
  obtain ⟨n, o, h1, h2, h3, _, L, rfl, ⟨rfl, N⟩, -, hq⟩ := rm0 l s _ hw tables_1 i0 i1 cs s.heap s.heap.size (Nat.le_refl _) S_c hcs p e ha hc hk s m _ below hf ((Spec.applies_iff_loose hf).mp happ).1 ⟨rfl, State.Warmed39.refl s, rfl, hCH⟩ trivial
  refine ⟨n, _, h1, h2, h3, hpost _ _ _ _ _ _ ⟨Cond.after_iff.mpr rfl, Cond.after_iff.mpr (eq_i res_at (Term.int_eval (1)) rfl), trivial⟩ ⟨hq.1, hq.2.1, hq.2.2.1, (hq.2.2.2.sift fun y hy => Or.inr (N y hy)).mono (by decide) (by decide)⟩⟩
theorem main_1_1 : Claimed_1_1 := comes_1 fun _ _ _ _ _ _ h hF => ⟨h.1, hF⟩
theorem main_1_2 : Claimed_1_2 := comes_1 fun _ _ _ _ _ _ h hF => ⟨h.2.1, hF⟩
end Jvm.Pilot.@@N@@
namespace Jvm.Pilot.@@N@@
open Jvm Jvm.ClassFile Sem Op Lib Jvm.Free Jvm.Stand Jvm.Pilot.@@N@@.Jvm.D
/-! MADE BY PROGRAM (witnessworld.py) out of the Statement's table words and the real class files: 18 classes; the members and pool entries that the words name. The judged class is class 1, her method 1. -/
namespace start1
open Jvm.ClassFile
def u (s : String) : CpInfo := .utf8 (stringToUtf16 s)
/-- a pool by its gaps: so many unusable entries, then the entry; so many at the end -/
def gap : Nat → List CpInfo → List CpInfo
  | 0, r => r
  | n + 1, r => .unusable :: gap n r
def poolList (es : List (Nat × CpInfo)) (last : Nat) : List CpInfo := es.foldr (fun e r => gap e.1 (e.2 :: r)) (gap last [])
def pool (es : List (Nat × CpInfo)) (last : Nat) : Array CpInfo := ⟨poolList es last⟩
def fileOf (pool : Array CpInfo) (this : Nat) (attrs : Array Attribute := #[]) (ms : Array MethodInfo := #[]) (fl : Nat := 33) (sup : Nat := 0) (ifs : Array Nat := #[]) (fds : Array FieldInfo := #[]) : ClassFile where
  minorVersion := 0
  majorVersion := 65
  constantPool := pool
  accessFlags := fl
  thisClass := this
  superClass := sup
  interfaces := ifs
  fields := fds
  methods := ms
  attributes := attrs
def plain (name : String) (sup : Option ClassId) : Class where
  name := name
  kind := .ordinary
  loader := none
  accessFlags := 33
  super := sup
  interfaces := #[]
  cf := none
  fields := #[]
  methods := #[]
  instanceTypes := #[]
  staticTypes := #[]
  resolved := #[]
  callSites := []
  init := .initialized
  statics := none
  mirror := none

def pool0 : Array CpInfo := pool [(5, u "<init>"), (0, u "()V"), (1, .class_ 10), (1, u "java/lang/Object")] 113

def k0m0 : Method := { name := "<init>", desc := "()V", sig := { parameters := [], returnType := none }, accessFlags := 1, code := none }
/-- java/lang/Object -/
def k0 : Class := { plain "java/lang/Object" none with
  accessFlags := 33
  interfaces := #[]
  cf := some (fileOf pool0 8 #[] #[{ accessFlags := 1, nameIndex := 5, descriptorIndex := 6, attributes := #[] }] 33 0 #[] #[])
  fields := #[]
  methods := #[k0m0]
  instanceTypes := #[]
  staticTypes := #[]
  resolved := Array.replicate 124 none
  statics := none }

def pool1 : Array CpInfo := pool [(2, .class_ 4), (1, u "java/lang/Object"), (0, u "<init>"), (0, u "()V"), (0, .integer 65535), (0, .integer 4294901760), (0, .methodref 10 11), (0, .class_ 12), (0, .nameAndType 13 14), (0, u "cohort/Lexer"), (0, u "isSymbolChar"), (0, u "(I)Z"), (0, .methodref 16 17), (0, .class_ 18), (0, .nameAndType 19 14), (0, u "cohort/LexerIsSymbolCharPinLaw"), (0, u "ref"), (2, u "law"), (0, u "(II)Z")] 3

def k1m0 : Method := { name := "<init>", desc := "()V", sig := { parameters := [], returnType := none }, accessFlags := 1, code := none }
def k1c1 : Code := { maxStack := 3, maxLocals := 4, code := code, exceptionTable := #[], attributes := #[] }
def k1m1 : Method := { name := "law", desc := "(II)Z", sig := { parameters := [.int, .int], returnType := some .boolean }, accessFlags := 9, code := some k1c1 }
def k1c2 : Code := { maxStack := 2, maxLocals := 1, code := method_3_code, exceptionTable := #[], attributes := #[] }
def k1m2 : Method := { name := "ref", desc := "(I)Z", sig := { parameters := [.int], returnType := some .boolean }, accessFlags := 10, code := some k1c2 }
/-- cohort/LexerIsSymbolCharPinLaw -/
def k1 : Class := { plain "cohort/LexerIsSymbolCharPinLaw" (some 0) with
  accessFlags := 49
  interfaces := #[]
  cf := some (fileOf pool1 16 #[] #[{ accessFlags := 1, nameIndex := 5, descriptorIndex := 6, attributes := #[] }, { accessFlags := 9, nameIndex := 22, descriptorIndex := 23, attributes := #[] }, { accessFlags := 10, nameIndex := 19, descriptorIndex := 14, attributes := #[] }] 49 2 #[] #[])
  fields := #[]
  methods := #[k1m0, k1m1, k1m2]
  instanceTypes := #[]
  staticTypes := #[]
  resolved := Array.replicate 27 none
  statics := none }

def pool2 : Array CpInfo := pool [(2, .class_ 4), (1, u "java/lang/Object"), (3, .class_ 10), (1, u "cohort/Lexer"), (0, u "line"), (0, u "I"), (2, u "column"), (2, u "file"), (0, u "Ljava/lang/String;"), (1, .class_ 23), (1, u "java/lang/String"), (10, u "text"), (0, u "[I"), (3, u "pos"), (0, .string 41), (0, u "#$&*+-./:<=>?@^~\\"), (0, .methodref 21 43), (0, .nameAndType 44 45), (0, u "indexOf"), (0, u "(I)I"), (5, u "(I)Z"), (82, u "isSymbolChar"), (113, u "SYMBOL_CHARS")] 28

def k2c0 : Code := { maxStack := 2, maxLocals := 1, code := prog_30_method_2_code, exceptionTable := #[], attributes := #[] }
def k2m0 : Method := { name := "isSymbolChar", desc := "(I)Z", sig := { parameters := [.int], returnType := some .boolean }, accessFlags := 8, code := some k2c0 }
/-- cohort/Lexer -/
def k2 : Class := { plain "cohort/Lexer" (some 0) with
  accessFlags := 48
  interfaces := #[]
  cf := some (fileOf pool2 8 #[] #[{ accessFlags := 8, nameIndex := 134, descriptorIndex := 51, attributes := #[] }] 48 2 #[] #[{ accessFlags := 26, nameIndex := 248, descriptorIndex := 19, attributes := #[] }, { accessFlags := 18, nameIndex := 18, descriptorIndex := 19, attributes := #[] }, { accessFlags := 18, nameIndex := 34, descriptorIndex := 35, attributes := #[] }, { accessFlags := 2, nameIndex := 39, descriptorIndex := 12, attributes := #[] }, { accessFlags := 2, nameIndex := 11, descriptorIndex := 12, attributes := #[] }, { accessFlags := 2, nameIndex := 15, descriptorIndex := 12, attributes := #[] }])
  fields := #[{ name := "SYMBOL_CHARS", type := (.object "java/lang/String"), accessFlags := 26, slot := 0, constantValue := 0 }, { name := "file", type := (.object "java/lang/String"), accessFlags := 18, slot := 0, constantValue := 0 }, { name := "text", type := (.array .int), accessFlags := 18, slot := 1, constantValue := 0 }, { name := "pos", type := .int, accessFlags := 2, slot := 2, constantValue := 0 }, { name := "line", type := .int, accessFlags := 2, slot := 3, constantValue := 0 }, { name := "column", type := .int, accessFlags := 2, slot := 4, constantValue := 0 }]
  methods := #[k2m0]
  instanceTypes := #[(.object "java/lang/String"), (.array .int), .int, .int, .int]
  staticTypes := #[(.object "java/lang/String")]
  resolved := Array.replicate 277 none
  statics := none }

def pool3 : Array CpInfo := pool [(1, .class_ 2), (0, u "java/io/Serializable"), (0, .class_ 4), (0, u "java/lang/Object")] 2

/-- java/io/Serializable -/
def k3 : Class := { plain "java/io/Serializable" (some 0) with
  accessFlags := 1537
  interfaces := #[]
  cf := some (fileOf pool3 1 #[] #[] 1537 3 #[] #[])
  fields := #[]
  methods := #[]
  instanceTypes := #[]
  staticTypes := #[]
  resolved := Array.replicate 7 none
  statics := none }

def pool4 : Array CpInfo := pool [(1, .class_ 2), (0, u "java/lang/Comparable"), (0, .class_ 4), (0, u "java/lang/Object")] 7

/-- java/lang/Comparable -/
def k4 : Class := { plain "java/lang/Comparable" (some 0) with
  accessFlags := 1537
  interfaces := #[]
  cf := some (fileOf pool4 1 #[] #[] 1537 3 #[] #[])
  fields := #[]
  methods := #[]
  instanceTypes := #[]
  staticTypes := #[]
  resolved := Array.replicate 12 none
  statics := none }

def pool5 : Array CpInfo := pool [(2, .class_ 4), (1, u "java/lang/CharSequence"), (42, .class_ 48), (0, u "java/lang/CharSequence$1CodePointIterator"), (10, .class_ 60), (0, u "java/lang/CharSequence$1CharIterator"), (5, .class_ 67), (0, u "java/lang/Object")] 63

/-- java/lang/CharSequence -/
def k5 : Class := { plain "java/lang/CharSequence" (some 0) with
  accessFlags := 1537
  interfaces := #[]
  cf := some (fileOf pool5 2 #[.nestMembers #[47, 59]] #[] 1537 66 #[] #[])
  fields := #[]
  methods := #[]
  instanceTypes := #[]
  staticTypes := #[]
  resolved := Array.replicate 131 none
  statics := none }

def pool6 : Array CpInfo := pool [(1, .class_ 2), (0, u "java/lang/constant/Constable"), (0, .class_ 4), (0, u "java/lang/Object")] 6

/-- java/lang/constant/Constable -/
def k6 : Class := { plain "java/lang/constant/Constable" (some 0) with
  accessFlags := 1537
  interfaces := #[]
  cf := some (fileOf pool6 1 #[] #[] 1537 3 #[] #[])
  fields := #[]
  methods := #[]
  instanceTypes := #[]
  staticTypes := #[]
  resolved := Array.replicate 11 none
  statics := none }

def pool7 : Array CpInfo := pool [(1, .class_ 2), (0, u "java/lang/constant/ConstantDesc"), (0, .class_ 4), (0, u "java/lang/Object")] 32

/-- java/lang/constant/ConstantDesc -/
def k7 : Class := { plain "java/lang/constant/ConstantDesc" (some 0) with
  accessFlags := 1537
  interfaces := #[]
  cf := some (fileOf pool7 1 #[] #[] 1537 3 #[] #[])
  fields := #[]
  methods := #[]
  instanceTypes := #[]
  staticTypes := #[]
  resolved := Array.replicate 37 none
  statics := none }

def pool8 : Array CpInfo := pool [(2, .class_ 4), (1, u "java/lang/Object"), (0, u "<init>"), (0, u "()V"), (2, .fieldref 10 11), (0, .class_ 12), (0, .nameAndType 13 14), (0, u "java/lang/String"), (0, u "value"), (0, u "[B"), (0, .fieldref 10 16), (0, .nameAndType 17 18), (0, u "coder"), (0, u "B"), (2, u "hash"), (0, u "I"), (2, u "hashIsZero"), (0, u "Z"), (11, .fieldref 10 39), (0, .nameAndType 40 26), (0, u "COMPACT_STRINGS"), (66, .class_ 109), (1, u "java/lang/StringLatin1"), (32, u "()Z"), (191, u "()I"), (0, .methodref 10 336), (0, .nameAndType 17 337), (0, u "()B"), (154, .methodref 10 493), (0, .nameAndType 494 142), (0, u "isLatin1"), (10, .methodref 10 506), (0, .nameAndType 507 334), (0, u "length"), (67, .class_ 576), (0, u "java/lang/CharSequence"), (22, u "CASE_INSENSITIVE_ORDER"), (0, u "Ljava/util/Comparator;"), (32, .methodref 10 634), (0, .nameAndType 635 636), (0, u "indexOf"), (0, u "(II)I"), (0, .methodref 107 638), (0, .nameAndType 635 639), (0, u "([BIII)I"), (125, u "(I)I"), (335, u "serialPersistentFields"), (0, u "[Ljava/io/ObjectStreamField;"), (0, .class_ 1104), (0, u "java/lang/String$CaseInsensitiveComparator"), (1, .class_ 1107), (0, u "java/io/Serializable"), (0, .class_ 1109), (0, u "java/lang/Comparable"), (0, .class_ 1111), (0, u "java/lang/constant/Constable"), (0, .class_ 1113), (0, u "java/lang/constant/ConstantDesc"), (2, u "serialVersionUID"), (0, u "J"), (3, u "REPL"), (0, u "C"), (2, u "LATIN1"), (1, u "UTF16")] 323

def k8m0 : Method := { name := "<init>", desc := "()V", sig := { parameters := [], returnType := none }, accessFlags := 1, code := none }
def k8c1 : Code := { maxStack := 2, maxLocals := 1, code := jdk_42_method_54_code, exceptionTable := #[], attributes := #[] }
def k8m1 : Method := { name := "length", desc := "()I", sig := { parameters := [], returnType := some .int }, accessFlags := 1, code := some k8c1 }
def k8c2 : Code := { maxStack := 3, maxLocals := 2, code := jdk_42_method_79_code, exceptionTable := #[], attributes := #[] }
def k8m2 : Method := { name := "indexOf", desc := "(I)I", sig := { parameters := [.int], returnType := some .int }, accessFlags := 1, code := some k8c2 }
def k8c3 : Code := { maxStack := 4, maxLocals := 3, code := jdk_42_method_80_code, exceptionTable := #[], attributes := #[] }
def k8m3 : Method := { name := "indexOf", desc := "(II)I", sig := { parameters := [.int, .int], returnType := some .int }, accessFlags := 1, code := some k8c3 }
def k8c4 : Code := { maxStack := 1, maxLocals := 1, code := jdk_42_method_152_code, exceptionTable := #[], attributes := #[] }
def k8m4 : Method := { name := "coder", desc := "()B", sig := { parameters := [], returnType := some .byte }, accessFlags := 0, code := some k8c4 }
def k8c5 : Code := { maxStack := 1, maxLocals := 1, code := jdk_42_method_154_code, exceptionTable := #[], attributes := #[] }
def k8m5 : Method := { name := "isLatin1", desc := "()Z", sig := { parameters := [], returnType := some .boolean }, accessFlags := 0, code := some k8c5 }
/-- java/lang/String -/
def k8 : Class := { plain "java/lang/String" (some 0) with
  accessFlags := 49
  interfaces := #[3, 4, 5, 6, 7]
  cf := some (fileOf pool8 10 #[.nestMembers #[1103]] #[{ accessFlags := 1, nameIndex := 5, descriptorIndex := 6, attributes := #[] }, { accessFlags := 1, nameIndex := 507, descriptorIndex := 334, attributes := #[] }, { accessFlags := 1, nameIndex := 635, descriptorIndex := 765, attributes := #[] }, { accessFlags := 1, nameIndex := 635, descriptorIndex := 636, attributes := #[] }, { accessFlags := 0, nameIndex := 17, descriptorIndex := 337, attributes := #[] }, { accessFlags := 0, nameIndex := 494, descriptorIndex := 142, attributes := #[] }] 49 2 #[1106, 1108, 575, 1110, 1112] #[{ accessFlags := 18, nameIndex := 13, descriptorIndex := 14, attributes := #[] }, { accessFlags := 18, nameIndex := 17, descriptorIndex := 18, attributes := #[] }, { accessFlags := 2, nameIndex := 21, descriptorIndex := 22, attributes := #[] }, { accessFlags := 2, nameIndex := 25, descriptorIndex := 26, attributes := #[] }, { accessFlags := 26, nameIndex := 1116, descriptorIndex := 1117, attributes := #[] }, { accessFlags := 24, nameIndex := 40, descriptorIndex := 26, attributes := #[] }, { accessFlags := 26, nameIndex := 1101, descriptorIndex := 1102, attributes := #[] }, { accessFlags := 26, nameIndex := 1121, descriptorIndex := 1122, attributes := #[] }, { accessFlags := 25, nameIndex := 599, descriptorIndex := 600, attributes := #[] }, { accessFlags := 24, nameIndex := 1125, descriptorIndex := 18, attributes := #[] }, { accessFlags := 24, nameIndex := 1127, descriptorIndex := 18, attributes := #[] }])
  fields := #[{ name := "value", type := (.array .byte), accessFlags := 18, slot := 0, constantValue := 0 }, { name := "coder", type := .byte, accessFlags := 18, slot := 1, constantValue := 0 }, { name := "hash", type := .int, accessFlags := 2, slot := 2, constantValue := 0 }, { name := "hashIsZero", type := .boolean, accessFlags := 2, slot := 3, constantValue := 0 }, { name := "serialVersionUID", type := .long, accessFlags := 26, slot := 0, constantValue := 0 }, { name := "COMPACT_STRINGS", type := .boolean, accessFlags := 24, slot := 1, constantValue := 0 }, { name := "serialPersistentFields", type := (.array (.object "java/io/ObjectStreamField")), accessFlags := 26, slot := 2, constantValue := 0 }, { name := "REPL", type := .char, accessFlags := 26, slot := 3, constantValue := 0 }, { name := "CASE_INSENSITIVE_ORDER", type := (.object "java/util/Comparator"), accessFlags := 25, slot := 4, constantValue := 0 }, { name := "LATIN1", type := .byte, accessFlags := 24, slot := 5, constantValue := 0 }, { name := "UTF16", type := .byte, accessFlags := 24, slot := 6, constantValue := 0 }]
  methods := #[k8m0, k8m1, k8m2, k8m3, k8m4, k8m5]
  instanceTypes := #[(.array .byte), .byte, .int, .boolean]
  staticTypes := #[.long, .boolean, (.array (.object "java/io/ObjectStreamField")), .char, (.object "java/util/Comparator"), .byte, .byte]
  resolved := Array.replicate 1451 none
  statics := some 0 }

def pool9 : Array CpInfo := pool [(4, .class_ 6), (1, u "java/lang/Object"), (0, u "<init>"), (0, u "()V"), (5, .class_ 16), (1, u "java/lang/StringLatin1"), (21, .methodref 39 40), (0, .class_ 41), (0, .nameAndType 42 43), (0, u "java/lang/Math"), (0, u "min"), (0, u "(II)I"), (44, .methodref 14 89), (0, .nameAndType 90 91), (0, u "canEncode"), (0, u "(I)Z"), (0, .methodref 39 93), (0, .nameAndType 94 43), (0, u "max"), (0, .methodref 14 96), (0, .nameAndType 97 98), (0, u "indexOfChar"), (0, u "([BIII)I"), (2, u "indexOf"), (19, u "$assertionsDisabled"), (0, u "Z"), (98, .class_ 223), (1, u "java/lang/StringLatin1$LinesSpliterator"), (166, .class_ 391), (0, u "java/lang/StringLatin1$CharsSpliterator")] 3

def k9m0 : Method := { name := "<init>", desc := "()V", sig := { parameters := [], returnType := none }, accessFlags := 0, code := none }
def k9c1 : Code := { maxStack := 2, maxLocals := 1, code := jdk_43_method_4_code, exceptionTable := #[], attributes := #[] }
def k9m1 : Method := { name := "canEncode", desc := "(I)Z", sig := { parameters := [.int], returnType := some .boolean }, accessFlags := 9, code := some k9c1 }
def k9c2 : Code := { maxStack := 4, maxLocals := 4, code := jdk_43_method_22_code, exceptionTable := #[], attributes := #[] }
def k9m2 : Method := { name := "indexOf", desc := "([BIII)I", sig := { parameters := [(.array .byte), .int, .int, .int], returnType := some .int }, accessFlags := 9, code := some k9c2 }
def k9c3 : Code := { maxStack := 2, maxLocals := 6, code := jdk_43_method_23_code, exceptionTable := #[], attributes := #[] }
def k9m3 : Method := { name := "indexOfChar", desc := "([BIII)I", sig := { parameters := [(.array .byte), .int, .int, .int], returnType := some .int }, accessFlags := 10, code := some k9c3 }
/-- java/lang/StringLatin1 -/
def k9 : Class := { plain "java/lang/StringLatin1" (some 0) with
  accessFlags := 48
  interfaces := #[]
  cf := some (fileOf pool9 14 #[.nestMembers #[390, 221]] #[{ accessFlags := 0, nameIndex := 7, descriptorIndex := 8, attributes := #[] }, { accessFlags := 9, nameIndex := 90, descriptorIndex := 91, attributes := #[] }, { accessFlags := 9, nameIndex := 101, descriptorIndex := 98, attributes := #[] }, { accessFlags := 10, nameIndex := 97, descriptorIndex := 98, attributes := #[] }] 48 4 #[] #[{ accessFlags := 4120, nameIndex := 121, descriptorIndex := 122, attributes := #[] }])
  fields := #[{ name := "$assertionsDisabled", type := .boolean, accessFlags := 4120, slot := 0, constantValue := 0 }]
  methods := #[k9m0, k9m1, k9m2, k9m3]
  instanceTypes := #[]
  staticTypes := #[.boolean]
  resolved := Array.replicate 395 none
  statics := none }

def pool10 : Array CpInfo := pool [(1, .class_ 2), (0, u "java/lang/Math"), (1, .class_ 6), (1, u "java/lang/Object"), (0, u "<init>"), (0, u "()V"), (89, .class_ 100), (1, u "java/lang/Math$RandomNumberGeneratorHolder"), (71, u "negativeZeroFloatBits"), (0, u "J"), (2, u "negativeZeroDoubleBits"), (21, u "max"), (2, u "min"), (43, u "$assertionsDisabled"), (0, u "Z"), (88, u "(II)I"), (2, u "twoToTheDoubleScaleDown"), (0, u "D"), (4, u "twoToTheDoubleScaleUp"), (9, u "E"), (3, u "PI"), (2, u "TAU"), (2, u "DEGREES_TO_RADIANS"), (0, u "RADIANS_TO_DEGREES")] 94

def k10m0 : Method := { name := "<init>", desc := "()V", sig := { parameters := [], returnType := none }, accessFlags := 2, code := none }
def k10c1 : Code := { maxStack := 2, maxLocals := 2, code := jdk_29_method_65_code, exceptionTable := #[], attributes := #[] }
def k10m1 : Method := { name := "max", desc := "(II)I", sig := { parameters := [.int, .int], returnType := some .int }, accessFlags := 9, code := some k10c1 }
def k10c2 : Code := { maxStack := 2, maxLocals := 2, code := jdk_29_method_69_code, exceptionTable := #[], attributes := #[] }
def k10m2 : Method := { name := "min", desc := "(II)I", sig := { parameters := [.int, .int], returnType := some .int }, accessFlags := 9, code := some k10c2 }
/-- java/lang/Math -/
def k10 : Class := { plain "java/lang/Math" (some 0) with
  accessFlags := 49
  interfaces := #[]
  cf := some (fileOf pool10 1 #[.nestMembers #[98]] #[{ accessFlags := 2, nameIndex := 7, descriptorIndex := 8, attributes := #[] }, { accessFlags := 9, nameIndex := 198, descriptorIndex := 335, attributes := #[] }, { accessFlags := 9, nameIndex := 201, descriptorIndex := 335, attributes := #[] }] 49 4 #[] #[{ accessFlags := 25, nameIndex := 354, descriptorIndex := 339, attributes := #[] }, { accessFlags := 25, nameIndex := 358, descriptorIndex := 339, attributes := #[] }, { accessFlags := 25, nameIndex := 361, descriptorIndex := 339, attributes := #[] }, { accessFlags := 26, nameIndex := 364, descriptorIndex := 339, attributes := #[] }, { accessFlags := 26, nameIndex := 365, descriptorIndex := 339, attributes := #[] }, { accessFlags := 26, nameIndex := 172, descriptorIndex := 173, attributes := #[] }, { accessFlags := 26, nameIndex := 176, descriptorIndex := 173, attributes := #[] }, { accessFlags := 8, nameIndex := 344, descriptorIndex := 339, attributes := #[] }, { accessFlags := 8, nameIndex := 338, descriptorIndex := 339, attributes := #[] }, { accessFlags := 4120, nameIndex := 245, descriptorIndex := 246, attributes := #[] }])
  fields := #[{ name := "E", type := .double, accessFlags := 25, slot := 0, constantValue := 0 }, { name := "PI", type := .double, accessFlags := 25, slot := 1, constantValue := 0 }, { name := "TAU", type := .double, accessFlags := 25, slot := 2, constantValue := 0 }, { name := "DEGREES_TO_RADIANS", type := .double, accessFlags := 26, slot := 3, constantValue := 0 }, { name := "RADIANS_TO_DEGREES", type := .double, accessFlags := 26, slot := 4, constantValue := 0 }, { name := "negativeZeroFloatBits", type := .long, accessFlags := 26, slot := 5, constantValue := 0 }, { name := "negativeZeroDoubleBits", type := .long, accessFlags := 26, slot := 6, constantValue := 0 }, { name := "twoToTheDoubleScaleUp", type := .double, accessFlags := 8, slot := 7, constantValue := 0 }, { name := "twoToTheDoubleScaleDown", type := .double, accessFlags := 8, slot := 8, constantValue := 0 }, { name := "$assertionsDisabled", type := .boolean, accessFlags := 4120, slot := 9, constantValue := 0 }]
  methods := #[k10m0, k10m1, k10m2]
  instanceTypes := #[]
  staticTypes := #[.double, .double, .double, .double, .double, .long, .long, .double, .double, .boolean]
  resolved := Array.replicate 460 none
  statics := none }

def pool11 : Array CpInfo := pool [(2, .class_ 4), (1, u "java/lang/Object"), (0, u "<init>"), (0, u "()V"), (17, .class_ 26), (1, u "jdk/internal/util/Preconditions"), (28, .class_ 56), (0, u "jdk/internal/util/Preconditions$4"), (57, .class_ 115), (0, u "jdk/internal/util/Preconditions$1"), (7, u "SIOOBE_FORMATTER"), (0, u "Ljava/util/function/BiFunction;"), (0, .class_ 126), (0, u "jdk/internal/util/Preconditions$2"), (3, u "AIOOBE_FORMATTER"), (0, .class_ 132), (0, u "jdk/internal/util/Preconditions$3"), (3, u "IOOBE_FORMATTER")] 57

def k11m0 : Method := { name := "<init>", desc := "()V", sig := { parameters := [], returnType := none }, accessFlags := 1, code := none }
/-- jdk/internal/util/Preconditions -/
def k11 : Class := { plain "jdk/internal/util/Preconditions" (some 0) with
  accessFlags := 33
  interfaces := #[]
  cf := some (fileOf pool11 24 #[.nestMembers #[55, 131, 125, 114]] #[{ accessFlags := 1, nameIndex := 5, descriptorIndex := 6, attributes := #[] }] 33 2 #[] #[{ accessFlags := 25, nameIndex := 123, descriptorIndex := 124, attributes := #[] }, { accessFlags := 25, nameIndex := 130, descriptorIndex := 124, attributes := #[] }, { accessFlags := 25, nameIndex := 136, descriptorIndex := 124, attributes := #[] }])
  fields := #[{ name := "SIOOBE_FORMATTER", type := (.object "java/util/function/BiFunction"), accessFlags := 25, slot := 0, constantValue := 0 }, { name := "AIOOBE_FORMATTER", type := (.object "java/util/function/BiFunction"), accessFlags := 25, slot := 1, constantValue := 0 }, { name := "IOOBE_FORMATTER", type := (.object "java/util/function/BiFunction"), accessFlags := 25, slot := 2, constantValue := 0 }]
  methods := #[k11m0]
  instanceTypes := #[]
  staticTypes := #[(.object "java/util/function/BiFunction"), (.object "java/util/function/BiFunction"), (.object "java/util/function/BiFunction")]
  resolved := Array.replicate 194 none
  statics := some 1 }

def pool12 : Array CpInfo := pool [(9, u "<init>"), (6, .class_ 18), (1, u "java/lang/Object"), (0, u "()V"), (1, .class_ 23), (1, u "jdk/internal/util/ArraysSupport"), (0, u "LOG2_ARRAY_LONG_INDEX_SCALE"), (0, u "I"), (2, u "U"), (0, u "Ljdk/internal/misc/Unsafe;"), (8, u "BIG_ENDIAN"), (0, u "Z"), (8, u "LOG2_BYTE_BIT_SIZE"), (4, u "LOG2_ARRAY_INT_INDEX_SCALE"), (54, u "JLA"), (0, u "Ljdk/internal/access/JavaLangAccess;"), (11, u "LOG2_ARRAY_BOOLEAN_INDEX_SCALE"), (9, u "LOG2_ARRAY_BYTE_INDEX_SCALE"), (5, u "LOG2_ARRAY_CHAR_INDEX_SCALE"), (5, u "LOG2_ARRAY_SHORT_INDEX_SCALE"), (18, u "LOG2_ARRAY_FLOAT_INDEX_SCALE"), (24, u "LOG2_ARRAY_DOUBLE_INDEX_SCALE"), (89, u "T_BOOLEAN"), (2, u "T_CHAR"), (1, u "T_FLOAT"), (1, u "T_DOUBLE"), (1, u "T_BYTE"), (1, u "T_SHORT"), (1, u "T_INT"), (1, u "T_LONG"), (1, u "SOFT_MAX_ARRAY_LENGTH")] 83

def k12m0 : Method := { name := "<init>", desc := "()V", sig := { parameters := [], returnType := none }, accessFlags := 2, code := none }
/-- jdk/internal/util/ArraysSupport -/
def k12 : Class := { plain "jdk/internal/util/ArraysSupport" (some 0) with
  accessFlags := 33
  interfaces := #[]
  cf := some (fileOf pool12 21 #[] #[{ accessFlags := 2, nameIndex := 9, descriptorIndex := 19, attributes := #[] }] 33 16 #[] #[{ accessFlags := 24, nameIndex := 28, descriptorIndex := 29, attributes := #[] }, { accessFlags := 26, nameIndex := 38, descriptorIndex := 39, attributes := #[] }, { accessFlags := 25, nameIndex := 121, descriptorIndex := 25, attributes := #[] }, { accessFlags := 25, nameIndex := 131, descriptorIndex := 25, attributes := #[] }, { accessFlags := 25, nameIndex := 137, descriptorIndex := 25, attributes := #[] }, { accessFlags := 25, nameIndex := 143, descriptorIndex := 25, attributes := #[] }, { accessFlags := 25, nameIndex := 53, descriptorIndex := 25, attributes := #[] }, { accessFlags := 25, nameIndex := 24, descriptorIndex := 25, attributes := #[] }, { accessFlags := 25, nameIndex := 162, descriptorIndex := 25, attributes := #[] }, { accessFlags := 25, nameIndex := 187, descriptorIndex := 25, attributes := #[] }, { accessFlags := 26, nameIndex := 48, descriptorIndex := 25, attributes := #[] }, { accessFlags := 25, nameIndex := 277, descriptorIndex := 25, attributes := #[] }, { accessFlags := 25, nameIndex := 280, descriptorIndex := 25, attributes := #[] }, { accessFlags := 25, nameIndex := 282, descriptorIndex := 25, attributes := #[] }, { accessFlags := 25, nameIndex := 284, descriptorIndex := 25, attributes := #[] }, { accessFlags := 25, nameIndex := 286, descriptorIndex := 25, attributes := #[] }, { accessFlags := 25, nameIndex := 288, descriptorIndex := 25, attributes := #[] }, { accessFlags := 25, nameIndex := 290, descriptorIndex := 25, attributes := #[] }, { accessFlags := 25, nameIndex := 292, descriptorIndex := 25, attributes := #[] }, { accessFlags := 26, nameIndex := 108, descriptorIndex := 109, attributes := #[] }, { accessFlags := 25, nameIndex := 294, descriptorIndex := 25, attributes := #[] }])
  fields := #[{ name := "U", type := (.object "jdk/internal/misc/Unsafe"), accessFlags := 24, slot := 0, constantValue := 0 }, { name := "BIG_ENDIAN", type := .boolean, accessFlags := 26, slot := 1, constantValue := 0 }, { name := "LOG2_ARRAY_BOOLEAN_INDEX_SCALE", type := .int, accessFlags := 25, slot := 2, constantValue := 0 }, { name := "LOG2_ARRAY_BYTE_INDEX_SCALE", type := .int, accessFlags := 25, slot := 3, constantValue := 0 }, { name := "LOG2_ARRAY_CHAR_INDEX_SCALE", type := .int, accessFlags := 25, slot := 4, constantValue := 0 }, { name := "LOG2_ARRAY_SHORT_INDEX_SCALE", type := .int, accessFlags := 25, slot := 5, constantValue := 0 }, { name := "LOG2_ARRAY_INT_INDEX_SCALE", type := .int, accessFlags := 25, slot := 6, constantValue := 0 }, { name := "LOG2_ARRAY_LONG_INDEX_SCALE", type := .int, accessFlags := 25, slot := 7, constantValue := 0 }, { name := "LOG2_ARRAY_FLOAT_INDEX_SCALE", type := .int, accessFlags := 25, slot := 8, constantValue := 0 }, { name := "LOG2_ARRAY_DOUBLE_INDEX_SCALE", type := .int, accessFlags := 25, slot := 9, constantValue := 0 }, { name := "LOG2_BYTE_BIT_SIZE", type := .int, accessFlags := 26, slot := 10, constantValue := 0 }, { name := "T_BOOLEAN", type := .int, accessFlags := 25, slot := 11, constantValue := 0 }, { name := "T_CHAR", type := .int, accessFlags := 25, slot := 12, constantValue := 0 }, { name := "T_FLOAT", type := .int, accessFlags := 25, slot := 13, constantValue := 0 }, { name := "T_DOUBLE", type := .int, accessFlags := 25, slot := 14, constantValue := 0 }, { name := "T_BYTE", type := .int, accessFlags := 25, slot := 15, constantValue := 0 }, { name := "T_SHORT", type := .int, accessFlags := 25, slot := 16, constantValue := 0 }, { name := "T_INT", type := .int, accessFlags := 25, slot := 17, constantValue := 0 }, { name := "T_LONG", type := .int, accessFlags := 25, slot := 18, constantValue := 0 }, { name := "JLA", type := (.object "jdk/internal/access/JavaLangAccess"), accessFlags := 26, slot := 19, constantValue := 0 }, { name := "SOFT_MAX_ARRAY_LENGTH", type := .int, accessFlags := 25, slot := 20, constantValue := 0 }]
  methods := #[k12m0]
  instanceTypes := #[]
  staticTypes := #[(.object "jdk/internal/misc/Unsafe"), .boolean, .int, .int, .int, .int, .int, .int, .int, .int, .int, .int, .int, .int, .int, .int, .int, .int, .int, (.object "jdk/internal/access/JavaLangAccess"), .int]
  resolved := Array.replicate 378 none
  statics := none }

def pool13 : Array CpInfo := pool [(1, u "java/lang/Cloneable"), (0, .class_ 1), (0, u "java/lang/Object"), (0, .class_ 3)] 3

/-- java/lang/Cloneable -/
def k13 : Class := { plain "java/lang/Cloneable" (some 0) with
  accessFlags := 1537
  interfaces := #[]
  cf := some (fileOf pool13 2 #[] #[] 1537 4 #[] #[])
  fields := #[]
  methods := #[]
  instanceTypes := #[]
  staticTypes := #[]
  resolved := Array.replicate 8 none
  statics := none }

/-- the primitive byte -/
def k14 : Class := { plain "byte" none with kind := .primitive 'B', accessFlags := 0x411 }
/-- [B -/
def k15 : Class := { plain "[B" (some 0) with kind := .array 14 .byte, interfaces := #[13, 3], accessFlags := 1041 }

/-- the primitive int -/
def k16 : Class := { plain "int" none with kind := .primitive 'I', accessFlags := 0x411 }
/-- [I -/
def k17 : Class := { plain "[I" (some 0) with kind := .array 16 .int, interfaces := #[13, 3], accessFlags := 1041 }

def heap : Heap := #[{ cls := 8, slots := #[.long 0, .int 1, .null, .int 0, .null, .int 0, .int 0], vm := .statics 8 },
  { cls := 11, slots := #[.null, .null, .null], vm := .statics 11 }]
def classes : Array Class := #[k0, k1, k2, k3, k4, k5, k6, k7, k8, k9, k10, k11, k12, k13, k14, k15, k16, k17]
def interned : List (Array UInt16 × Addr) := []
def slotsUsed : Nat := 10
def theMethod : MethodId := ⟨1, 1⟩
def args0 : Array Value := #[.int 1, .int 5]
def aboutOver (below : List Frame) : State where
  vm := { classes := classes, interned := interned.toArray }
  heap := heap
  slotsUsed := slotsUsed
  threads := #[{ frames := .invoking theMethod args0 :: below }]
def below0 : List Frame := [.native { method := ⟨0, 0⟩, args := #[] }]
def about1 : State := aboutOver below0
def p0 : Program := .bare "" "" ""
def e0 : Env := launch0.env 0 0 0
theorem w_frames : about1.frames = Frame.invoking theMethod args0 :: below0 := rfl
set_option maxRecDepth 65536 in
theorem w_args : argsFit about1.vm theMethod args0 = true := by decide +kernel
set_option maxRecDepth 65536 in
theorem w_heap : heapFits about1 = true := by decide +kernel
set_option maxRecDepth 65536 in
theorem w_runnable : about1.curStatus? = some .runnable := by decide +kernel
set_option maxRecDepth 65536 in
theorem w_alone : about1.alone = true := by decide +kernel
set_option maxRecDepth 65536 in
theorem w_named : about1.methodNamed? x = some theMethod := by decide +kernel
set_option maxRecDepth 65536 in
theorem w_hears : about1.hears theMethod below0 = true := by decide +kernel
set_option maxRecDepth 65536 in
theorem w_ripe : about1.ripe theMethod args0 below0 = true := by decide +kernel
theorem w_running : about1.status = .running := rfl
set_option maxRecDepth 65536 in
theorem w_room : about1.hasRoom e0.platform room_1 = true :=
  launch0.hasRoom_least _ room_1 (by decide +kernel) (by decide +kernel) (by decide +kernel) (by decide +kernel) (by decide +kernel) (by decide +kernel)
theorem allAtoms_all (ts : List Jvm.Cond) (a : Array Jvm.Value) (st : Jvm.State) : (allAtoms ts).before a st = ts.all (fun c => c.before a st) := by
  induction ts with
  | nil => rfl
  | cons c t ih =>
    show (Jvm.Cond.and c (allAtoms t)).before a st = _
    rw [Jvm.Cond.before_and, ih, List.all_cons]
def words1 : List Jvm.Cond := Jvm.Cond.code x code maxLocals ret :: tables_1
/-- a 'code' word, met by the world's own term for the bytes: nothing is compared byte by byte -/
theorem code_word {y : MethodName} {bytes : ByteArray} {mx : Nat} {rt : Option FieldType} {a : Array Value} {s : State} {m : MethodId} {meth : Method} {c : Code} (h1 : s.methodNamed? y = some m) (h2 : s.vm.method? m = some meth) (h3 : meth.code = some c) (h4 : c.code = bytes)
    (h5 : (c.maxLocals == mx && c.exceptionTable.isEmpty && decide (c.maxStack ≤ mostOperands) && decide (meth.sig.returnType = rt) && !meth.locks && decide (parseMethodDescriptor y.desc = some meth.sig)) = true) : (Jvm.Cond.code y bytes mx rt).before a s = true := by
  simp only [Bool.and_eq_true, beq_iff_eq, Bool.not_eq_true', decide_eq_true_eq] at h5
  obtain ⟨⟨⟨⟨⟨g1, g2⟩, g3⟩, g4⟩, g5⟩, g6⟩ := h5
  simp [Cond.before, Cond.holds, Cond.value, h1, h2, h3, h4, g1, g2, g3, g4, g5, g6]
def isCode : Jvm.Cond → Bool
  | .code _ _ _ _ => true
  | _ => false
theorem all_split {L : List Jvm.Cond} {P : Jvm.Cond → Bool} (h1 : L.all (fun c => isCode c || P c) = true) (h2 : ∀ c ∈ L.filter isCode, P c = true) : L.all P = true := by
  refine List.all_eq_true.mpr fun c hc => ?_
  have h := List.all_eq_true.mp h1 c hc
  rcases Bool.eq_false_or_eq_true (isCode c) with hi | hi
  · exact h2 c (List.mem_filter.mpr ⟨hc, hi⟩)
  · simpa [hi] using h
set_option maxRecDepth 65536 in
theorem w_c0 : (Jvm.Cond.code x code maxLocals ret).before args0 about1 = true := code_word (m := ⟨1, 1⟩) (meth := k1m1) (c := k1c1) (by decide +kernel) rfl rfl rfl (by decide +kernel)
set_option maxRecDepth 65536 in
theorem w_c1 : (Jvm.Cond.code ({ cls := "cohort/Lexer", name := "isSymbolChar", desc := "(I)Z" } : Jvm.MethodName) prog_30_method_2_code (1 : Nat) (Option.some Jvm.ClassFile.FieldType.boolean)).before args0 about1 = true := code_word (m := ⟨2, 0⟩) (meth := k2m0) (c := k2c0) (by decide +kernel) rfl rfl rfl (by decide +kernel)
set_option maxRecDepth 65536 in
theorem w_c2 : (Jvm.Cond.code ({ cls := "java/lang/String", name := "indexOf", desc := "(I)I" } : Jvm.MethodName) jdk_42_method_79_code (2 : Nat) (Option.some Jvm.ClassFile.FieldType.int)).before args0 about1 = true := code_word (m := ⟨8, 2⟩) (meth := k8m2) (c := k8c2) (by decide +kernel) rfl rfl rfl (by decide +kernel)
set_option maxRecDepth 65536 in
theorem w_c3 : (Jvm.Cond.code ({ cls := "java/lang/String", name := "indexOf", desc := "(II)I" } : Jvm.MethodName) jdk_42_method_80_code (3 : Nat) (Option.some Jvm.ClassFile.FieldType.int)).before args0 about1 = true := code_word (m := ⟨8, 3⟩) (meth := k8m3) (c := k8c3) (by decide +kernel) rfl rfl rfl (by decide +kernel)
set_option maxRecDepth 65536 in
theorem w_c4 : (Jvm.Cond.code ({ cls := "java/lang/String", name := "isLatin1", desc := "()Z" } : Jvm.MethodName) jdk_42_method_154_code (1 : Nat) (Option.some Jvm.ClassFile.FieldType.boolean)).before args0 about1 = true := code_word (m := ⟨8, 5⟩) (meth := k8m5) (c := k8c5) (by decide +kernel) rfl rfl rfl (by decide +kernel)
set_option maxRecDepth 65536 in
theorem w_c5 : (Jvm.Cond.code ({ cls := "java/lang/String", name := "length", desc := "()I" } : Jvm.MethodName) jdk_42_method_54_code (1 : Nat) (Option.some Jvm.ClassFile.FieldType.int)).before args0 about1 = true := code_word (m := ⟨8, 1⟩) (meth := k8m1) (c := k8c1) (by decide +kernel) rfl rfl rfl (by decide +kernel)
set_option maxRecDepth 65536 in
theorem w_c6 : (Jvm.Cond.code ({ cls := "java/lang/String", name := "coder", desc := "()B" } : Jvm.MethodName) jdk_42_method_152_code (1 : Nat) (Option.some Jvm.ClassFile.FieldType.byte)).before args0 about1 = true := code_word (m := ⟨8, 4⟩) (meth := k8m4) (c := k8c4) (by decide +kernel) rfl rfl rfl (by decide +kernel)
set_option maxRecDepth 65536 in
theorem w_c7 : (Jvm.Cond.code ({ cls := "java/lang/StringLatin1", name := "indexOf", desc := "([BIII)I" } : Jvm.MethodName) jdk_43_method_22_code (4 : Nat) (Option.some Jvm.ClassFile.FieldType.int)).before args0 about1 = true := code_word (m := ⟨9, 2⟩) (meth := k9m2) (c := k9c2) (by decide +kernel) rfl rfl rfl (by decide +kernel)
set_option maxRecDepth 65536 in
theorem w_c8 : (Jvm.Cond.code ({ cls := "java/lang/StringLatin1", name := "canEncode", desc := "(I)Z" } : Jvm.MethodName) jdk_43_method_4_code (1 : Nat) (Option.some Jvm.ClassFile.FieldType.boolean)).before args0 about1 = true := code_word (m := ⟨9, 1⟩) (meth := k9m1) (c := k9c1) (by decide +kernel) rfl rfl rfl (by decide +kernel)
set_option maxRecDepth 65536 in
theorem w_c9 : (Jvm.Cond.code ({ cls := "java/lang/Math", name := "max", desc := "(II)I" } : Jvm.MethodName) jdk_29_method_65_code (2 : Nat) (Option.some Jvm.ClassFile.FieldType.int)).before args0 about1 = true := code_word (m := ⟨10, 1⟩) (meth := k10m1) (c := k10c1) (by decide +kernel) rfl rfl rfl (by decide +kernel)
set_option maxRecDepth 65536 in
theorem w_c10 : (Jvm.Cond.code ({ cls := "java/lang/Math", name := "min", desc := "(II)I" } : Jvm.MethodName) jdk_29_method_69_code (2 : Nat) (Option.some Jvm.ClassFile.FieldType.int)).before args0 about1 = true := code_word (m := ⟨10, 2⟩) (meth := k10m2) (c := k10c2) (by decide +kernel) rfl rfl rfl (by decide +kernel)
set_option maxRecDepth 65536 in
theorem w_c11 : (Jvm.Cond.code ({ cls := "java/lang/StringLatin1", name := "indexOfChar", desc := "([BIII)I" } : Jvm.MethodName) jdk_43_method_23_code (6 : Nat) (Option.some Jvm.ClassFile.FieldType.int)).before args0 about1 = true := code_word (m := ⟨9, 3⟩) (meth := k9m3) (c := k9c3) (by decide +kernel) rfl rfl rfl (by decide +kernel)
set_option maxRecDepth 65536 in
theorem w_c12 : (Jvm.Cond.code ({ cls := "cohort/LexerIsSymbolCharPinLaw", name := "ref", desc := "(I)Z" } : Jvm.MethodName) method_3_code (1 : Nat) (Option.some Jvm.ClassFile.FieldType.boolean)).before args0 about1 = true := code_word (m := ⟨1, 2⟩) (meth := k1m2) (c := k1c2) (by decide +kernel) rfl rfl rfl (by decide +kernel)
def codes1 : List Jvm.Cond := [Jvm.Cond.code x code maxLocals ret, Jvm.Cond.code ({ cls := "cohort/Lexer", name := "isSymbolChar", desc := "(I)Z" } : Jvm.MethodName) prog_30_method_2_code (1 : Nat) (Option.some Jvm.ClassFile.FieldType.boolean), Jvm.Cond.code ({ cls := "java/lang/String", name := "indexOf", desc := "(I)I" } : Jvm.MethodName) jdk_42_method_79_code (2 : Nat) (Option.some Jvm.ClassFile.FieldType.int), Jvm.Cond.code ({ cls := "java/lang/String", name := "indexOf", desc := "(II)I" } : Jvm.MethodName) jdk_42_method_80_code (3 : Nat) (Option.some Jvm.ClassFile.FieldType.int), Jvm.Cond.code ({ cls := "java/lang/String", name := "isLatin1", desc := "()Z" } : Jvm.MethodName) jdk_42_method_154_code (1 : Nat) (Option.some Jvm.ClassFile.FieldType.boolean), Jvm.Cond.code ({ cls := "java/lang/String", name := "length", desc := "()I" } : Jvm.MethodName) jdk_42_method_54_code (1 : Nat) (Option.some Jvm.ClassFile.FieldType.int), Jvm.Cond.code ({ cls := "java/lang/String", name := "coder", desc := "()B" } : Jvm.MethodName) jdk_42_method_152_code (1 : Nat) (Option.some Jvm.ClassFile.FieldType.byte), Jvm.Cond.code ({ cls := "java/lang/StringLatin1", name := "indexOf", desc := "([BIII)I" } : Jvm.MethodName) jdk_43_method_22_code (4 : Nat) (Option.some Jvm.ClassFile.FieldType.int), Jvm.Cond.code ({ cls := "java/lang/StringLatin1", name := "canEncode", desc := "(I)Z" } : Jvm.MethodName) jdk_43_method_4_code (1 : Nat) (Option.some Jvm.ClassFile.FieldType.boolean), Jvm.Cond.code ({ cls := "java/lang/Math", name := "max", desc := "(II)I" } : Jvm.MethodName) jdk_29_method_65_code (2 : Nat) (Option.some Jvm.ClassFile.FieldType.int), Jvm.Cond.code ({ cls := "java/lang/Math", name := "min", desc := "(II)I" } : Jvm.MethodName) jdk_29_method_69_code (2 : Nat) (Option.some Jvm.ClassFile.FieldType.int), Jvm.Cond.code ({ cls := "java/lang/StringLatin1", name := "indexOfChar", desc := "([BIII)I" } : Jvm.MethodName) jdk_43_method_23_code (6 : Nat) (Option.some Jvm.ClassFile.FieldType.int), Jvm.Cond.code ({ cls := "cohort/LexerIsSymbolCharPinLaw", name := "ref", desc := "(I)Z" } : Jvm.MethodName) method_3_code (1 : Nat) (Option.some Jvm.ClassFile.FieldType.boolean)]
set_option maxRecDepth 65536 in
theorem codes_eq : words1.filter isCode = codes1 := rfl
theorem w_codes : ∀ c ∈ words1.filter isCode, c.before args0 about1 = true := by
  rw [codes_eq]
  intro c hc
  simp only [codes1, List.mem_cons, List.not_mem_nil, or_false] at hc
  rcases hc with rfl | rfl | rfl | rfl | rfl | rfl | rfl | rfl | rfl | rfl | rfl | rfl | rfl
  · exact w_c0
  · exact w_c1
  · exact w_c2
  · exact w_c3
  · exact w_c4
  · exact w_c5
  · exact w_c6
  · exact w_c7
  · exact w_c8
  · exact w_c9
  · exact w_c10
  · exact w_c11
  · exact w_c12
set_option maxRecDepth 65536 in
theorem w_t1 : (words1.take 24).all (fun c => isCode c || c.before args0 about1) = true := by decide +kernel
set_option maxRecDepth 65536 in
theorem w_t2 : ((words1.drop 24).take 24).all (fun c => isCode c || c.before args0 about1) = true := by decide +kernel
set_option maxRecDepth 65536 in
theorem w_t3 : ((words1.drop 24).drop 24).all (fun c => isCode c || c.before args0 about1) = true := by decide +kernel
theorem w_tables : (allAtoms (Jvm.Cond.code x code maxLocals ret :: tables_1)).before args0 about1 = true := by
  rw [allAtoms_all]
  show words1.all (fun c => c.before args0 about1) = true
  refine all_split ?_ w_codes
  rw [← List.take_append_drop 24 words1, List.all_append, w_t1, ← List.take_append_drop 24 (words1.drop 24), List.all_append, w_t2, w_t3]
  rfl
set_option maxRecDepth 65536 in
theorem w_rest : rest_1_c.before args0 about1 = true := by decide +kernel
set_option maxRecDepth 65536 in
theorem w_case : (Jvm.Cond.and given_1 narrow_1).before args0 about1 = true := by decide +kernel
set_option maxRecDepth 65536 in
theorem w_consts : constsHeld consts_1 about1 := Jvm.Lit.constsHeldB_iff.mp (by decide +kernel)
theorem w_applies : (headSpec (Jvm.Cond.code x code maxLocals ret :: tables_1) room_1).applies x e0.platform about1 = true :=
  (Spec.applies_iff w_frames).mpr ⟨w_running, w_runnable, w_alone, w_named, w_hears, w_ripe, w_room, w_tables⟩
theorem atStart : AtStart classFile x code maxLocals ret World_1 tables_1 room_1 Calls_1 rest_1 Pre_1 launch0 p0 e0 about1 theMethod args0 below0 :=
  ⟨lists_1, trivial, launch0.admits_env _ _ _, launch0.least_env, fairChoices_fair.cas, fairChoices_fair.clock, w_frames, w_args, w_heap, w_applies, ⟨w_consts, trivial⟩, w_rest, w_case⟩
end start1
theorem witness_1 : WitnessClaimed_1 := ⟨start1.p0, start1.e0, start1.about1, start1.theMethod, start1.args0, start1.below0, start1.atStart⟩
end Jvm.Pilot.@@N@@
