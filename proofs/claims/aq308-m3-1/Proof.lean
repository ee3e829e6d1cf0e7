import JvmDerived
import JvmDerived.Pilot.@@N@@Statement
import JvmDerived.Pilot.@@N@@Code
set_option linter.unusedVariables false
set_option linter.unusedSimpArgs false
@@BLOCK:NumsL.lean.txt@@
namespace Jvm.RoadKit
open Sem ClassFile Op Lib Jvm.Stand Jvm.Free Jvm.LawKit
section New
variable {p : Program} {l : Launch} {e : Env} {R : Room} {s : State} {m : MethodId} {args : Array Value} {below : List Frame} {meth : Method} {c : Code} {T : State} {locs : List Loc} {cells slots : Nat}
theorem retI (X : Stand p l e R s m args below meth c T locs cells slots) (hx : p.tables.exec = Jvm.exec) {pc : Nat} {Ls : Array Slot} {z : Int32} {rest : List Value} (hret : meth.sig.returnType = some .int) (hd : decode c.code pc = .ok (.ireturn, 1)) {fs : List Frame}
    (hl : ∀ (f : JFrame) (acts : List Action), f.method = m → f.locked = none → f.entered = [] → (doReturn e (T.setTop f) acts (some (.int z))).1 = T.setFrames fs) : Steps p.tables e below (T.setTop (mkF m pc Ls (.int z :: rest))) (T.setFrames fs) := by
  have hm' : T.vm.method? m = some meth := X.method'
  have hn : narrow .int (.int z) = .int z := rfl
  show Steps p.tables e below (T.setTop { method := m, pc := pc, locals := Ls, stack := _ :: rest, locked := none }) _
  jvm_step X.here [X.here.top, hx, hd, hm', hret, hn]
  first | (intro acts; rw [hl _ acts rfl rfl rfl]) | rw [hl _ _ rfl rfl rfl]
  exact Steps.refl _
end New
end Jvm.RoadKit
namespace Jvm.Pilot.@@N@@
open Jvm Jvm.ClassFile Sem Op Lib Jvm.Free Jvm.Stand Jvm.LawKit Jvm.RoadKit Bundle Jvm.Pilot.@@N@@.Jvm.D
theorem own_hi {x : BitVec 32} {n : Nat} (h : x.toNat < 2 ^ n) {i : Nat} (hi : n ≤ i) (hj : i < 32) : x[i] = false := by
  rw [← BitVec.getLsbD_eq_getElem]
  rw [BitVec.getLsbD]; exact Nat.testBit_lt_two_pow (Nat.lt_of_lt_of_le h (Nat.pow_le_pow_right (by decide) hi))
theorem own_bv1 (x : BitVec 32) (h : x.toNat < 2 ^ 8) : ((x >>> 0) &&& 255#32) = x := by
  apply BitVec.eq_of_getLsbD_eq
  intro i hi
  have hc : i = 0 ∨ i = 1 ∨ i = 2 ∨ i = 3 ∨ i = 4 ∨ i = 5 ∨ i = 6 ∨ i = 7 ∨ i = 8 ∨ i = 9 ∨ i = 10 ∨ i = 11 ∨ i = 12 ∨ i = 13 ∨ i = 14 ∨ i = 15 ∨ i = 16 ∨ i = 17 ∨ i = 18 ∨ i = 19 ∨ i = 20 ∨ i = 21 ∨ i = 22 ∨ i = 23 ∨ i = 24 ∨ i = 25 ∨ i = 26 ∨ i = 27 ∨ i = 28 ∨ i = 29 ∨ i = 30 ∨ i = 31 := by omega
  rcases hc with rfl | rfl | rfl | rfl | rfl | rfl | rfl | rfl | rfl | rfl | rfl | rfl | rfl | rfl | rfl | rfl | rfl | rfl | rfl | rfl | rfl | rfl | rfl | rfl | rfl | rfl | rfl | rfl | rfl | rfl | rfl | rfl
  all_goals first | (simp; done) | (simp; exact own_hi h (by decide) (by decide))
theorem own_bv2 (x : BitVec 32) (h : x.toNat < 2 ^ 16) : (((x >>> 8) &&& 255#32) <<< 8) ||| ((x >>> 0) &&& 255#32) = x := by
  apply BitVec.eq_of_getLsbD_eq
  intro i hi
  have hc : i = 0 ∨ i = 1 ∨ i = 2 ∨ i = 3 ∨ i = 4 ∨ i = 5 ∨ i = 6 ∨ i = 7 ∨ i = 8 ∨ i = 9 ∨ i = 10 ∨ i = 11 ∨ i = 12 ∨ i = 13 ∨ i = 14 ∨ i = 15 ∨ i = 16 ∨ i = 17 ∨ i = 18 ∨ i = 19 ∨ i = 20 ∨ i = 21 ∨ i = 22 ∨ i = 23 ∨ i = 24 ∨ i = 25 ∨ i = 26 ∨ i = 27 ∨ i = 28 ∨ i = 29 ∨ i = 30 ∨ i = 31 := by omega
  rcases hc with rfl | rfl | rfl | rfl | rfl | rfl | rfl | rfl | rfl | rfl | rfl | rfl | rfl | rfl | rfl | rfl | rfl | rfl | rfl | rfl | rfl | rfl | rfl | rfl | rfl | rfl | rfl | rfl | rfl | rfl | rfl | rfl
  all_goals first | (simp; done) | (simp; exact own_hi h (by decide) (by decide))
theorem own_bv3 (x : BitVec 32) (h : x.toNat < 2 ^ 24) : (((x >>> 16) &&& 255#32) <<< 16) ||| (((x >>> 8) &&& 255#32) <<< 8) ||| ((x >>> 0) &&& 255#32) = x := by
  apply BitVec.eq_of_getLsbD_eq
  intro i hi
  have hc : i = 0 ∨ i = 1 ∨ i = 2 ∨ i = 3 ∨ i = 4 ∨ i = 5 ∨ i = 6 ∨ i = 7 ∨ i = 8 ∨ i = 9 ∨ i = 10 ∨ i = 11 ∨ i = 12 ∨ i = 13 ∨ i = 14 ∨ i = 15 ∨ i = 16 ∨ i = 17 ∨ i = 18 ∨ i = 19 ∨ i = 20 ∨ i = 21 ∨ i = 22 ∨ i = 23 ∨ i = 24 ∨ i = 25 ∨ i = 26 ∨ i = 27 ∨ i = 28 ∨ i = 29 ∨ i = 30 ∨ i = 31 := by omega
  rcases hc with rfl | rfl | rfl | rfl | rfl | rfl | rfl | rfl | rfl | rfl | rfl | rfl | rfl | rfl | rfl | rfl | rfl | rfl | rfl | rfl | rfl | rfl | rfl | rfl | rfl | rfl | rfl | rfl | rfl | rfl | rfl | rfl
  all_goals first | (simp; done) | (simp; exact own_hi h (by decide) (by decide))
theorem own_bv4 (x : BitVec 32) : (((x >>> 24) &&& 255#32) <<< 24) ||| (((x >>> 16) &&& 255#32) <<< 16) ||| (((x >>> 8) &&& 255#32) <<< 8) ||| ((x >>> 0) &&& 255#32) = x := by
  apply BitVec.eq_of_getLsbD_eq
  intro i hi
  have hc : i = 0 ∨ i = 1 ∨ i = 2 ∨ i = 3 ∨ i = 4 ∨ i = 5 ∨ i = 6 ∨ i = 7 ∨ i = 8 ∨ i = 9 ∨ i = 10 ∨ i = 11 ∨ i = 12 ∨ i = 13 ∨ i = 14 ∨ i = 15 ∨ i = 16 ∨ i = 17 ∨ i = 18 ∨ i = 19 ∨ i = 20 ∨ i = 21 ∨ i = 22 ∨ i = 23 ∨ i = 24 ∨ i = 25 ∨ i = 26 ∨ i = 27 ∨ i = 28 ∨ i = 29 ∨ i = 30 ∨ i = 31 := by omega
  rcases hc with rfl | rfl | rfl | rfl | rfl | rfl | rfl | rfl | rfl | rfl | rfl | rfl | rfl | rfl | rfl | rfl | rfl | rfl | rfl | rfl | rfl | rfl | rfl | rfl | rfl | rfl | rfl | rfl | rfl | rfl | rfl | rfl <;> simp
theorem own_byte (y : Int32) : ((y.toInt8.toInt32).toInt8.toInt32) &&& (255 : Int32) = y &&& (255 : Int32) := by
  have e : (y.toInt8.toInt32).toInt8 = y.toInt8 := by simp
  rw [e]
  apply Int32.toBitVec_inj.mp
  show (y.toInt8.toInt32).toBitVec &&& 255#32 = y.toBitVec &&& 255#32
  rw [Int8.toBitVec_toInt32, Int32.toBitVec_toInt8]
  apply BitVec.eq_of_getLsbD_eq
  intro i hi
  rw [BitVec.getLsbD_and, BitVec.getLsbD_and]
  have hc : i < 8 ∨ 8 ≤ i := by omega
  rcases hc with h | h
  · rw [BitVec.getLsbD_signExtend]
    simp [h, hi, BitVec.getElem_signExtend]
  · have : (255#32).getLsbD i = false := by
      rw [BitVec.getLsbD]; exact Nat.testBit_lt_two_pow (Nat.lt_of_lt_of_le (by decide : 255 < 2 ^ 8) (Nat.pow_le_pow_right (by decide) h))
    rw [this]; simp
theorem own_sl (x k : Int32) (m : Nat) (h : (k &&& 31).toBitVec.smod 32 = BitVec.ofNat 32 m) (hm : m < 32) : (x <<< (k &&& 31)).toBitVec = x.toBitVec <<< m := by
  rw [Int32.toBitVec_shiftLeft, h, BitVec.shiftLeft_eq', BitVec.toNat_ofNat, Nat.mod_eq_of_lt (by omega)]
theorem own_sr (x k : Int32) (m : Nat) (h : (k &&& 31).toUInt32.toNat = m) (hm : m < 32) : ((x.toUInt32 >>> (k &&& 31).toUInt32).toInt32).toBitVec = x.toBitVec >>> m := by
  show (x.toUInt32 >>> (k &&& 31).toUInt32).toBitVec = _
  rw [UInt32.toBitVec_shiftRight]
  show x.toBitVec >>> ((k &&& 31).toUInt32.toBitVec % 32) = _
  have e : ((k &&& 31).toUInt32.toBitVec % 32).toNat = m := by
    rw [BitVec.toNat_umod]; show (k &&& 31).toUInt32.toNat % 32 = m; rw [h]; exact Nat.mod_eq_of_lt hm
  rw [BitVec.ushiftRight_eq', e]
abbrev own_B (x k : Int32) : Int32 := ((((x.toUInt32 >>> (k &&& 31).toUInt32).toInt32).toInt8.toInt32).toInt8.toInt32) &&& (255 : Int32)
theorem own_Bv (x k : Int32) (m : Nat) (h : (k &&& 31).toUInt32.toNat = m) (hm : m < 32) : (own_B x k).toBitVec = (x.toBitVec >>> m) &&& 255#32 := by
  rw [own_B, own_byte, Int32.toBitVec_and, own_sr x k m h hm]; rfl
theorem own_nat {x : Int32} {n : Nat} (h0 : 0 ≤ x.toInt) (h : x.toInt < 2 ^ n) : x.toBitVec.toNat < 2 ^ n := by
  have e : x.toInt = x.toBitVec.toInt := rfl
  rw [e, BitVec.toInt_eq_toNat_cond] at h0 h
  have hn : ((2 ^ n : Nat) : Int) = (2 : Int) ^ n := by simp
  rw [← hn] at h
  have := x.toBitVec.isLt
  split at h0 <;> omega
theorem own_r1 (x : Int32) (h0 : 0 ≤ x.toInt) (h : x.toInt < 256) : own_B x 0 = x := by
  apply Int32.toBitVec_inj.mp
  rw [own_Bv x 0 0 (by decide) (by decide)]
  exact own_bv1 _ (own_nat h0 h)
theorem own_r2 (x : Int32) (h0 : 0 ≤ x.toInt) (h : x.toInt < 65536) : (own_B x 8 <<< ((8 : Int32) &&& 31)) ||| own_B x 0 = x := by
  apply Int32.toBitVec_inj.mp
  rw [Int32.toBitVec_or, own_sl _ 8 8 (by decide) (by decide), own_Bv x 0 0 (by decide) (by decide), own_Bv x 8 8 (by decide) (by decide)]
  exact own_bv2 _ (own_nat h0 h)
theorem own_r3 (x : Int32) (h0 : 0 ≤ x.toInt) (h : x.toInt < 16777216) : ((own_B x 16 <<< ((16 : Int32) &&& 31)) ||| (own_B x 8 <<< ((8 : Int32) &&& 31))) ||| own_B x 0 = x := by
  apply Int32.toBitVec_inj.mp
  rw [Int32.toBitVec_or, Int32.toBitVec_or, own_sl _ 16 16 (by decide) (by decide), own_sl _ 8 8 (by decide) (by decide), own_Bv x 0 0 (by decide) (by decide), own_Bv x 8 8 (by decide) (by decide), own_Bv x 16 16 (by decide) (by decide)]
  exact own_bv3 _ (own_nat h0 h)
theorem own_r4 (x : Int32) : (((own_B x 24 <<< ((24 : Int32) &&& 31)) ||| (own_B x 16 <<< ((16 : Int32) &&& 31))) ||| (own_B x 8 <<< ((8 : Int32) &&& 31))) ||| own_B x 0 = x := by
  apply Int32.toBitVec_inj.mp
  rw [Int32.toBitVec_or, Int32.toBitVec_or, Int32.toBitVec_or, own_sl _ 24 24 (by decide) (by decide), own_sl _ 16 16 (by decide) (by decide), own_sl _ 8 8 (by decide) (by decide), own_Bv x 0 0 (by decide) (by decide), own_Bv x 8 8 (by decide) (by decide), own_Bv x 16 16 (by decide) (by decide), own_Bv x 24 24 (by decide) (by decide)]
  exact own_bv4 _
theorem own_len (x s : Int32) : 0 ≤ (((x &&& (2147483647 : Int32)).toUInt32 >>> ((s &&& (31 : Int32)) &&& 31).toUInt32).toInt32).toInt := by
  generalize ((s &&& (31 : Int32)) &&& 31).toUInt32 = z
  have hy : (x &&& (2147483647 : Int32)).toUInt32.toNat < 2147483648 := by
    show (x.toBitVec &&& 2147483647#32).toNat < _
    rw [BitVec.toNat_and]
    exact Nat.lt_of_le_of_lt Nat.and_le_right (by decide)
  have hs : ((x &&& (2147483647 : Int32)).toUInt32 >>> z).toNat ≤ (x &&& (2147483647 : Int32)).toUInt32.toNat := by
    rw [UInt32.toNat_shiftRight, Nat.shiftRight_eq_div_pow]; exact Nat.div_le_self _ _
  have e : (((x &&& (2147483647 : Int32)).toUInt32 >>> z).toInt32).toInt = (((x &&& (2147483647 : Int32)).toUInt32 >>> z).toBitVec).toInt := rfl
  have e2 : (((x &&& (2147483647 : Int32)).toUInt32 >>> z).toBitVec).toNat = ((x &&& (2147483647 : Int32)).toUInt32 >>> z).toNat := rfl
  rw [e, BitVec.toInt_eq_toNat_cond, e2]
  split <;> omega
theorem own_us (x k : Int32) {m : Nat} (hn : (k &&& 31).toUInt32.toNat = m) (hk : m < 32) (h : 0 ≤ x.toInt) : (Jvm.Free.XT.ushr x k).toInt = x.toInt / 2 ^ m ∧ 0 ≤ (Jvm.Free.XT.ushr x k).toInt := by
  have e : (Jvm.Free.XT.ushr x k).toInt = x.toInt / 2 ^ m := Jvm.Kit.i32_iushr (Jvm.Kit.i32_nonneg.mpr h) hn hk
  exact ⟨e, by rw [e]; exact Int.ediv_nonneg h (Int.pow_nonneg (by decide))⟩
theorem own_leaf {C n t : Int32} (h0 : 0 ≤ t.toInt) (h1 : t.toInt ≤ 1) (hC : ((32 - (C - 0)) + 7) / 8 = n ∧ ((32 - (C - 1)) + 7) / 8 = n) : ((32 - (C - t)) + 7) / 8 = n := by
  have ht : t.toInt = 0 ∨ t.toInt = 1 := by omega
  rcases ht with h | h
  · rw [show t = (0 : Int32) from Int32.toInt_inj.mp h]; exact hC.1
  · rw [show t = (1 : Int32) from Int32.toInt_inj.mp h]; exact hC.2
theorem own_nlz (a : Int32) (h : 128 ≤ a.toInt) : ((32 - Jvm.Free.JP.Integer_numberOfLeadingZeros_I.val a) + 7) / 8 = if a.toInt < 256 then (1 : Int32) else if a.toInt < 65536 then 2 else if a.toInt < 16777216 then 3 else 4 := by
  have hl := a.toInt_lt
  have a4 := own_us a 4 (m := 4) (by decide) (by decide) (by omega)
  have a8 := own_us a 8 (m := 8) (by decide) (by decide) (by omega)
  have a16 := own_us a 16 (m := 16) (by decide) (by decide) (by omega)
  have b1 := own_us (Jvm.Free.XT.ushr a 4) 2 (m := 2) (by decide) (by decide) a4.2
  have c1 := own_us _ 1 (m := 1) (by decide) (by decide) b1.2
  have c2 := own_us (Jvm.Free.XT.ushr a 8) 1 (m := 1) (by decide) (by decide) a8.2
  have b3 := own_us (Jvm.Free.XT.ushr a 8) 2 (m := 2) (by decide) (by decide) a8.2
  have c3 := own_us _ 1 (m := 1) (by decide) (by decide) b3.2
  have b4 := own_us (Jvm.Free.XT.ushr a 8) 4 (m := 4) (by decide) (by decide) a8.2
  have c4 := own_us _ 1 (m := 1) (by decide) (by decide) b4.2
  have b5 := own_us _ 2 (m := 2) (by decide) (by decide) b4.2
  have c5 := own_us _ 1 (m := 1) (by decide) (by decide) b5.2
  have c6 := own_us (Jvm.Free.XT.ushr a 16) 1 (m := 1) (by decide) (by decide) a16.2
  have b7 := own_us (Jvm.Free.XT.ushr a 16) 2 (m := 2) (by decide) (by decide) a16.2
  have c7 := own_us _ 1 (m := 1) (by decide) (by decide) b7.2
  have b8 := own_us (Jvm.Free.XT.ushr a 16) 4 (m := 4) (by decide) (by decide) a16.2
  have c8 := own_us _ 1 (m := 1) (by decide) (by decide) b8.2
  have b9 := own_us _ 2 (m := 2) (by decide) (by decide) b8.2
  have c9 := own_us _ 1 (m := 1) (by decide) (by decide) b9.2
  have d0 := own_us (Jvm.Free.XT.ushr a 16) 8 (m := 8) (by decide) (by decide) a16.2
  have e1 := own_us _ 1 (m := 1) (by decide) (by decide) d0.2
  have d2 := own_us _ 2 (m := 2) (by decide) (by decide) d0.2
  have e2 := own_us _ 1 (m := 1) (by decide) (by decide) d2.2
  have d4 := own_us _ 4 (m := 4) (by decide) (by decide) d0.2
  have e4 := own_us _ 1 (m := 1) (by decide) (by decide) d4.2
  have d5 := own_us _ 2 (m := 2) (by decide) (by decide) d4.2
  have e5 := own_us _ 1 (m := 1) (by decide) (by decide) d5.2
  have k0 : (0 : Int32).toInt = 0 := by decide
  have k4 : (4 : Int32).toInt = 4 := by decide
  have k16 : (16 : Int32).toInt = 16 := by decide
  have k256 : (256 : Int32).toInt = 256 := by decide
  have k65 : (65536 : Int32).toInt = 65536 := by decide
  unfold Jvm.Free.JP.Integer_numberOfLeadingZeros_I.val
  rw [if_pos (show (0 : Int32) < a by rw [Int32.lt_iff_toInt_lt]; omega)]
  simp only [Int32.lt_iff_toInt_lt, k4, k16, k256, k65]
  (repeat' split) <;> first | (exfalso; omega) | exact own_leaf (by omega) (by omega) (by decide)
theorem own_bb (x : Int32) : nar .byte (x.toInt8.toInt32) = x.toInt8.toInt32 := by
  show (x.toInt8.toInt32).toInt8.toInt32 = _
  rw [show (x.toInt8.toInt32).toInt8 = x.toInt8 by simp]
theorem own_lt {y k : Int32} (h : y < k) : y.toInt < k.toInt := Int32.lt_iff_toInt_lt.mp h
theorem own_tab {Z s : State} {a0 args : Array Value} (hw : ∀ d ∈ tables_1, d.before a0 Z = true) (hZ : Z.Warmed39 s.vm) : Jvm.Free.JP.Integer_numberOfLeadingZeros_I.tab.before args s = true := by
  refine Jvm.Free.XT.unparts (mvT hZ (hw _ (List.mem_of_getElem? (i := 9) rfl))) ?_
  intro w h
  rcases List.mem_cons.mp h with rfl | h
  · exact mvT hZ (hw _ (List.mem_of_getElem? (i := 8) rfl))
  · cases List.mem_singleton.mp (show w ∈ [Jvm.Cond.constant "java/lang/Integer" 264 65536] from h)
    exact mvT hZ (hw _ (List.mem_of_getElem? (i := 10) rfl))
def QH (Z : State) (p1 p2 nn : Int32) (vs : List Value) (h0 : Heap) (n0 : Nat) (v : Option Value) (h : Heap) (L : List Loc) : Prop := v = some (.ref h0.size) ∧ Fr n0 L ∧ Keep h0 h [] ∧ ∃ k, Arv Z h h0.size k .byte nn vs (.int (0 : Int32))
theorem d1_0 : decode prog_20_method_8_code 0 = .ok (.iload_n 1, 1) := by decide +kernel
theorem d1_1 : decode prog_20_method_8_code 1 = .ok (.sipush 128, 3) := by decide +kernel
theorem d1_4 : decode prog_20_method_8_code 4 = .ok (.if_icmp .ge 7, 3) := by decide +kernel
theorem d1_7 : decode prog_20_method_8_code 7 = .ok (.iconst 0, 1) := by decide +kernel
theorem d1_8 : decode prog_20_method_8_code 8 = .ok (.goto 16, 3) := by decide +kernel
theorem d1_24 : decode prog_20_method_8_code 24 = .ok (.istore_n 2, 1) := by decide +kernel
theorem d1_25 : decode prog_20_method_8_code 25 = .ok (.iconst 2, 1) := by decide +kernel
theorem d1_26 : decode prog_20_method_8_code 26 = .ok (.iload_n 2, 1) := by decide +kernel
theorem d1_27 : decode prog_20_method_8_code 27 = .ok (.iadd, 1) := by decide +kernel
theorem d1_28 : decode prog_20_method_8_code 28 = .ok (.newarray .byte, 2) := by decide +kernel
theorem d1_30 : decode prog_20_method_8_code 30 = .ok (.astore_n 3, 1) := by decide +kernel
theorem d1_31 : decode prog_20_method_8_code 31 = .ok (.aload_n 3, 1) := by decide +kernel
theorem d1_32 : decode prog_20_method_8_code 32 = .ok (.iconst 0, 1) := by decide +kernel
theorem d1_33 : decode prog_20_method_8_code 33 = .ok (.iload_n 0, 1) := by decide +kernel
theorem d1_34 : decode prog_20_method_8_code 34 = .ok (.i2b, 1) := by decide +kernel
theorem d1_35 : decode prog_20_method_8_code 35 = .ok (.bastore, 1) := by decide +kernel
theorem d1_36 : decode prog_20_method_8_code 36 = .ok (.aload_n 3, 1) := by decide +kernel
theorem d1_37 : decode prog_20_method_8_code 37 = .ok (.iconst 1, 1) := by decide +kernel
theorem d1_38 : decode prog_20_method_8_code 38 = .ok (.iload_n 2, 1) := by decide +kernel
theorem d1_39 : decode prog_20_method_8_code 39 = .ok (.ifCond .ne 7, 3) := by decide +kernel
theorem d1_42 : decode prog_20_method_8_code 42 = .ok (.iload_n 1, 1) := by decide +kernel
theorem d1_43 : decode prog_20_method_8_code 43 = .ok (.goto 8, 3) := by decide +kernel
theorem d1_51 : decode prog_20_method_8_code 51 = .ok (.i2b, 1) := by decide +kernel
theorem d1_52 : decode prog_20_method_8_code 52 = .ok (.bastore, 1) := by decide +kernel
theorem d1_53 : decode prog_20_method_8_code 53 = .ok (.iconst 0, 1) := by decide +kernel
theorem d1_54 : decode prog_20_method_8_code 54 = .ok (.istore 4, 2) := by decide +kernel
theorem d1_56 : decode prog_20_method_8_code 56 = .ok (.iload 4, 2) := by decide +kernel
theorem d1_58 : decode prog_20_method_8_code 58 = .ok (.iload_n 2, 1) := by decide +kernel
theorem d1_59 : decode prog_20_method_8_code 59 = .ok (.if_icmp .ge 27, 3) := by decide +kernel
theorem d1_86 : decode prog_20_method_8_code 86 = .ok (.aload_n 3, 1) := by decide +kernel
theorem d1_87 : decode prog_20_method_8_code 87 = .ok (.areturn, 1) := by decide +kernel
theorem pn_1 : plainName "com/example/rollcall/rollcall/DerElement" = true := by first | (simp [plainName, overriddenIn]; done) | decide +kernel
theorem ef_1 (m : MethodId) (x0 : Int32) (x1 : Int32) : entryFrame m #[(.int x0), (.int x1)] 5 = mkF m 0 #[.val (.int x0), .val (.int x1), .unset, .unset, .unset] [] := by first | (simp [entryFrame, mkF, argsToLocals, Value.category]; done) | rfl
set_option maxRecDepth 65536 in
set_option maxHeartbeats 40000000 in
theorem rmH0 (l : Launch) (Z : State) (a0 : Array Value) (hw : ∀ d ∈ tables_1, d.before a0 Z = true) (ws : List Jvm.Cond) (p1 p2 : Int32) (h0 : Heap) (n0 : Nat) (Z0 : n0 ≤ h0.size) (gq1 : p2 < (128 : Int32)) :
    MetFree l (⟨"com/example/rollcall/rollcall/DerElement", "header", "(II)[B"⟩ : MethodName) (head1 (Jvm.Cond.code (⟨"com/example/rollcall/rollcall/DerElement", "header", "(II)[B"⟩ : MethodName) prog_20_method_8_code 5 (some (.array .byte)) :: ws) ({ frames := 1, cells := 1, slots := 2, locals := 14 } : Room)) (fun a U => a = #[(.int p1), (.int p2)] ∧ Z.Warmed39 U.vm ∧ U.heap = h0) (fun _ _ _ _ _ => True) (fun _ U o U' => ∃ v L, o = .returned v ∧ QH Z p1 p2 (2 : Int32) [(.int (nar .byte (p1.toInt8.toInt32))), (.int (nar .byte (p2.toInt8.toInt32)))] h0 n0 v U'.heap L ∧ FrameEnd U o U' L ({ frames := 1, cells := 1, slots := 2, locals := 14 } : Room).cells ({ frames := 1, cells := 1, slots := 2, locals := 14 } : Room).slots) := by
  refine MetFree.of_bodySF (plainFor_of_name pn_1) hisR ?_
  intro p e s m args below meth c s₁ Bd hml0 hP hK
  obtain ⟨rfl, hZ, hh⟩ := hP
  have hx := Bd.exec
  have hby := Bd.bytes
  have hml : c.maxLocals = 5 := hml0
  have hown : s.vm.findClass "com/example/rollcall/rollcall/DerElement" = some m.cls := findClass_of_methodNamed Bd.named
  have hnm := (name_of_methodNamed Bd.named Bd.method).1
  have X0 : Stand p l e ({ frames := 1, cells := 1, slots := 2, locals := 14 } : Room) s m #[(.int p1), (.int p2)] below meth c s₁ [] 0 0 := Stand.of_body Bd
  have e0 : s₁.heap = h0 := by rw [← hh, Bd.state]; rfl
  have N0 := Fr.nil n0
  have pre0 : ∀ tz, Steps p.tables e below (s₁.setTop (mkF m 0 #[.val (.int p1), .val (.int p2), .unset, .unset, .unset] [])) tz → Steps p.tables e below (s₁.setTop (entryFrame m #[(.int p1), (.int p2)] 5)) tz := fun tz kz => castTop (ef_1 m p1 p2) kz
  obtain ⟨T1, h1, k1, X1, e1, E1, A1, st1⟩ := newP X0 hx hZ (hw _ (List.mem_of_getElem? (i := 5) rfl)) e0 (g := (mkF m 28 #[.val (.int p1), .val (.int p2), .val (.int (0 : Int32)), .unset, .unset] [(.int (2 : Int32))])) rfl (hb hby d1_28) rfl (by decide) (cap := 2) (by decide) (by decide) (by decide) (by decide)
  obtain ⟨b1, g1⟩ : ∃ z, z = h0.size := ⟨_, rfl⟩
  rw [← g1] at A1 st1
  have gb1 : n0 ≤ b1 := Nat.le_trans Z0 (Nat.le_of_eq g1.symm)
  have sz1 : h0.size ≤ b1 := Nat.le_trans (Keep.refl h0 []).1 (Nat.le_of_eq g1.symm)
  have Z1 : n0 ≤ h1.size := Nat.le_trans Z0 E1.1
  have KC1 : Keep h0 h1 [] := (Keep.refl h0 []).ext E1
  have V1 : Arv Z h1 b1 k1 .byte (2 : Int32) [(.int (0 : Int32)), (.int (0 : Int32))] (.int (0 : Int32)) := (Arv.new A1 (by decide)).pad (pad_rep [] (.int (0 : Int32)) 2)
  obtain ⟨cl2, Ar2, q2, S2, M2, H2, G2⟩ := id V1
  have hin3 : ¬ ((0 : Int32) < 0 ∨ cl2.slots.size ≤ ((0 : Int32)).toNatClampNeg) := inb_of S2 ⟨by decide, by decide⟩
  obtain ⟨T3, h3, X3, e3, W3, st3⟩ := stB X1 hx hZ e1 Ar2 (j := (0 : Int32)) hin3 (g := (mkF m 35 #[.val (.int p1), .val (.int p2), .val (.int (0 : Int32)), .val (.ref b1), .unset] [(.int (p1.toInt8.toInt32)), (.int (0 : Int32)), (.ref b1)])) rfl rfl (hb hby d1_35)
  have V3 : Arv Z h3 b1 k1 .byte (2 : Int32) [(.int (nar .byte (p1.toInt8.toInt32))), (.int (0 : Int32))] (.int (0 : Int32)) := Arv.set Ar2 q2 S2 M2 H2 G2 (fits_nar_byte _) W3 0 rfl (Nat.le_of_ble_eq_true rfl)
  have Z3 : n0 ≤ h3.size := Nat.le_trans Z1 (Keep.of_wr W3).1
  have KC3 : Keep h0 h3 [] := KC1.wr W3 (Or.inr sz1)
  have N3 := Fr.snoc X3 N0 gb1
  obtain ⟨cl4, Ar4, q4, S4, M4, H4, G4⟩ := id V3
  have hin5 : ¬ ((1 : Int32) < 0 ∨ cl4.slots.size ≤ ((1 : Int32)).toNatClampNeg) := inb_of S4 ⟨by decide, by decide⟩
  obtain ⟨T5, h5, X5, e5, W5, st5⟩ := stB X3 hx hZ e3 Ar4 (j := (1 : Int32)) hin5 (g := (mkF m 52 #[.val (.int p1), .val (.int p2), .val (.int (0 : Int32)), .val (.ref b1), .unset] [(.int (p2.toInt8.toInt32)), (.int (1 : Int32)), (.ref b1)])) rfl rfl (hb hby d1_52)
  have V5 : Arv Z h5 b1 k1 .byte (2 : Int32) [(.int (nar .byte (p1.toInt8.toInt32))), (.int (nar .byte (p2.toInt8.toInt32)))] (.int (0 : Int32)) := Arv.set Ar4 q4 S4 M4 H4 G4 (fits_nar_byte _) W5 1 rfl (Nat.le_of_ble_eq_true rfl)
  have Z5 : n0 ≤ h5.size := Nat.le_trans Z3 (Keep.of_wr W5).1
  have KC5 : Keep h0 h5 [] := KC3.wr W5 (Or.inr sz1)
  have N5 := Fr.snoc X5 N3 gb1
  obtain ⟨fs, hr, hrun, hended, hW, hsame⟩ := X5.leave (v := some (.ref b1)) (fun h => by rw [Bd.returns] at h; cases h)
  refine ⟨_, _, pre0 _ ?_, hrun, hended, _, _, rfl, ?_, ⟨_, rfl⟩, hW, hsame.mono (by decide) (by decide)⟩
  · show Steps p.tables e below (s₁.setTop (mkF m 0 #[.val (.int p1), .val (.int p2), .unset, .unset, .unset] [])) _
    refine XS.iloadN X0.here hx rfl (hb hby d1_0) rfl ?_
    show Steps p.tables e below (s₁.setTop (mkF m 1 #[.val (.int p1), .val (.int p2), .unset, .unset, .unset] [(.int p2)])) _
    refine XS.sipush X0.here hx rfl (hb hby d1_1) ?_
    show Steps p.tables e below (s₁.setTop (mkF m 4 #[.val (.int p1), .val (.int p2), .unset, .unset, .unset] [(.int (128 : Int32)), (.int p2)])) _
    refine XS.icmpNo X0.here hx rfl (hb hby d1_4) rfl (tlt (gq1 : p2 < (128 : Int32))).2.1 ?_
    show Steps p.tables e below (s₁.setTop (mkF m 7 #[.val (.int p1), .val (.int p2), .unset, .unset, .unset] [])) _
    refine XS.iconst X0.here hx rfl (hb hby d1_7) ?_
    show Steps p.tables e below (s₁.setTop (mkF m 8 #[.val (.int p1), .val (.int p2), .unset, .unset, .unset] [(.int (0 : Int32))])) _
    refine XS.goto X0.here hx rfl (pc0 := 8) (pc' := 24) rfl (hb hby d1_8) (by decide) (by decide) ?_
    show Steps p.tables e below (s₁.setTop (mkF m 24 #[.val (.int p1), .val (.int p2), .unset, .unset, .unset] [(.int (0 : Int32))])) _
    refine XS.istoreN X0.here hx rfl (hb hby d1_24) rfl (l' := #[.val (.int p1), .val (.int p2), .val (.int (0 : Int32)), .unset, .unset]) rfl ?_
    show Steps p.tables e below (s₁.setTop (mkF m 25 #[.val (.int p1), .val (.int p2), .val (.int (0 : Int32)), .unset, .unset] [])) _
    refine XS.iconst X0.here hx rfl (hb hby d1_25) ?_
    show Steps p.tables e below (s₁.setTop (mkF m 26 #[.val (.int p1), .val (.int p2), .val (.int (0 : Int32)), .unset, .unset] [(.int (2 : Int32))])) _
    refine XS.iloadN X0.here hx rfl (hb hby d1_26) rfl ?_
    show Steps p.tables e below (s₁.setTop (mkF m 27 #[.val (.int p1), .val (.int p2), .val (.int (0 : Int32)), .unset, .unset] [(.int (0 : Int32)), (.int (2 : Int32))])) _
    refine XS.iadd X0.here hx rfl (hb hby d1_27) rfl ?_
    show Steps p.tables e below (s₁.setTop (mkF m 28 #[.val (.int p1), .val (.int p2), .val (.int (0 : Int32)), .unset, .unset] [(.int ((2 : Int32) + (0 : Int32)))])) _
    rw [show ((2 : Int32) + (0 : Int32)) = (2 : Int32) from by decide]
    show Steps p.tables e below (s₁.setTop (mkF m 28 #[.val (.int p1), .val (.int p2), .val (.int (0 : Int32)), .unset, .unset] [(.int (2 : Int32))])) _
    refine st1 _ ?_
    show Steps p.tables e below (T1.setTop (mkF m 30 #[.val (.int p1), .val (.int p2), .val (.int (0 : Int32)), .unset, .unset] [(.ref b1)])) _
    refine XS.astoreN X1.here hx rfl (hb hby d1_30) rfl rfl (l' := #[.val (.int p1), .val (.int p2), .val (.int (0 : Int32)), .val (.ref b1), .unset]) rfl ?_
    show Steps p.tables e below (T1.setTop (mkF m 31 #[.val (.int p1), .val (.int p2), .val (.int (0 : Int32)), .val (.ref b1), .unset] [])) _
    refine XS.aloadN X1.here hx rfl (hb hby d1_31) rfl rfl ?_
    show Steps p.tables e below (T1.setTop (mkF m 32 #[.val (.int p1), .val (.int p2), .val (.int (0 : Int32)), .val (.ref b1), .unset] [(.ref b1)])) _
    refine XS.iconst X1.here hx rfl (hb hby d1_32) ?_
    show Steps p.tables e below (T1.setTop (mkF m 33 #[.val (.int p1), .val (.int p2), .val (.int (0 : Int32)), .val (.ref b1), .unset] [(.int (0 : Int32)), (.ref b1)])) _
    refine XS.iloadN X1.here hx rfl (hb hby d1_33) rfl ?_
    show Steps p.tables e below (T1.setTop (mkF m 34 #[.val (.int p1), .val (.int p2), .val (.int (0 : Int32)), .val (.ref b1), .unset] [(.int p1), (.int (0 : Int32)), (.ref b1)])) _
    refine XS.i2b X1.here hx rfl (hb hby d1_34) rfl ?_
    show Steps p.tables e below (T1.setTop (mkF m 35 #[.val (.int p1), .val (.int p2), .val (.int (0 : Int32)), .val (.ref b1), .unset] [(.int (p1.toInt8.toInt32)), (.int (0 : Int32)), (.ref b1)])) _
    refine st3 _ ?_
    show Steps p.tables e below (T3.setTop (mkF m 36 #[.val (.int p1), .val (.int p2), .val (.int (0 : Int32)), .val (.ref b1), .unset] [])) _
    refine XS.aloadN X3.here hx rfl (hb hby d1_36) rfl rfl ?_
    show Steps p.tables e below (T3.setTop (mkF m 37 #[.val (.int p1), .val (.int p2), .val (.int (0 : Int32)), .val (.ref b1), .unset] [(.ref b1)])) _
    refine XS.iconst X3.here hx rfl (hb hby d1_37) ?_
    show Steps p.tables e below (T3.setTop (mkF m 38 #[.val (.int p1), .val (.int p2), .val (.int (0 : Int32)), .val (.ref b1), .unset] [(.int (1 : Int32)), (.ref b1)])) _
    refine XS.iloadN X3.here hx rfl (hb hby d1_38) rfl ?_
    show Steps p.tables e below (T3.setTop (mkF m 39 #[.val (.int p1), .val (.int p2), .val (.int (0 : Int32)), .val (.ref b1), .unset] [(.int (0 : Int32)), (.int (1 : Int32)), (.ref b1)])) _
    refine XS.ifNo X3.here hx rfl (hb hby d1_39) rfl ((if0 _ _).trans (teq ((by decide) : (0 : Int32) = (0 : Int32))).2) ?_
    show Steps p.tables e below (T3.setTop (mkF m 42 #[.val (.int p1), .val (.int p2), .val (.int (0 : Int32)), .val (.ref b1), .unset] [(.int (1 : Int32)), (.ref b1)])) _
    refine XS.iloadN X3.here hx rfl (hb hby d1_42) rfl ?_
    show Steps p.tables e below (T3.setTop (mkF m 43 #[.val (.int p1), .val (.int p2), .val (.int (0 : Int32)), .val (.ref b1), .unset] [(.int p2), (.int (1 : Int32)), (.ref b1)])) _
    refine XS.goto X3.here hx rfl (pc0 := 43) (pc' := 51) rfl (hb hby d1_43) (by decide) (by decide) ?_
    show Steps p.tables e below (T3.setTop (mkF m 51 #[.val (.int p1), .val (.int p2), .val (.int (0 : Int32)), .val (.ref b1), .unset] [(.int p2), (.int (1 : Int32)), (.ref b1)])) _
    refine XS.i2b X3.here hx rfl (hb hby d1_51) rfl ?_
    show Steps p.tables e below (T3.setTop (mkF m 52 #[.val (.int p1), .val (.int p2), .val (.int (0 : Int32)), .val (.ref b1), .unset] [(.int (p2.toInt8.toInt32)), (.int (1 : Int32)), (.ref b1)])) _
    refine st5 _ ?_
    show Steps p.tables e below (T5.setTop (mkF m 53 #[.val (.int p1), .val (.int p2), .val (.int (0 : Int32)), .val (.ref b1), .unset] [])) _
    refine XS.iconst X5.here hx rfl (hb hby d1_53) ?_
    show Steps p.tables e below (T5.setTop (mkF m 54 #[.val (.int p1), .val (.int p2), .val (.int (0 : Int32)), .val (.ref b1), .unset] [(.int (0 : Int32))])) _
    refine XS.istore X5.here hx rfl (hb hby d1_54) rfl (l' := #[.val (.int p1), .val (.int p2), .val (.int (0 : Int32)), .val (.ref b1), .val (.int (0 : Int32))]) rfl ?_
    show Steps p.tables e below (T5.setTop (mkF m 56 #[.val (.int p1), .val (.int p2), .val (.int (0 : Int32)), .val (.ref b1), .val (.int (0 : Int32))] [])) _
    refine XS.iload X5.here hx rfl (hb hby d1_56) rfl ?_
    show Steps p.tables e below (T5.setTop (mkF m 58 #[.val (.int p1), .val (.int p2), .val (.int (0 : Int32)), .val (.ref b1), .val (.int (0 : Int32))] [(.int (0 : Int32))])) _
    refine XS.iloadN X5.here hx rfl (hb hby d1_58) rfl ?_
    show Steps p.tables e below (T5.setTop (mkF m 59 #[.val (.int p1), .val (.int p2), .val (.int (0 : Int32)), .val (.ref b1), .val (.int (0 : Int32))] [(.int (0 : Int32)), (.int (0 : Int32))])) _
    refine XS.icmpYes X5.here hx rfl (pc0 := 59) (pc' := 86) rfl (hb hby d1_59) rfl (flt ((by decide) : ¬ ((0 : Int32) < (0 : Int32)))).2.1 (by decide) (by decide) ?_
    show Steps p.tables e below (T5.setTop (mkF m 86 #[.val (.int p1), .val (.int p2), .val (.int (0 : Int32)), .val (.ref b1), .val (.int (0 : Int32))] [])) _
    refine XS.aloadN X5.here hx rfl (hb hby d1_86) rfl rfl ?_
    show Steps p.tables e below (T5.setTop (mkF m 87 #[.val (.int p1), .val (.int p2), .val (.int (0 : Int32)), .val (.ref b1), .val (.int (0 : Int32))] [(.ref b1)])) _
    jvm_step X5.here [X5.here.top, hx, (hb hby d1_87), X5.method', Bd.returns, Value.isRef, FieldType.isReference]
    first | (intro acts; rw [hr _ acts rfl rfl rfl]) | rw [hr _ _ rfl rfl rfl]
    exact Steps.refl _
  · show QH Z p1 p2 (2 : Int32) [(.int (nar .byte (p1.toInt8.toInt32))), (.int (nar .byte (p2.toInt8.toInt32)))] h0 n0 _ T5.heap _
    rw [e5]
    exact ⟨by rw [g1], N5, KC5, ⟨_, (g1 ▸ V5)⟩⟩
theorem d1_11 : decode prog_20_method_8_code 11 = .ok (.bipush 32, 2) := by decide +kernel
theorem d1_13 : decode prog_20_method_8_code 13 = .ok (.iload_n 1, 1) := by decide +kernel
theorem d1_14 : decode prog_20_method_8_code 14 = .ok (.invokestatic 52, 3) := by decide +kernel
theorem d1_17 : decode prog_20_method_8_code 17 = .ok (.isub, 1) := by decide +kernel
theorem d1_18 : decode prog_20_method_8_code 18 = .ok (.bipush 7, 2) := by decide +kernel
theorem d1_20 : decode prog_20_method_8_code 20 = .ok (.iadd, 1) := by decide +kernel
theorem d1_21 : decode prog_20_method_8_code 21 = .ok (.bipush 8, 2) := by decide +kernel
theorem d1_23 : decode prog_20_method_8_code 23 = .ok (.idiv, 1) := by decide +kernel
theorem d1_46 : decode prog_20_method_8_code 46 = .ok (.sipush 128, 3) := by decide +kernel
theorem d1_49 : decode prog_20_method_8_code 49 = .ok (.iload_n 2, 1) := by decide +kernel
theorem d1_50 : decode prog_20_method_8_code 50 = .ok (.ior, 1) := by decide +kernel
theorem d1_62 : decode prog_20_method_8_code 62 = .ok (.aload_n 3, 1) := by decide +kernel
theorem d1_63 : decode prog_20_method_8_code 63 = .ok (.iconst 2, 1) := by decide +kernel
theorem d1_64 : decode prog_20_method_8_code 64 = .ok (.iload 4, 2) := by decide +kernel
theorem d1_66 : decode prog_20_method_8_code 66 = .ok (.iadd, 1) := by decide +kernel
theorem d1_67 : decode prog_20_method_8_code 67 = .ok (.iload_n 1, 1) := by decide +kernel
theorem d1_68 : decode prog_20_method_8_code 68 = .ok (.iload_n 2, 1) := by decide +kernel
theorem d1_69 : decode prog_20_method_8_code 69 = .ok (.iconst 1, 1) := by decide +kernel
theorem d1_70 : decode prog_20_method_8_code 70 = .ok (.isub, 1) := by decide +kernel
theorem d1_71 : decode prog_20_method_8_code 71 = .ok (.iload 4, 2) := by decide +kernel
theorem d1_73 : decode prog_20_method_8_code 73 = .ok (.isub, 1) := by decide +kernel
theorem d1_74 : decode prog_20_method_8_code 74 = .ok (.bipush 8, 2) := by decide +kernel
theorem d1_76 : decode prog_20_method_8_code 76 = .ok (.imul, 1) := by decide +kernel
theorem d1_77 : decode prog_20_method_8_code 77 = .ok (.iushr, 1) := by decide +kernel
theorem d1_78 : decode prog_20_method_8_code 78 = .ok (.i2b, 1) := by decide +kernel
theorem d1_79 : decode prog_20_method_8_code 79 = .ok (.bastore, 1) := by decide +kernel
theorem d1_80 : decode prog_20_method_8_code 80 = .ok (.iinc 4 1, 3) := by decide +kernel
theorem d1_83 : decode prog_20_method_8_code 83 = .ok (.goto (-27), 3) := by decide +kernel
theorem pd_1_0 : parseMethodDescriptor "(I)I" = some ⟨[.int], some .int⟩ := by decide +kernel
set_option maxRecDepth 65536 in
set_option maxHeartbeats 40000000 in
theorem rmH1 (l : Launch) (Z : State) (a0 : Array Value) (hw : ∀ d ∈ tables_1, d.before a0 Z = true) (ws : List Jvm.Cond) (p1 p2 : Int32) (h0 : Heap) (n0 : Nat) (Z0 : n0 ≤ h0.size) (gq1 : ¬ (p2 < (128 : Int32))) (hn : ((((32 : Int32) - (Jvm.Free.JP.Integer_numberOfLeadingZeros_I.val p2)) + (7 : Int32)) / (8 : Int32)) = (1 : Int32)) :
    MetFree l (⟨"com/example/rollcall/rollcall/DerElement", "header", "(II)[B"⟩ : MethodName) (head1 (Jvm.Cond.code (⟨"com/example/rollcall/rollcall/DerElement", "header", "(II)[B"⟩ : MethodName) prog_20_method_8_code 5 (some (.array .byte)) :: ws) ({ frames := 1, cells := 1, slots := 3, locals := 14 } : Room)) (fun a U => a = #[(.int p1), (.int p2)] ∧ Z.Warmed39 U.vm ∧ U.heap = h0) (fun _ _ _ _ _ => True) (fun _ U o U' => ∃ v L, o = .returned v ∧ QH Z p1 p2 (3 : Int32) [(.int (nar .byte (p1.toInt8.toInt32))), (.int (nar .byte ((129 : Int32).toInt8.toInt32))), (.int (nar .byte (((p2.toUInt32 >>> ((0 : Int32) &&& 31).toUInt32).toInt32).toInt8.toInt32)))] h0 n0 v U'.heap L ∧ FrameEnd U o U' L ({ frames := 1, cells := 1, slots := 3, locals := 14 } : Room).cells ({ frames := 1, cells := 1, slots := 3, locals := 14 } : Room).slots) := by
  refine MetFree.of_bodySF (plainFor_of_name pn_1) hisR ?_
  intro p e s m args below meth c s₁ Bd hml0 hP hK
  obtain ⟨rfl, hZ, hh⟩ := hP
  have hx := Bd.exec
  have hby := Bd.bytes
  have hml : c.maxLocals = 5 := hml0
  have hown : s.vm.findClass "com/example/rollcall/rollcall/DerElement" = some m.cls := findClass_of_methodNamed Bd.named
  have hnm := (name_of_methodNamed Bd.named Bd.method).1
  have X0 : Stand p l e ({ frames := 1, cells := 1, slots := 3, locals := 14 } : Room) s m #[(.int p1), (.int p2)] below meth c s₁ [] 0 0 := Stand.of_body Bd
  have e0 : s₁.heap = h0 := by rw [← hh, Bd.state]; rfl
  have N0 := Fr.nil n0
  have pre0 : ∀ tz, Steps p.tables e below (s₁.setTop (mkF m 0 #[.val (.int p1), .val (.int p2), .unset, .unset, .unset] [])) tz → Steps p.tables e below (s₁.setTop (entryFrame m #[(.int p1), (.int p2)] 5)) tz := fun tz kz => castTop (ef_1 m p1 p2) kz
  obtain ⟨_, _, ⟨T1, L1, k1, n1⟩, -, X1, ⟨⟨hv1, hQ1⟩, l1, y1, z1⟩, st1⟩ := Jvm.LawKit.callS X0 hx (y := (⟨"java/lang/Integer", "numberOfLeadingZeros", "(I)I"⟩ : MethodName)) hown (mvT hZ (hw _ (List.mem_of_getElem? (i := 6) rfl))) (mvT hZ (hw _ (List.mem_of_getElem? (i := 7) rfl))) (mvT hZ (hw _ (List.mem_of_getElem? (i := 8) rfl))) (mvT hZ (hw _ (List.mem_of_getElem? (i := 9) rfl))) (by decide) (Jvm.Free.JP.Integer_numberOfLeadingZeros_I.pays (W := 1) p2 (own_tab hw hZ) (by decide) (by decide)) (g := (mkF m 14 #[.val (.int p1), .val (.int p2), .unset, .unset, .unset] [(.int p2), (.int (32 : Int32))])) rfl (by rw [hml]; rfl) (argsL := [(.int p2)]) (rest := [(.int (32 : Int32))]) (lenOf pd_1_0 rfl) rfl (by show 2 * 0 + _ ≤ _; exact Nat.le_of_eq rfl) (hb hby d1_14) (fun _ _ => ⟨(by decide : 0 + 0 ≤ _), (by decide : 0 + 0 ≤ _), rfl, trivial⟩)
  dsimp only [Pt.U, Pt.locs, Pt.cells, Pt.slots] at X1 l1 y1 z1 st1 hQ1
  subst l1 y1 z1
  subst hv1
  have eh1 : T1.heap = h0 := hQ1.trans e0
  have N1 := Fr.app N0 (Fr.nil n0)
  obtain ⟨T2, h2, k2, X2, e2, E2, A2, st2⟩ := newP X1 hx hZ (hw _ (List.mem_of_getElem? (i := 5) rfl)) eh1 (g := (mkF m 28 #[.val (.int p1), .val (.int p2), .val (.int (1 : Int32)), .unset, .unset] [(.int (3 : Int32))])) rfl (hb hby d1_28) rfl (by decide) (cap := 3) (by decide) (by decide) (by decide) (by decide)
  obtain ⟨b2, g2⟩ : ∃ z, z = h0.size := ⟨_, rfl⟩
  rw [← g2] at A2 st2
  have gb2 : n0 ≤ b2 := Nat.le_trans Z0 (Nat.le_of_eq g2.symm)
  have sz2 : h0.size ≤ b2 := Nat.le_trans (Keep.refl h0 []).1 (Nat.le_of_eq g2.symm)
  have Z2 : n0 ≤ h2.size := Nat.le_trans Z0 E2.1
  have KC2 : Keep h0 h2 [] := (Keep.refl h0 []).ext E2
  have V2 : Arv Z h2 b2 k2 .byte (3 : Int32) [(.int (0 : Int32)), (.int (0 : Int32)), (.int (0 : Int32))] (.int (0 : Int32)) := (Arv.new A2 (by decide)).pad (pad_rep [] (.int (0 : Int32)) 3)
  obtain ⟨cl3, Ar3, q3, S3, M3, H3, G3⟩ := id V2
  have hin4 : ¬ ((0 : Int32) < 0 ∨ cl3.slots.size ≤ ((0 : Int32)).toNatClampNeg) := inb_of S3 ⟨by decide, by decide⟩
  obtain ⟨T4, h4, X4, e4, W4, st4⟩ := stB X2 hx hZ e2 Ar3 (j := (0 : Int32)) hin4 (g := (mkF m 35 #[.val (.int p1), .val (.int p2), .val (.int (1 : Int32)), .val (.ref b2), .unset] [(.int (p1.toInt8.toInt32)), (.int (0 : Int32)), (.ref b2)])) rfl rfl (hb hby d1_35)
  have V4 : Arv Z h4 b2 k2 .byte (3 : Int32) [(.int (nar .byte (p1.toInt8.toInt32))), (.int (0 : Int32)), (.int (0 : Int32))] (.int (0 : Int32)) := Arv.set Ar3 q3 S3 M3 H3 G3 (fits_nar_byte _) W4 0 rfl (Nat.le_of_ble_eq_true rfl)
  have Z4 : n0 ≤ h4.size := Nat.le_trans Z2 (Keep.of_wr W4).1
  have KC4 : Keep h0 h4 [] := KC2.wr W4 (Or.inr sz2)
  have N4 := Fr.snoc X4 N1 gb2
  obtain ⟨cl5, Ar5, q5, S5, M5, H5, G5⟩ := id V4
  have hin6 : ¬ ((1 : Int32) < 0 ∨ cl5.slots.size ≤ ((1 : Int32)).toNatClampNeg) := inb_of S5 ⟨by decide, by decide⟩
  obtain ⟨T6, h6, X6, e6, W6, st6⟩ := stB X4 hx hZ e4 Ar5 (j := (1 : Int32)) hin6 (g := (mkF m 52 #[.val (.int p1), .val (.int p2), .val (.int (1 : Int32)), .val (.ref b2), .unset] [(.int ((129 : Int32).toInt8.toInt32)), (.int (1 : Int32)), (.ref b2)])) rfl rfl (hb hby d1_52)
  have V6 : Arv Z h6 b2 k2 .byte (3 : Int32) [(.int (nar .byte (p1.toInt8.toInt32))), (.int (nar .byte ((129 : Int32).toInt8.toInt32))), (.int (0 : Int32))] (.int (0 : Int32)) := Arv.set Ar5 q5 S5 M5 H5 G5 (fits_nar_byte _) W6 1 rfl (Nat.le_of_ble_eq_true rfl)
  have Z6 : n0 ≤ h6.size := Nat.le_trans Z4 (Keep.of_wr W6).1
  have KC6 : Keep h0 h6 [] := KC4.wr W6 (Or.inr sz2)
  have N6 := Fr.snoc X6 N4 gb2
  obtain ⟨cl7, Ar7, q7, S7, M7, H7, G7⟩ := id V6
  have hin8 : ¬ ((2 : Int32) < 0 ∨ cl7.slots.size ≤ ((2 : Int32)).toNatClampNeg) := inb_of S7 ⟨by decide, by decide⟩
  obtain ⟨T8, h8, X8, e8, W8, st8⟩ := stB X6 hx hZ e6 Ar7 (j := (2 : Int32)) hin8 (g := (mkF m 79 #[.val (.int p1), .val (.int p2), .val (.int (1 : Int32)), .val (.ref b2), .val (.int (0 : Int32))] [(.int (((p2.toUInt32 >>> ((0 : Int32) &&& 31).toUInt32).toInt32).toInt8.toInt32)), (.int (2 : Int32)), (.ref b2)])) rfl rfl (hb hby d1_79)
  have V8 : Arv Z h8 b2 k2 .byte (3 : Int32) [(.int (nar .byte (p1.toInt8.toInt32))), (.int (nar .byte ((129 : Int32).toInt8.toInt32))), (.int (nar .byte (((p2.toUInt32 >>> ((0 : Int32) &&& 31).toUInt32).toInt32).toInt8.toInt32)))] (.int (0 : Int32)) := Arv.set Ar7 q7 S7 M7 H7 G7 (fits_nar_byte _) W8 2 rfl (Nat.le_of_ble_eq_true rfl)
  have Z8 : n0 ≤ h8.size := Nat.le_trans Z6 (Keep.of_wr W8).1
  have KC8 : Keep h0 h8 [] := KC6.wr W8 (Or.inr sz2)
  have N8 := Fr.snoc X8 N6 gb2
  obtain ⟨fs, hr, hrun, hended, hW, hsame⟩ := X8.leave (v := some (.ref b2)) (fun h => by rw [Bd.returns] at h; cases h)
  refine ⟨_, _, pre0 _ ?_, hrun, hended, _, _, rfl, ?_, ⟨_, rfl⟩, hW, hsame.mono (by decide) (by decide)⟩
  · show Steps p.tables e below (s₁.setTop (mkF m 0 #[.val (.int p1), .val (.int p2), .unset, .unset, .unset] [])) _
    refine XS.iloadN X0.here hx rfl (hb hby d1_0) rfl ?_
    show Steps p.tables e below (s₁.setTop (mkF m 1 #[.val (.int p1), .val (.int p2), .unset, .unset, .unset] [(.int p2)])) _
    refine XS.sipush X0.here hx rfl (hb hby d1_1) ?_
    show Steps p.tables e below (s₁.setTop (mkF m 4 #[.val (.int p1), .val (.int p2), .unset, .unset, .unset] [(.int (128 : Int32)), (.int p2)])) _
    refine XS.icmpYes X0.here hx rfl (pc0 := 4) (pc' := 11) rfl (hb hby d1_4) rfl (flt (gq1 : ¬ (p2 < (128 : Int32)))).2.1 (by decide) (by decide) ?_
    show Steps p.tables e below (s₁.setTop (mkF m 11 #[.val (.int p1), .val (.int p2), .unset, .unset, .unset] [])) _
    refine XS.bipush X0.here hx rfl (hb hby d1_11) ?_
    show Steps p.tables e below (s₁.setTop (mkF m 13 #[.val (.int p1), .val (.int p2), .unset, .unset, .unset] [(.int (32 : Int32))])) _
    refine XS.iloadN X0.here hx rfl (hb hby d1_13) rfl ?_
    show Steps p.tables e below (s₁.setTop (mkF m 14 #[.val (.int p1), .val (.int p2), .unset, .unset, .unset] [(.int p2), (.int (32 : Int32))])) _
    refine st1 _ ?_
    show Steps p.tables e below (T1.setTop (mkF m 17 #[.val (.int p1), .val (.int p2), .unset, .unset, .unset] [(.int (Jvm.Free.JP.Integer_numberOfLeadingZeros_I.val p2)), (.int (32 : Int32))])) _
    refine XS.isub X1.here hx rfl (hb hby d1_17) rfl ?_
    show Steps p.tables e below (T1.setTop (mkF m 18 #[.val (.int p1), .val (.int p2), .unset, .unset, .unset] [(.int ((32 : Int32) - (Jvm.Free.JP.Integer_numberOfLeadingZeros_I.val p2)))])) _
    refine XS.bipush X1.here hx rfl (hb hby d1_18) ?_
    show Steps p.tables e below (T1.setTop (mkF m 20 #[.val (.int p1), .val (.int p2), .unset, .unset, .unset] [(.int (7 : Int32)), (.int ((32 : Int32) - (Jvm.Free.JP.Integer_numberOfLeadingZeros_I.val p2)))])) _
    refine XS.iadd X1.here hx rfl (hb hby d1_20) rfl ?_
    show Steps p.tables e below (T1.setTop (mkF m 21 #[.val (.int p1), .val (.int p2), .unset, .unset, .unset] [(.int (((32 : Int32) - (Jvm.Free.JP.Integer_numberOfLeadingZeros_I.val p2)) + (7 : Int32)))])) _
    refine XS.bipush X1.here hx rfl (hb hby d1_21) ?_
    show Steps p.tables e below (T1.setTop (mkF m 23 #[.val (.int p1), .val (.int p2), .unset, .unset, .unset] [(.int (8 : Int32)), (.int (((32 : Int32) - (Jvm.Free.JP.Integer_numberOfLeadingZeros_I.val p2)) + (7 : Int32)))])) _
    refine XS.idiv X1.here hx rfl (hb hby d1_23) rfl (by decide) ?_
    show Steps p.tables e below (T1.setTop (mkF m 24 #[.val (.int p1), .val (.int p2), .unset, .unset, .unset] [(.int ((((32 : Int32) - (Jvm.Free.JP.Integer_numberOfLeadingZeros_I.val p2)) + (7 : Int32)) / (8 : Int32)))])) _
    rw [hn]
    show Steps p.tables e below (T1.setTop (mkF m 24 #[.val (.int p1), .val (.int p2), .unset, .unset, .unset] [(.int (1 : Int32))])) _
    refine XS.istoreN X1.here hx rfl (hb hby d1_24) rfl (l' := #[.val (.int p1), .val (.int p2), .val (.int (1 : Int32)), .unset, .unset]) rfl ?_
    show Steps p.tables e below (T1.setTop (mkF m 25 #[.val (.int p1), .val (.int p2), .val (.int (1 : Int32)), .unset, .unset] [])) _
    refine XS.iconst X1.here hx rfl (hb hby d1_25) ?_
    show Steps p.tables e below (T1.setTop (mkF m 26 #[.val (.int p1), .val (.int p2), .val (.int (1 : Int32)), .unset, .unset] [(.int (2 : Int32))])) _
    refine XS.iloadN X1.here hx rfl (hb hby d1_26) rfl ?_
    show Steps p.tables e below (T1.setTop (mkF m 27 #[.val (.int p1), .val (.int p2), .val (.int (1 : Int32)), .unset, .unset] [(.int (1 : Int32)), (.int (2 : Int32))])) _
    refine XS.iadd X1.here hx rfl (hb hby d1_27) rfl ?_
    show Steps p.tables e below (T1.setTop (mkF m 28 #[.val (.int p1), .val (.int p2), .val (.int (1 : Int32)), .unset, .unset] [(.int ((2 : Int32) + (1 : Int32)))])) _
    rw [show ((2 : Int32) + (1 : Int32)) = (3 : Int32) from by decide]
    show Steps p.tables e below (T1.setTop (mkF m 28 #[.val (.int p1), .val (.int p2), .val (.int (1 : Int32)), .unset, .unset] [(.int (3 : Int32))])) _
    refine st2 _ ?_
    show Steps p.tables e below (T2.setTop (mkF m 30 #[.val (.int p1), .val (.int p2), .val (.int (1 : Int32)), .unset, .unset] [(.ref b2)])) _
    refine XS.astoreN X2.here hx rfl (hb hby d1_30) rfl rfl (l' := #[.val (.int p1), .val (.int p2), .val (.int (1 : Int32)), .val (.ref b2), .unset]) rfl ?_
    show Steps p.tables e below (T2.setTop (mkF m 31 #[.val (.int p1), .val (.int p2), .val (.int (1 : Int32)), .val (.ref b2), .unset] [])) _
    refine XS.aloadN X2.here hx rfl (hb hby d1_31) rfl rfl ?_
    show Steps p.tables e below (T2.setTop (mkF m 32 #[.val (.int p1), .val (.int p2), .val (.int (1 : Int32)), .val (.ref b2), .unset] [(.ref b2)])) _
    refine XS.iconst X2.here hx rfl (hb hby d1_32) ?_
    show Steps p.tables e below (T2.setTop (mkF m 33 #[.val (.int p1), .val (.int p2), .val (.int (1 : Int32)), .val (.ref b2), .unset] [(.int (0 : Int32)), (.ref b2)])) _
    refine XS.iloadN X2.here hx rfl (hb hby d1_33) rfl ?_
    show Steps p.tables e below (T2.setTop (mkF m 34 #[.val (.int p1), .val (.int p2), .val (.int (1 : Int32)), .val (.ref b2), .unset] [(.int p1), (.int (0 : Int32)), (.ref b2)])) _
    refine XS.i2b X2.here hx rfl (hb hby d1_34) rfl ?_
    show Steps p.tables e below (T2.setTop (mkF m 35 #[.val (.int p1), .val (.int p2), .val (.int (1 : Int32)), .val (.ref b2), .unset] [(.int (p1.toInt8.toInt32)), (.int (0 : Int32)), (.ref b2)])) _
    refine st4 _ ?_
    show Steps p.tables e below (T4.setTop (mkF m 36 #[.val (.int p1), .val (.int p2), .val (.int (1 : Int32)), .val (.ref b2), .unset] [])) _
    refine XS.aloadN X4.here hx rfl (hb hby d1_36) rfl rfl ?_
    show Steps p.tables e below (T4.setTop (mkF m 37 #[.val (.int p1), .val (.int p2), .val (.int (1 : Int32)), .val (.ref b2), .unset] [(.ref b2)])) _
    refine XS.iconst X4.here hx rfl (hb hby d1_37) ?_
    show Steps p.tables e below (T4.setTop (mkF m 38 #[.val (.int p1), .val (.int p2), .val (.int (1 : Int32)), .val (.ref b2), .unset] [(.int (1 : Int32)), (.ref b2)])) _
    refine XS.iloadN X4.here hx rfl (hb hby d1_38) rfl ?_
    show Steps p.tables e below (T4.setTop (mkF m 39 #[.val (.int p1), .val (.int p2), .val (.int (1 : Int32)), .val (.ref b2), .unset] [(.int (1 : Int32)), (.int (1 : Int32)), (.ref b2)])) _
    refine XS.ifYes X4.here hx rfl (pc0 := 39) (pc' := 46) rfl (hb hby d1_39) rfl ((if0 _ _).trans (feq ((by decide) : ¬ ((1 : Int32) = (0 : Int32)))).2) (by decide) (by decide) ?_
    show Steps p.tables e below (T4.setTop (mkF m 46 #[.val (.int p1), .val (.int p2), .val (.int (1 : Int32)), .val (.ref b2), .unset] [(.int (1 : Int32)), (.ref b2)])) _
    refine XS.sipush X4.here hx rfl (hb hby d1_46) ?_
    show Steps p.tables e below (T4.setTop (mkF m 49 #[.val (.int p1), .val (.int p2), .val (.int (1 : Int32)), .val (.ref b2), .unset] [(.int (128 : Int32)), (.int (1 : Int32)), (.ref b2)])) _
    refine XS.iloadN X4.here hx rfl (hb hby d1_49) rfl ?_
    show Steps p.tables e below (T4.setTop (mkF m 50 #[.val (.int p1), .val (.int p2), .val (.int (1 : Int32)), .val (.ref b2), .unset] [(.int (1 : Int32)), (.int (128 : Int32)), (.int (1 : Int32)), (.ref b2)])) _
    refine XS.ior X4.here hx rfl (hb hby d1_50) rfl ?_
    show Steps p.tables e below (T4.setTop (mkF m 51 #[.val (.int p1), .val (.int p2), .val (.int (1 : Int32)), .val (.ref b2), .unset] [(.int ((128 : Int32) ||| (1 : Int32))), (.int (1 : Int32)), (.ref b2)])) _
    rw [show ((128 : Int32) ||| (1 : Int32)) = (129 : Int32) from by decide]
    show Steps p.tables e below (T4.setTop (mkF m 51 #[.val (.int p1), .val (.int p2), .val (.int (1 : Int32)), .val (.ref b2), .unset] [(.int (129 : Int32)), (.int (1 : Int32)), (.ref b2)])) _
    refine XS.i2b X4.here hx rfl (hb hby d1_51) rfl ?_
    show Steps p.tables e below (T4.setTop (mkF m 52 #[.val (.int p1), .val (.int p2), .val (.int (1 : Int32)), .val (.ref b2), .unset] [(.int ((129 : Int32).toInt8.toInt32)), (.int (1 : Int32)), (.ref b2)])) _
    refine st6 _ ?_
    show Steps p.tables e below (T6.setTop (mkF m 53 #[.val (.int p1), .val (.int p2), .val (.int (1 : Int32)), .val (.ref b2), .unset] [])) _
    refine XS.iconst X6.here hx rfl (hb hby d1_53) ?_
    show Steps p.tables e below (T6.setTop (mkF m 54 #[.val (.int p1), .val (.int p2), .val (.int (1 : Int32)), .val (.ref b2), .unset] [(.int (0 : Int32))])) _
    refine XS.istore X6.here hx rfl (hb hby d1_54) rfl (l' := #[.val (.int p1), .val (.int p2), .val (.int (1 : Int32)), .val (.ref b2), .val (.int (0 : Int32))]) rfl ?_
    show Steps p.tables e below (T6.setTop (mkF m 56 #[.val (.int p1), .val (.int p2), .val (.int (1 : Int32)), .val (.ref b2), .val (.int (0 : Int32))] [])) _
    refine XS.iload X6.here hx rfl (hb hby d1_56) rfl ?_
    show Steps p.tables e below (T6.setTop (mkF m 58 #[.val (.int p1), .val (.int p2), .val (.int (1 : Int32)), .val (.ref b2), .val (.int (0 : Int32))] [(.int (0 : Int32))])) _
    refine XS.iloadN X6.here hx rfl (hb hby d1_58) rfl ?_
    show Steps p.tables e below (T6.setTop (mkF m 59 #[.val (.int p1), .val (.int p2), .val (.int (1 : Int32)), .val (.ref b2), .val (.int (0 : Int32))] [(.int (1 : Int32)), (.int (0 : Int32))])) _
    refine XS.icmpNo X6.here hx rfl (hb hby d1_59) rfl (tlt ((by decide) : (0 : Int32) < (1 : Int32))).2.1 ?_
    show Steps p.tables e below (T6.setTop (mkF m 62 #[.val (.int p1), .val (.int p2), .val (.int (1 : Int32)), .val (.ref b2), .val (.int (0 : Int32))] [])) _
    refine XS.aloadN X6.here hx rfl (hb hby d1_62) rfl rfl ?_
    show Steps p.tables e below (T6.setTop (mkF m 63 #[.val (.int p1), .val (.int p2), .val (.int (1 : Int32)), .val (.ref b2), .val (.int (0 : Int32))] [(.ref b2)])) _
    refine XS.iconst X6.here hx rfl (hb hby d1_63) ?_
    show Steps p.tables e below (T6.setTop (mkF m 64 #[.val (.int p1), .val (.int p2), .val (.int (1 : Int32)), .val (.ref b2), .val (.int (0 : Int32))] [(.int (2 : Int32)), (.ref b2)])) _
    refine XS.iload X6.here hx rfl (hb hby d1_64) rfl ?_
    show Steps p.tables e below (T6.setTop (mkF m 66 #[.val (.int p1), .val (.int p2), .val (.int (1 : Int32)), .val (.ref b2), .val (.int (0 : Int32))] [(.int (0 : Int32)), (.int (2 : Int32)), (.ref b2)])) _
    refine XS.iadd X6.here hx rfl (hb hby d1_66) rfl ?_
    show Steps p.tables e below (T6.setTop (mkF m 67 #[.val (.int p1), .val (.int p2), .val (.int (1 : Int32)), .val (.ref b2), .val (.int (0 : Int32))] [(.int ((2 : Int32) + (0 : Int32))), (.ref b2)])) _
    rw [show ((2 : Int32) + (0 : Int32)) = (2 : Int32) from by decide]
    show Steps p.tables e below (T6.setTop (mkF m 67 #[.val (.int p1), .val (.int p2), .val (.int (1 : Int32)), .val (.ref b2), .val (.int (0 : Int32))] [(.int (2 : Int32)), (.ref b2)])) _
    refine XS.iloadN X6.here hx rfl (hb hby d1_67) rfl ?_
    show Steps p.tables e below (T6.setTop (mkF m 68 #[.val (.int p1), .val (.int p2), .val (.int (1 : Int32)), .val (.ref b2), .val (.int (0 : Int32))] [(.int p2), (.int (2 : Int32)), (.ref b2)])) _
    refine XS.iloadN X6.here hx rfl (hb hby d1_68) rfl ?_
    show Steps p.tables e below (T6.setTop (mkF m 69 #[.val (.int p1), .val (.int p2), .val (.int (1 : Int32)), .val (.ref b2), .val (.int (0 : Int32))] [(.int (1 : Int32)), (.int p2), (.int (2 : Int32)), (.ref b2)])) _
    refine XS.iconst X6.here hx rfl (hb hby d1_69) ?_
    show Steps p.tables e below (T6.setTop (mkF m 70 #[.val (.int p1), .val (.int p2), .val (.int (1 : Int32)), .val (.ref b2), .val (.int (0 : Int32))] [(.int (1 : Int32)), (.int (1 : Int32)), (.int p2), (.int (2 : Int32)), (.ref b2)])) _
    refine XS.isub X6.here hx rfl (hb hby d1_70) rfl ?_
    show Steps p.tables e below (T6.setTop (mkF m 71 #[.val (.int p1), .val (.int p2), .val (.int (1 : Int32)), .val (.ref b2), .val (.int (0 : Int32))] [(.int ((1 : Int32) - (1 : Int32))), (.int p2), (.int (2 : Int32)), (.ref b2)])) _
    rw [show ((1 : Int32) - (1 : Int32)) = (0 : Int32) from by decide]
    show Steps p.tables e below (T6.setTop (mkF m 71 #[.val (.int p1), .val (.int p2), .val (.int (1 : Int32)), .val (.ref b2), .val (.int (0 : Int32))] [(.int (0 : Int32)), (.int p2), (.int (2 : Int32)), (.ref b2)])) _
    refine XS.iload X6.here hx rfl (hb hby d1_71) rfl ?_
    show Steps p.tables e below (T6.setTop (mkF m 73 #[.val (.int p1), .val (.int p2), .val (.int (1 : Int32)), .val (.ref b2), .val (.int (0 : Int32))] [(.int (0 : Int32)), (.int (0 : Int32)), (.int p2), (.int (2 : Int32)), (.ref b2)])) _
    refine XS.isub X6.here hx rfl (hb hby d1_73) rfl ?_
    show Steps p.tables e below (T6.setTop (mkF m 74 #[.val (.int p1), .val (.int p2), .val (.int (1 : Int32)), .val (.ref b2), .val (.int (0 : Int32))] [(.int ((0 : Int32) - (0 : Int32))), (.int p2), (.int (2 : Int32)), (.ref b2)])) _
    rw [show ((0 : Int32) - (0 : Int32)) = (0 : Int32) from by decide]
    show Steps p.tables e below (T6.setTop (mkF m 74 #[.val (.int p1), .val (.int p2), .val (.int (1 : Int32)), .val (.ref b2), .val (.int (0 : Int32))] [(.int (0 : Int32)), (.int p2), (.int (2 : Int32)), (.ref b2)])) _
    refine XS.bipush X6.here hx rfl (hb hby d1_74) ?_
    show Steps p.tables e below (T6.setTop (mkF m 76 #[.val (.int p1), .val (.int p2), .val (.int (1 : Int32)), .val (.ref b2), .val (.int (0 : Int32))] [(.int (8 : Int32)), (.int (0 : Int32)), (.int p2), (.int (2 : Int32)), (.ref b2)])) _
    refine XS.imul X6.here hx rfl (hb hby d1_76) rfl ?_
    show Steps p.tables e below (T6.setTop (mkF m 77 #[.val (.int p1), .val (.int p2), .val (.int (1 : Int32)), .val (.ref b2), .val (.int (0 : Int32))] [(.int ((0 : Int32) * (8 : Int32))), (.int p2), (.int (2 : Int32)), (.ref b2)])) _
    rw [show ((0 : Int32) * (8 : Int32)) = (0 : Int32) from by decide]
    show Steps p.tables e below (T6.setTop (mkF m 77 #[.val (.int p1), .val (.int p2), .val (.int (1 : Int32)), .val (.ref b2), .val (.int (0 : Int32))] [(.int (0 : Int32)), (.int p2), (.int (2 : Int32)), (.ref b2)])) _
    refine XS.iushr X6.here hx rfl (hb hby d1_77) rfl ?_
    show Steps p.tables e below (T6.setTop (mkF m 78 #[.val (.int p1), .val (.int p2), .val (.int (1 : Int32)), .val (.ref b2), .val (.int (0 : Int32))] [(.int ((p2.toUInt32 >>> ((0 : Int32) &&& 31).toUInt32).toInt32)), (.int (2 : Int32)), (.ref b2)])) _
    refine XS.i2b X6.here hx rfl (hb hby d1_78) rfl ?_
    show Steps p.tables e below (T6.setTop (mkF m 79 #[.val (.int p1), .val (.int p2), .val (.int (1 : Int32)), .val (.ref b2), .val (.int (0 : Int32))] [(.int (((p2.toUInt32 >>> ((0 : Int32) &&& 31).toUInt32).toInt32).toInt8.toInt32)), (.int (2 : Int32)), (.ref b2)])) _
    refine st8 _ ?_
    show Steps p.tables e below (T8.setTop (mkF m 80 #[.val (.int p1), .val (.int p2), .val (.int (1 : Int32)), .val (.ref b2), .val (.int (0 : Int32))] [])) _
    refine XS.iinc X8.here hx rfl (hb hby d1_80) rfl (l' := #[.val (.int p1), .val (.int p2), .val (.int (1 : Int32)), .val (.ref b2), .val (.int ((0 : Int32) + (1 : Int32)))]) rfl ?_
    show Steps p.tables e below (T8.setTop (mkF m 83 #[.val (.int p1), .val (.int p2), .val (.int (1 : Int32)), .val (.ref b2), .val (.int ((0 : Int32) + (1 : Int32)))] [])) _
    rw [show ((0 : Int32) + (1 : Int32)) = (1 : Int32) from by decide]
    show Steps p.tables e below (T8.setTop (mkF m 83 #[.val (.int p1), .val (.int p2), .val (.int (1 : Int32)), .val (.ref b2), .val (.int (1 : Int32))] [])) _
    refine XS.goto X8.here hx rfl (pc0 := 83) (pc' := 56) rfl (hb hby d1_83) (by decide) (by decide) ?_
    show Steps p.tables e below (T8.setTop (mkF m 56 #[.val (.int p1), .val (.int p2), .val (.int (1 : Int32)), .val (.ref b2), .val (.int (1 : Int32))] [])) _
    refine XS.iload X8.here hx rfl (hb hby d1_56) rfl ?_
    show Steps p.tables e below (T8.setTop (mkF m 58 #[.val (.int p1), .val (.int p2), .val (.int (1 : Int32)), .val (.ref b2), .val (.int (1 : Int32))] [(.int (1 : Int32))])) _
    refine XS.iloadN X8.here hx rfl (hb hby d1_58) rfl ?_
    show Steps p.tables e below (T8.setTop (mkF m 59 #[.val (.int p1), .val (.int p2), .val (.int (1 : Int32)), .val (.ref b2), .val (.int (1 : Int32))] [(.int (1 : Int32)), (.int (1 : Int32))])) _
    refine XS.icmpYes X8.here hx rfl (pc0 := 59) (pc' := 86) rfl (hb hby d1_59) rfl (flt ((by decide) : ¬ ((1 : Int32) < (1 : Int32)))).2.1 (by decide) (by decide) ?_
    show Steps p.tables e below (T8.setTop (mkF m 86 #[.val (.int p1), .val (.int p2), .val (.int (1 : Int32)), .val (.ref b2), .val (.int (1 : Int32))] [])) _
    refine XS.aloadN X8.here hx rfl (hb hby d1_86) rfl rfl ?_
    show Steps p.tables e below (T8.setTop (mkF m 87 #[.val (.int p1), .val (.int p2), .val (.int (1 : Int32)), .val (.ref b2), .val (.int (1 : Int32))] [(.ref b2)])) _
    jvm_step X8.here [X8.here.top, hx, (hb hby d1_87), X8.method', Bd.returns, Value.isRef, FieldType.isReference]
    first | (intro acts; rw [hr _ acts rfl rfl rfl]) | rw [hr _ _ rfl rfl rfl]
    exact Steps.refl _
  · show QH Z p1 p2 (3 : Int32) [(.int (nar .byte (p1.toInt8.toInt32))), (.int (nar .byte ((129 : Int32).toInt8.toInt32))), (.int (nar .byte (((p2.toUInt32 >>> ((0 : Int32) &&& 31).toUInt32).toInt32).toInt8.toInt32)))] h0 n0 _ T8.heap _
    rw [e8]
    exact ⟨by rw [g2], N8, KC8, ⟨_, (g2 ▸ V8)⟩⟩
set_option maxRecDepth 65536 in
set_option maxHeartbeats 40000000 in
theorem rmH2 (l : Launch) (Z : State) (a0 : Array Value) (hw : ∀ d ∈ tables_1, d.before a0 Z = true) (ws : List Jvm.Cond) (p1 p2 : Int32) (h0 : Heap) (n0 : Nat) (Z0 : n0 ≤ h0.size) (gq1 : ¬ (p2 < (128 : Int32))) (hn : ((((32 : Int32) - (Jvm.Free.JP.Integer_numberOfLeadingZeros_I.val p2)) + (7 : Int32)) / (8 : Int32)) = (2 : Int32)) :
    MetFree l (⟨"com/example/rollcall/rollcall/DerElement", "header", "(II)[B"⟩ : MethodName) (head1 (Jvm.Cond.code (⟨"com/example/rollcall/rollcall/DerElement", "header", "(II)[B"⟩ : MethodName) prog_20_method_8_code 5 (some (.array .byte)) :: ws) ({ frames := 1, cells := 1, slots := 4, locals := 14 } : Room)) (fun a U => a = #[(.int p1), (.int p2)] ∧ Z.Warmed39 U.vm ∧ U.heap = h0) (fun _ _ _ _ _ => True) (fun _ U o U' => ∃ v L, o = .returned v ∧ QH Z p1 p2 (4 : Int32) [(.int (nar .byte (p1.toInt8.toInt32))), (.int (nar .byte ((130 : Int32).toInt8.toInt32))), (.int (nar .byte (((p2.toUInt32 >>> ((8 : Int32) &&& 31).toUInt32).toInt32).toInt8.toInt32))), (.int (nar .byte (((p2.toUInt32 >>> ((0 : Int32) &&& 31).toUInt32).toInt32).toInt8.toInt32)))] h0 n0 v U'.heap L ∧ FrameEnd U o U' L ({ frames := 1, cells := 1, slots := 4, locals := 14 } : Room).cells ({ frames := 1, cells := 1, slots := 4, locals := 14 } : Room).slots) := by
  refine MetFree.of_bodySF (plainFor_of_name pn_1) hisR ?_
  intro p e s m args below meth c s₁ Bd hml0 hP hK
  obtain ⟨rfl, hZ, hh⟩ := hP
  have hx := Bd.exec
  have hby := Bd.bytes
  have hml : c.maxLocals = 5 := hml0
  have hown : s.vm.findClass "com/example/rollcall/rollcall/DerElement" = some m.cls := findClass_of_methodNamed Bd.named
  have hnm := (name_of_methodNamed Bd.named Bd.method).1
  have X0 : Stand p l e ({ frames := 1, cells := 1, slots := 4, locals := 14 } : Room) s m #[(.int p1), (.int p2)] below meth c s₁ [] 0 0 := Stand.of_body Bd
  have e0 : s₁.heap = h0 := by rw [← hh, Bd.state]; rfl
  have N0 := Fr.nil n0
  have pre0 : ∀ tz, Steps p.tables e below (s₁.setTop (mkF m 0 #[.val (.int p1), .val (.int p2), .unset, .unset, .unset] [])) tz → Steps p.tables e below (s₁.setTop (entryFrame m #[(.int p1), (.int p2)] 5)) tz := fun tz kz => castTop (ef_1 m p1 p2) kz
  obtain ⟨_, _, ⟨T1, L1, k1, n1⟩, -, X1, ⟨⟨hv1, hQ1⟩, l1, y1, z1⟩, st1⟩ := Jvm.LawKit.callS X0 hx (y := (⟨"java/lang/Integer", "numberOfLeadingZeros", "(I)I"⟩ : MethodName)) hown (mvT hZ (hw _ (List.mem_of_getElem? (i := 6) rfl))) (mvT hZ (hw _ (List.mem_of_getElem? (i := 7) rfl))) (mvT hZ (hw _ (List.mem_of_getElem? (i := 8) rfl))) (mvT hZ (hw _ (List.mem_of_getElem? (i := 9) rfl))) (by decide) (Jvm.Free.JP.Integer_numberOfLeadingZeros_I.pays (W := 1) p2 (own_tab hw hZ) (by decide) (by decide)) (g := (mkF m 14 #[.val (.int p1), .val (.int p2), .unset, .unset, .unset] [(.int p2), (.int (32 : Int32))])) rfl (by rw [hml]; rfl) (argsL := [(.int p2)]) (rest := [(.int (32 : Int32))]) (lenOf pd_1_0 rfl) rfl (by show 2 * 0 + _ ≤ _; exact Nat.le_of_eq rfl) (hb hby d1_14) (fun _ _ => ⟨(by decide : 0 + 0 ≤ _), (by decide : 0 + 0 ≤ _), rfl, trivial⟩)
  dsimp only [Pt.U, Pt.locs, Pt.cells, Pt.slots] at X1 l1 y1 z1 st1 hQ1
  subst l1 y1 z1
  subst hv1
  have eh1 : T1.heap = h0 := hQ1.trans e0
  have N1 := Fr.app N0 (Fr.nil n0)
  obtain ⟨T2, h2, k2, X2, e2, E2, A2, st2⟩ := newP X1 hx hZ (hw _ (List.mem_of_getElem? (i := 5) rfl)) eh1 (g := (mkF m 28 #[.val (.int p1), .val (.int p2), .val (.int (2 : Int32)), .unset, .unset] [(.int (4 : Int32))])) rfl (hb hby d1_28) rfl (by decide) (cap := 4) (by decide) (by decide) (by decide) (by decide)
  obtain ⟨b2, g2⟩ : ∃ z, z = h0.size := ⟨_, rfl⟩
  rw [← g2] at A2 st2
  have gb2 : n0 ≤ b2 := Nat.le_trans Z0 (Nat.le_of_eq g2.symm)
  have sz2 : h0.size ≤ b2 := Nat.le_trans (Keep.refl h0 []).1 (Nat.le_of_eq g2.symm)
  have Z2 : n0 ≤ h2.size := Nat.le_trans Z0 E2.1
  have KC2 : Keep h0 h2 [] := (Keep.refl h0 []).ext E2
  have V2 : Arv Z h2 b2 k2 .byte (4 : Int32) [(.int (0 : Int32)), (.int (0 : Int32)), (.int (0 : Int32)), (.int (0 : Int32))] (.int (0 : Int32)) := (Arv.new A2 (by decide)).pad (pad_rep [] (.int (0 : Int32)) 4)
  obtain ⟨cl3, Ar3, q3, S3, M3, H3, G3⟩ := id V2
  have hin4 : ¬ ((0 : Int32) < 0 ∨ cl3.slots.size ≤ ((0 : Int32)).toNatClampNeg) := inb_of S3 ⟨by decide, by decide⟩
  obtain ⟨T4, h4, X4, e4, W4, st4⟩ := stB X2 hx hZ e2 Ar3 (j := (0 : Int32)) hin4 (g := (mkF m 35 #[.val (.int p1), .val (.int p2), .val (.int (2 : Int32)), .val (.ref b2), .unset] [(.int (p1.toInt8.toInt32)), (.int (0 : Int32)), (.ref b2)])) rfl rfl (hb hby d1_35)
  have V4 : Arv Z h4 b2 k2 .byte (4 : Int32) [(.int (nar .byte (p1.toInt8.toInt32))), (.int (0 : Int32)), (.int (0 : Int32)), (.int (0 : Int32))] (.int (0 : Int32)) := Arv.set Ar3 q3 S3 M3 H3 G3 (fits_nar_byte _) W4 0 rfl (Nat.le_of_ble_eq_true rfl)
  have Z4 : n0 ≤ h4.size := Nat.le_trans Z2 (Keep.of_wr W4).1
  have KC4 : Keep h0 h4 [] := KC2.wr W4 (Or.inr sz2)
  have N4 := Fr.snoc X4 N1 gb2
  obtain ⟨cl5, Ar5, q5, S5, M5, H5, G5⟩ := id V4
  have hin6 : ¬ ((1 : Int32) < 0 ∨ cl5.slots.size ≤ ((1 : Int32)).toNatClampNeg) := inb_of S5 ⟨by decide, by decide⟩
  obtain ⟨T6, h6, X6, e6, W6, st6⟩ := stB X4 hx hZ e4 Ar5 (j := (1 : Int32)) hin6 (g := (mkF m 52 #[.val (.int p1), .val (.int p2), .val (.int (2 : Int32)), .val (.ref b2), .unset] [(.int ((130 : Int32).toInt8.toInt32)), (.int (1 : Int32)), (.ref b2)])) rfl rfl (hb hby d1_52)
  have V6 : Arv Z h6 b2 k2 .byte (4 : Int32) [(.int (nar .byte (p1.toInt8.toInt32))), (.int (nar .byte ((130 : Int32).toInt8.toInt32))), (.int (0 : Int32)), (.int (0 : Int32))] (.int (0 : Int32)) := Arv.set Ar5 q5 S5 M5 H5 G5 (fits_nar_byte _) W6 1 rfl (Nat.le_of_ble_eq_true rfl)
  have Z6 : n0 ≤ h6.size := Nat.le_trans Z4 (Keep.of_wr W6).1
  have KC6 : Keep h0 h6 [] := KC4.wr W6 (Or.inr sz2)
  have N6 := Fr.snoc X6 N4 gb2
  obtain ⟨cl7, Ar7, q7, S7, M7, H7, G7⟩ := id V6
  have hin8 : ¬ ((2 : Int32) < 0 ∨ cl7.slots.size ≤ ((2 : Int32)).toNatClampNeg) := inb_of S7 ⟨by decide, by decide⟩
  obtain ⟨T8, h8, X8, e8, W8, st8⟩ := stB X6 hx hZ e6 Ar7 (j := (2 : Int32)) hin8 (g := (mkF m 79 #[.val (.int p1), .val (.int p2), .val (.int (2 : Int32)), .val (.ref b2), .val (.int (0 : Int32))] [(.int (((p2.toUInt32 >>> ((8 : Int32) &&& 31).toUInt32).toInt32).toInt8.toInt32)), (.int (2 : Int32)), (.ref b2)])) rfl rfl (hb hby d1_79)
  have V8 : Arv Z h8 b2 k2 .byte (4 : Int32) [(.int (nar .byte (p1.toInt8.toInt32))), (.int (nar .byte ((130 : Int32).toInt8.toInt32))), (.int (nar .byte (((p2.toUInt32 >>> ((8 : Int32) &&& 31).toUInt32).toInt32).toInt8.toInt32))), (.int (0 : Int32))] (.int (0 : Int32)) := Arv.set Ar7 q7 S7 M7 H7 G7 (fits_nar_byte _) W8 2 rfl (Nat.le_of_ble_eq_true rfl)
  have Z8 : n0 ≤ h8.size := Nat.le_trans Z6 (Keep.of_wr W8).1
  have KC8 : Keep h0 h8 [] := KC6.wr W8 (Or.inr sz2)
  have N8 := Fr.snoc X8 N6 gb2
  obtain ⟨cl9, Ar9, q9, S9, M9, H9, G9⟩ := id V8
  have hin10 : ¬ ((3 : Int32) < 0 ∨ cl9.slots.size ≤ ((3 : Int32)).toNatClampNeg) := inb_of S9 ⟨by decide, by decide⟩
  obtain ⟨T10, h10, X10, e10, W10, st10⟩ := stB X8 hx hZ e8 Ar9 (j := (3 : Int32)) hin10 (g := (mkF m 79 #[.val (.int p1), .val (.int p2), .val (.int (2 : Int32)), .val (.ref b2), .val (.int (1 : Int32))] [(.int (((p2.toUInt32 >>> ((0 : Int32) &&& 31).toUInt32).toInt32).toInt8.toInt32)), (.int (3 : Int32)), (.ref b2)])) rfl rfl (hb hby d1_79)
  have V10 : Arv Z h10 b2 k2 .byte (4 : Int32) [(.int (nar .byte (p1.toInt8.toInt32))), (.int (nar .byte ((130 : Int32).toInt8.toInt32))), (.int (nar .byte (((p2.toUInt32 >>> ((8 : Int32) &&& 31).toUInt32).toInt32).toInt8.toInt32))), (.int (nar .byte (((p2.toUInt32 >>> ((0 : Int32) &&& 31).toUInt32).toInt32).toInt8.toInt32)))] (.int (0 : Int32)) := Arv.set Ar9 q9 S9 M9 H9 G9 (fits_nar_byte _) W10 3 rfl (Nat.le_of_ble_eq_true rfl)
  have Z10 : n0 ≤ h10.size := Nat.le_trans Z8 (Keep.of_wr W10).1
  have KC10 : Keep h0 h10 [] := KC8.wr W10 (Or.inr sz2)
  have N10 := Fr.snoc X10 N8 gb2
  obtain ⟨fs, hr, hrun, hended, hW, hsame⟩ := X10.leave (v := some (.ref b2)) (fun h => by rw [Bd.returns] at h; cases h)
  refine ⟨_, _, pre0 _ ?_, hrun, hended, _, _, rfl, ?_, ⟨_, rfl⟩, hW, hsame.mono (by decide) (by decide)⟩
  · show Steps p.tables e below (s₁.setTop (mkF m 0 #[.val (.int p1), .val (.int p2), .unset, .unset, .unset] [])) _
    refine XS.iloadN X0.here hx rfl (hb hby d1_0) rfl ?_
    show Steps p.tables e below (s₁.setTop (mkF m 1 #[.val (.int p1), .val (.int p2), .unset, .unset, .unset] [(.int p2)])) _
    refine XS.sipush X0.here hx rfl (hb hby d1_1) ?_
    show Steps p.tables e below (s₁.setTop (mkF m 4 #[.val (.int p1), .val (.int p2), .unset, .unset, .unset] [(.int (128 : Int32)), (.int p2)])) _
    refine XS.icmpYes X0.here hx rfl (pc0 := 4) (pc' := 11) rfl (hb hby d1_4) rfl (flt (gq1 : ¬ (p2 < (128 : Int32)))).2.1 (by decide) (by decide) ?_
    show Steps p.tables e below (s₁.setTop (mkF m 11 #[.val (.int p1), .val (.int p2), .unset, .unset, .unset] [])) _
    refine XS.bipush X0.here hx rfl (hb hby d1_11) ?_
    show Steps p.tables e below (s₁.setTop (mkF m 13 #[.val (.int p1), .val (.int p2), .unset, .unset, .unset] [(.int (32 : Int32))])) _
    refine XS.iloadN X0.here hx rfl (hb hby d1_13) rfl ?_
    show Steps p.tables e below (s₁.setTop (mkF m 14 #[.val (.int p1), .val (.int p2), .unset, .unset, .unset] [(.int p2), (.int (32 : Int32))])) _
    refine st1 _ ?_
    show Steps p.tables e below (T1.setTop (mkF m 17 #[.val (.int p1), .val (.int p2), .unset, .unset, .unset] [(.int (Jvm.Free.JP.Integer_numberOfLeadingZeros_I.val p2)), (.int (32 : Int32))])) _
    refine XS.isub X1.here hx rfl (hb hby d1_17) rfl ?_
    show Steps p.tables e below (T1.setTop (mkF m 18 #[.val (.int p1), .val (.int p2), .unset, .unset, .unset] [(.int ((32 : Int32) - (Jvm.Free.JP.Integer_numberOfLeadingZeros_I.val p2)))])) _
    refine XS.bipush X1.here hx rfl (hb hby d1_18) ?_
    show Steps p.tables e below (T1.setTop (mkF m 20 #[.val (.int p1), .val (.int p2), .unset, .unset, .unset] [(.int (7 : Int32)), (.int ((32 : Int32) - (Jvm.Free.JP.Integer_numberOfLeadingZeros_I.val p2)))])) _
    refine XS.iadd X1.here hx rfl (hb hby d1_20) rfl ?_
    show Steps p.tables e below (T1.setTop (mkF m 21 #[.val (.int p1), .val (.int p2), .unset, .unset, .unset] [(.int (((32 : Int32) - (Jvm.Free.JP.Integer_numberOfLeadingZeros_I.val p2)) + (7 : Int32)))])) _
    refine XS.bipush X1.here hx rfl (hb hby d1_21) ?_
    show Steps p.tables e below (T1.setTop (mkF m 23 #[.val (.int p1), .val (.int p2), .unset, .unset, .unset] [(.int (8 : Int32)), (.int (((32 : Int32) - (Jvm.Free.JP.Integer_numberOfLeadingZeros_I.val p2)) + (7 : Int32)))])) _
    refine XS.idiv X1.here hx rfl (hb hby d1_23) rfl (by decide) ?_
    show Steps p.tables e below (T1.setTop (mkF m 24 #[.val (.int p1), .val (.int p2), .unset, .unset, .unset] [(.int ((((32 : Int32) - (Jvm.Free.JP.Integer_numberOfLeadingZeros_I.val p2)) + (7 : Int32)) / (8 : Int32)))])) _
    rw [hn]
    show Steps p.tables e below (T1.setTop (mkF m 24 #[.val (.int p1), .val (.int p2), .unset, .unset, .unset] [(.int (2 : Int32))])) _
    refine XS.istoreN X1.here hx rfl (hb hby d1_24) rfl (l' := #[.val (.int p1), .val (.int p2), .val (.int (2 : Int32)), .unset, .unset]) rfl ?_
    show Steps p.tables e below (T1.setTop (mkF m 25 #[.val (.int p1), .val (.int p2), .val (.int (2 : Int32)), .unset, .unset] [])) _
    refine XS.iconst X1.here hx rfl (hb hby d1_25) ?_
    show Steps p.tables e below (T1.setTop (mkF m 26 #[.val (.int p1), .val (.int p2), .val (.int (2 : Int32)), .unset, .unset] [(.int (2 : Int32))])) _
    refine XS.iloadN X1.here hx rfl (hb hby d1_26) rfl ?_
    show Steps p.tables e below (T1.setTop (mkF m 27 #[.val (.int p1), .val (.int p2), .val (.int (2 : Int32)), .unset, .unset] [(.int (2 : Int32)), (.int (2 : Int32))])) _
    refine XS.iadd X1.here hx rfl (hb hby d1_27) rfl ?_
    show Steps p.tables e below (T1.setTop (mkF m 28 #[.val (.int p1), .val (.int p2), .val (.int (2 : Int32)), .unset, .unset] [(.int ((2 : Int32) + (2 : Int32)))])) _
    rw [show ((2 : Int32) + (2 : Int32)) = (4 : Int32) from by decide]
    show Steps p.tables e below (T1.setTop (mkF m 28 #[.val (.int p1), .val (.int p2), .val (.int (2 : Int32)), .unset, .unset] [(.int (4 : Int32))])) _
    refine st2 _ ?_
    show Steps p.tables e below (T2.setTop (mkF m 30 #[.val (.int p1), .val (.int p2), .val (.int (2 : Int32)), .unset, .unset] [(.ref b2)])) _
    refine XS.astoreN X2.here hx rfl (hb hby d1_30) rfl rfl (l' := #[.val (.int p1), .val (.int p2), .val (.int (2 : Int32)), .val (.ref b2), .unset]) rfl ?_
    show Steps p.tables e below (T2.setTop (mkF m 31 #[.val (.int p1), .val (.int p2), .val (.int (2 : Int32)), .val (.ref b2), .unset] [])) _
    refine XS.aloadN X2.here hx rfl (hb hby d1_31) rfl rfl ?_
    show Steps p.tables e below (T2.setTop (mkF m 32 #[.val (.int p1), .val (.int p2), .val (.int (2 : Int32)), .val (.ref b2), .unset] [(.ref b2)])) _
    refine XS.iconst X2.here hx rfl (hb hby d1_32) ?_
    show Steps p.tables e below (T2.setTop (mkF m 33 #[.val (.int p1), .val (.int p2), .val (.int (2 : Int32)), .val (.ref b2), .unset] [(.int (0 : Int32)), (.ref b2)])) _
    refine XS.iloadN X2.here hx rfl (hb hby d1_33) rfl ?_
    show Steps p.tables e below (T2.setTop (mkF m 34 #[.val (.int p1), .val (.int p2), .val (.int (2 : Int32)), .val (.ref b2), .unset] [(.int p1), (.int (0 : Int32)), (.ref b2)])) _
    refine XS.i2b X2.here hx rfl (hb hby d1_34) rfl ?_
    show Steps p.tables e below (T2.setTop (mkF m 35 #[.val (.int p1), .val (.int p2), .val (.int (2 : Int32)), .val (.ref b2), .unset] [(.int (p1.toInt8.toInt32)), (.int (0 : Int32)), (.ref b2)])) _
    refine st4 _ ?_
    show Steps p.tables e below (T4.setTop (mkF m 36 #[.val (.int p1), .val (.int p2), .val (.int (2 : Int32)), .val (.ref b2), .unset] [])) _
    refine XS.aloadN X4.here hx rfl (hb hby d1_36) rfl rfl ?_
    show Steps p.tables e below (T4.setTop (mkF m 37 #[.val (.int p1), .val (.int p2), .val (.int (2 : Int32)), .val (.ref b2), .unset] [(.ref b2)])) _
    refine XS.iconst X4.here hx rfl (hb hby d1_37) ?_
    show Steps p.tables e below (T4.setTop (mkF m 38 #[.val (.int p1), .val (.int p2), .val (.int (2 : Int32)), .val (.ref b2), .unset] [(.int (1 : Int32)), (.ref b2)])) _
    refine XS.iloadN X4.here hx rfl (hb hby d1_38) rfl ?_
    show Steps p.tables e below (T4.setTop (mkF m 39 #[.val (.int p1), .val (.int p2), .val (.int (2 : Int32)), .val (.ref b2), .unset] [(.int (2 : Int32)), (.int (1 : Int32)), (.ref b2)])) _
    refine XS.ifYes X4.here hx rfl (pc0 := 39) (pc' := 46) rfl (hb hby d1_39) rfl ((if0 _ _).trans (feq ((by decide) : ¬ ((2 : Int32) = (0 : Int32)))).2) (by decide) (by decide) ?_
    show Steps p.tables e below (T4.setTop (mkF m 46 #[.val (.int p1), .val (.int p2), .val (.int (2 : Int32)), .val (.ref b2), .unset] [(.int (1 : Int32)), (.ref b2)])) _
    refine XS.sipush X4.here hx rfl (hb hby d1_46) ?_
    show Steps p.tables e below (T4.setTop (mkF m 49 #[.val (.int p1), .val (.int p2), .val (.int (2 : Int32)), .val (.ref b2), .unset] [(.int (128 : Int32)), (.int (1 : Int32)), (.ref b2)])) _
    refine XS.iloadN X4.here hx rfl (hb hby d1_49) rfl ?_
    show Steps p.tables e below (T4.setTop (mkF m 50 #[.val (.int p1), .val (.int p2), .val (.int (2 : Int32)), .val (.ref b2), .unset] [(.int (2 : Int32)), (.int (128 : Int32)), (.int (1 : Int32)), (.ref b2)])) _
    refine XS.ior X4.here hx rfl (hb hby d1_50) rfl ?_
    show Steps p.tables e below (T4.setTop (mkF m 51 #[.val (.int p1), .val (.int p2), .val (.int (2 : Int32)), .val (.ref b2), .unset] [(.int ((128 : Int32) ||| (2 : Int32))), (.int (1 : Int32)), (.ref b2)])) _
    rw [show ((128 : Int32) ||| (2 : Int32)) = (130 : Int32) from by decide]
    show Steps p.tables e below (T4.setTop (mkF m 51 #[.val (.int p1), .val (.int p2), .val (.int (2 : Int32)), .val (.ref b2), .unset] [(.int (130 : Int32)), (.int (1 : Int32)), (.ref b2)])) _
    refine XS.i2b X4.here hx rfl (hb hby d1_51) rfl ?_
    show Steps p.tables e below (T4.setTop (mkF m 52 #[.val (.int p1), .val (.int p2), .val (.int (2 : Int32)), .val (.ref b2), .unset] [(.int ((130 : Int32).toInt8.toInt32)), (.int (1 : Int32)), (.ref b2)])) _
    refine st6 _ ?_
    show Steps p.tables e below (T6.setTop (mkF m 53 #[.val (.int p1), .val (.int p2), .val (.int (2 : Int32)), .val (.ref b2), .unset] [])) _
    refine XS.iconst X6.here hx rfl (hb hby d1_53) ?_
    show Steps p.tables e below (T6.setTop (mkF m 54 #[.val (.int p1), .val (.int p2), .val (.int (2 : Int32)), .val (.ref b2), .unset] [(.int (0 : Int32))])) _
    refine XS.istore X6.here hx rfl (hb hby d1_54) rfl (l' := #[.val (.int p1), .val (.int p2), .val (.int (2 : Int32)), .val (.ref b2), .val (.int (0 : Int32))]) rfl ?_
    show Steps p.tables e below (T6.setTop (mkF m 56 #[.val (.int p1), .val (.int p2), .val (.int (2 : Int32)), .val (.ref b2), .val (.int (0 : Int32))] [])) _
    refine XS.iload X6.here hx rfl (hb hby d1_56) rfl ?_
    show Steps p.tables e below (T6.setTop (mkF m 58 #[.val (.int p1), .val (.int p2), .val (.int (2 : Int32)), .val (.ref b2), .val (.int (0 : Int32))] [(.int (0 : Int32))])) _
    refine XS.iloadN X6.here hx rfl (hb hby d1_58) rfl ?_
    show Steps p.tables e below (T6.setTop (mkF m 59 #[.val (.int p1), .val (.int p2), .val (.int (2 : Int32)), .val (.ref b2), .val (.int (0 : Int32))] [(.int (2 : Int32)), (.int (0 : Int32))])) _
    refine XS.icmpNo X6.here hx rfl (hb hby d1_59) rfl (tlt ((by decide) : (0 : Int32) < (2 : Int32))).2.1 ?_
    show Steps p.tables e below (T6.setTop (mkF m 62 #[.val (.int p1), .val (.int p2), .val (.int (2 : Int32)), .val (.ref b2), .val (.int (0 : Int32))] [])) _
    refine XS.aloadN X6.here hx rfl (hb hby d1_62) rfl rfl ?_
    show Steps p.tables e below (T6.setTop (mkF m 63 #[.val (.int p1), .val (.int p2), .val (.int (2 : Int32)), .val (.ref b2), .val (.int (0 : Int32))] [(.ref b2)])) _
    refine XS.iconst X6.here hx rfl (hb hby d1_63) ?_
    show Steps p.tables e below (T6.setTop (mkF m 64 #[.val (.int p1), .val (.int p2), .val (.int (2 : Int32)), .val (.ref b2), .val (.int (0 : Int32))] [(.int (2 : Int32)), (.ref b2)])) _
    refine XS.iload X6.here hx rfl (hb hby d1_64) rfl ?_
    show Steps p.tables e below (T6.setTop (mkF m 66 #[.val (.int p1), .val (.int p2), .val (.int (2 : Int32)), .val (.ref b2), .val (.int (0 : Int32))] [(.int (0 : Int32)), (.int (2 : Int32)), (.ref b2)])) _
    refine XS.iadd X6.here hx rfl (hb hby d1_66) rfl ?_
    show Steps p.tables e below (T6.setTop (mkF m 67 #[.val (.int p1), .val (.int p2), .val (.int (2 : Int32)), .val (.ref b2), .val (.int (0 : Int32))] [(.int ((2 : Int32) + (0 : Int32))), (.ref b2)])) _
    rw [show ((2 : Int32) + (0 : Int32)) = (2 : Int32) from by decide]
    show Steps p.tables e below (T6.setTop (mkF m 67 #[.val (.int p1), .val (.int p2), .val (.int (2 : Int32)), .val (.ref b2), .val (.int (0 : Int32))] [(.int (2 : Int32)), (.ref b2)])) _
    refine XS.iloadN X6.here hx rfl (hb hby d1_67) rfl ?_
    show Steps p.tables e below (T6.setTop (mkF m 68 #[.val (.int p1), .val (.int p2), .val (.int (2 : Int32)), .val (.ref b2), .val (.int (0 : Int32))] [(.int p2), (.int (2 : Int32)), (.ref b2)])) _
    refine XS.iloadN X6.here hx rfl (hb hby d1_68) rfl ?_
    show Steps p.tables e below (T6.setTop (mkF m 69 #[.val (.int p1), .val (.int p2), .val (.int (2 : Int32)), .val (.ref b2), .val (.int (0 : Int32))] [(.int (2 : Int32)), (.int p2), (.int (2 : Int32)), (.ref b2)])) _
    refine XS.iconst X6.here hx rfl (hb hby d1_69) ?_
    show Steps p.tables e below (T6.setTop (mkF m 70 #[.val (.int p1), .val (.int p2), .val (.int (2 : Int32)), .val (.ref b2), .val (.int (0 : Int32))] [(.int (1 : Int32)), (.int (2 : Int32)), (.int p2), (.int (2 : Int32)), (.ref b2)])) _
    refine XS.isub X6.here hx rfl (hb hby d1_70) rfl ?_
    show Steps p.tables e below (T6.setTop (mkF m 71 #[.val (.int p1), .val (.int p2), .val (.int (2 : Int32)), .val (.ref b2), .val (.int (0 : Int32))] [(.int ((2 : Int32) - (1 : Int32))), (.int p2), (.int (2 : Int32)), (.ref b2)])) _
    rw [show ((2 : Int32) - (1 : Int32)) = (1 : Int32) from by decide]
    show Steps p.tables e below (T6.setTop (mkF m 71 #[.val (.int p1), .val (.int p2), .val (.int (2 : Int32)), .val (.ref b2), .val (.int (0 : Int32))] [(.int (1 : Int32)), (.int p2), (.int (2 : Int32)), (.ref b2)])) _
    refine XS.iload X6.here hx rfl (hb hby d1_71) rfl ?_
    show Steps p.tables e below (T6.setTop (mkF m 73 #[.val (.int p1), .val (.int p2), .val (.int (2 : Int32)), .val (.ref b2), .val (.int (0 : Int32))] [(.int (0 : Int32)), (.int (1 : Int32)), (.int p2), (.int (2 : Int32)), (.ref b2)])) _
    refine XS.isub X6.here hx rfl (hb hby d1_73) rfl ?_
    show Steps p.tables e below (T6.setTop (mkF m 74 #[.val (.int p1), .val (.int p2), .val (.int (2 : Int32)), .val (.ref b2), .val (.int (0 : Int32))] [(.int ((1 : Int32) - (0 : Int32))), (.int p2), (.int (2 : Int32)), (.ref b2)])) _
    rw [show ((1 : Int32) - (0 : Int32)) = (1 : Int32) from by decide]
    show Steps p.tables e below (T6.setTop (mkF m 74 #[.val (.int p1), .val (.int p2), .val (.int (2 : Int32)), .val (.ref b2), .val (.int (0 : Int32))] [(.int (1 : Int32)), (.int p2), (.int (2 : Int32)), (.ref b2)])) _
    refine XS.bipush X6.here hx rfl (hb hby d1_74) ?_
    show Steps p.tables e below (T6.setTop (mkF m 76 #[.val (.int p1), .val (.int p2), .val (.int (2 : Int32)), .val (.ref b2), .val (.int (0 : Int32))] [(.int (8 : Int32)), (.int (1 : Int32)), (.int p2), (.int (2 : Int32)), (.ref b2)])) _
    refine XS.imul X6.here hx rfl (hb hby d1_76) rfl ?_
    show Steps p.tables e below (T6.setTop (mkF m 77 #[.val (.int p1), .val (.int p2), .val (.int (2 : Int32)), .val (.ref b2), .val (.int (0 : Int32))] [(.int ((1 : Int32) * (8 : Int32))), (.int p2), (.int (2 : Int32)), (.ref b2)])) _
    rw [show ((1 : Int32) * (8 : Int32)) = (8 : Int32) from by decide]
    show Steps p.tables e below (T6.setTop (mkF m 77 #[.val (.int p1), .val (.int p2), .val (.int (2 : Int32)), .val (.ref b2), .val (.int (0 : Int32))] [(.int (8 : Int32)), (.int p2), (.int (2 : Int32)), (.ref b2)])) _
    refine XS.iushr X6.here hx rfl (hb hby d1_77) rfl ?_
    show Steps p.tables e below (T6.setTop (mkF m 78 #[.val (.int p1), .val (.int p2), .val (.int (2 : Int32)), .val (.ref b2), .val (.int (0 : Int32))] [(.int ((p2.toUInt32 >>> ((8 : Int32) &&& 31).toUInt32).toInt32)), (.int (2 : Int32)), (.ref b2)])) _
    refine XS.i2b X6.here hx rfl (hb hby d1_78) rfl ?_
    show Steps p.tables e below (T6.setTop (mkF m 79 #[.val (.int p1), .val (.int p2), .val (.int (2 : Int32)), .val (.ref b2), .val (.int (0 : Int32))] [(.int (((p2.toUInt32 >>> ((8 : Int32) &&& 31).toUInt32).toInt32).toInt8.toInt32)), (.int (2 : Int32)), (.ref b2)])) _
    refine st8 _ ?_
    show Steps p.tables e below (T8.setTop (mkF m 80 #[.val (.int p1), .val (.int p2), .val (.int (2 : Int32)), .val (.ref b2), .val (.int (0 : Int32))] [])) _
    refine XS.iinc X8.here hx rfl (hb hby d1_80) rfl (l' := #[.val (.int p1), .val (.int p2), .val (.int (2 : Int32)), .val (.ref b2), .val (.int ((0 : Int32) + (1 : Int32)))]) rfl ?_
    show Steps p.tables e below (T8.setTop (mkF m 83 #[.val (.int p1), .val (.int p2), .val (.int (2 : Int32)), .val (.ref b2), .val (.int ((0 : Int32) + (1 : Int32)))] [])) _
    rw [show ((0 : Int32) + (1 : Int32)) = (1 : Int32) from by decide]
    show Steps p.tables e below (T8.setTop (mkF m 83 #[.val (.int p1), .val (.int p2), .val (.int (2 : Int32)), .val (.ref b2), .val (.int (1 : Int32))] [])) _
    refine XS.goto X8.here hx rfl (pc0 := 83) (pc' := 56) rfl (hb hby d1_83) (by decide) (by decide) ?_
    show Steps p.tables e below (T8.setTop (mkF m 56 #[.val (.int p1), .val (.int p2), .val (.int (2 : Int32)), .val (.ref b2), .val (.int (1 : Int32))] [])) _
    refine XS.iload X8.here hx rfl (hb hby d1_56) rfl ?_
    show Steps p.tables e below (T8.setTop (mkF m 58 #[.val (.int p1), .val (.int p2), .val (.int (2 : Int32)), .val (.ref b2), .val (.int (1 : Int32))] [(.int (1 : Int32))])) _
    refine XS.iloadN X8.here hx rfl (hb hby d1_58) rfl ?_
    show Steps p.tables e below (T8.setTop (mkF m 59 #[.val (.int p1), .val (.int p2), .val (.int (2 : Int32)), .val (.ref b2), .val (.int (1 : Int32))] [(.int (2 : Int32)), (.int (1 : Int32))])) _
    refine XS.icmpNo X8.here hx rfl (hb hby d1_59) rfl (tlt ((by decide) : (1 : Int32) < (2 : Int32))).2.1 ?_
    show Steps p.tables e below (T8.setTop (mkF m 62 #[.val (.int p1), .val (.int p2), .val (.int (2 : Int32)), .val (.ref b2), .val (.int (1 : Int32))] [])) _
    refine XS.aloadN X8.here hx rfl (hb hby d1_62) rfl rfl ?_
    show Steps p.tables e below (T8.setTop (mkF m 63 #[.val (.int p1), .val (.int p2), .val (.int (2 : Int32)), .val (.ref b2), .val (.int (1 : Int32))] [(.ref b2)])) _
    refine XS.iconst X8.here hx rfl (hb hby d1_63) ?_
    show Steps p.tables e below (T8.setTop (mkF m 64 #[.val (.int p1), .val (.int p2), .val (.int (2 : Int32)), .val (.ref b2), .val (.int (1 : Int32))] [(.int (2 : Int32)), (.ref b2)])) _
    refine XS.iload X8.here hx rfl (hb hby d1_64) rfl ?_
    show Steps p.tables e below (T8.setTop (mkF m 66 #[.val (.int p1), .val (.int p2), .val (.int (2 : Int32)), .val (.ref b2), .val (.int (1 : Int32))] [(.int (1 : Int32)), (.int (2 : Int32)), (.ref b2)])) _
    refine XS.iadd X8.here hx rfl (hb hby d1_66) rfl ?_
    show Steps p.tables e below (T8.setTop (mkF m 67 #[.val (.int p1), .val (.int p2), .val (.int (2 : Int32)), .val (.ref b2), .val (.int (1 : Int32))] [(.int ((2 : Int32) + (1 : Int32))), (.ref b2)])) _
    rw [show ((2 : Int32) + (1 : Int32)) = (3 : Int32) from by decide]
    show Steps p.tables e below (T8.setTop (mkF m 67 #[.val (.int p1), .val (.int p2), .val (.int (2 : Int32)), .val (.ref b2), .val (.int (1 : Int32))] [(.int (3 : Int32)), (.ref b2)])) _
    refine XS.iloadN X8.here hx rfl (hb hby d1_67) rfl ?_
    show Steps p.tables e below (T8.setTop (mkF m 68 #[.val (.int p1), .val (.int p2), .val (.int (2 : Int32)), .val (.ref b2), .val (.int (1 : Int32))] [(.int p2), (.int (3 : Int32)), (.ref b2)])) _
    refine XS.iloadN X8.here hx rfl (hb hby d1_68) rfl ?_
    show Steps p.tables e below (T8.setTop (mkF m 69 #[.val (.int p1), .val (.int p2), .val (.int (2 : Int32)), .val (.ref b2), .val (.int (1 : Int32))] [(.int (2 : Int32)), (.int p2), (.int (3 : Int32)), (.ref b2)])) _
    refine XS.iconst X8.here hx rfl (hb hby d1_69) ?_
    show Steps p.tables e below (T8.setTop (mkF m 70 #[.val (.int p1), .val (.int p2), .val (.int (2 : Int32)), .val (.ref b2), .val (.int (1 : Int32))] [(.int (1 : Int32)), (.int (2 : Int32)), (.int p2), (.int (3 : Int32)), (.ref b2)])) _
    refine XS.isub X8.here hx rfl (hb hby d1_70) rfl ?_
    show Steps p.tables e below (T8.setTop (mkF m 71 #[.val (.int p1), .val (.int p2), .val (.int (2 : Int32)), .val (.ref b2), .val (.int (1 : Int32))] [(.int ((2 : Int32) - (1 : Int32))), (.int p2), (.int (3 : Int32)), (.ref b2)])) _
    rw [show ((2 : Int32) - (1 : Int32)) = (1 : Int32) from by decide]
    show Steps p.tables e below (T8.setTop (mkF m 71 #[.val (.int p1), .val (.int p2), .val (.int (2 : Int32)), .val (.ref b2), .val (.int (1 : Int32))] [(.int (1 : Int32)), (.int p2), (.int (3 : Int32)), (.ref b2)])) _
    refine XS.iload X8.here hx rfl (hb hby d1_71) rfl ?_
    show Steps p.tables e below (T8.setTop (mkF m 73 #[.val (.int p1), .val (.int p2), .val (.int (2 : Int32)), .val (.ref b2), .val (.int (1 : Int32))] [(.int (1 : Int32)), (.int (1 : Int32)), (.int p2), (.int (3 : Int32)), (.ref b2)])) _
    refine XS.isub X8.here hx rfl (hb hby d1_73) rfl ?_
    show Steps p.tables e below (T8.setTop (mkF m 74 #[.val (.int p1), .val (.int p2), .val (.int (2 : Int32)), .val (.ref b2), .val (.int (1 : Int32))] [(.int ((1 : Int32) - (1 : Int32))), (.int p2), (.int (3 : Int32)), (.ref b2)])) _
    rw [show ((1 : Int32) - (1 : Int32)) = (0 : Int32) from by decide]
    show Steps p.tables e below (T8.setTop (mkF m 74 #[.val (.int p1), .val (.int p2), .val (.int (2 : Int32)), .val (.ref b2), .val (.int (1 : Int32))] [(.int (0 : Int32)), (.int p2), (.int (3 : Int32)), (.ref b2)])) _
    refine XS.bipush X8.here hx rfl (hb hby d1_74) ?_
    show Steps p.tables e below (T8.setTop (mkF m 76 #[.val (.int p1), .val (.int p2), .val (.int (2 : Int32)), .val (.ref b2), .val (.int (1 : Int32))] [(.int (8 : Int32)), (.int (0 : Int32)), (.int p2), (.int (3 : Int32)), (.ref b2)])) _
    refine XS.imul X8.here hx rfl (hb hby d1_76) rfl ?_
    show Steps p.tables e below (T8.setTop (mkF m 77 #[.val (.int p1), .val (.int p2), .val (.int (2 : Int32)), .val (.ref b2), .val (.int (1 : Int32))] [(.int ((0 : Int32) * (8 : Int32))), (.int p2), (.int (3 : Int32)), (.ref b2)])) _
    rw [show ((0 : Int32) * (8 : Int32)) = (0 : Int32) from by decide]
    show Steps p.tables e below (T8.setTop (mkF m 77 #[.val (.int p1), .val (.int p2), .val (.int (2 : Int32)), .val (.ref b2), .val (.int (1 : Int32))] [(.int (0 : Int32)), (.int p2), (.int (3 : Int32)), (.ref b2)])) _
    refine XS.iushr X8.here hx rfl (hb hby d1_77) rfl ?_
    show Steps p.tables e below (T8.setTop (mkF m 78 #[.val (.int p1), .val (.int p2), .val (.int (2 : Int32)), .val (.ref b2), .val (.int (1 : Int32))] [(.int ((p2.toUInt32 >>> ((0 : Int32) &&& 31).toUInt32).toInt32)), (.int (3 : Int32)), (.ref b2)])) _
    refine XS.i2b X8.here hx rfl (hb hby d1_78) rfl ?_
    show Steps p.tables e below (T8.setTop (mkF m 79 #[.val (.int p1), .val (.int p2), .val (.int (2 : Int32)), .val (.ref b2), .val (.int (1 : Int32))] [(.int (((p2.toUInt32 >>> ((0 : Int32) &&& 31).toUInt32).toInt32).toInt8.toInt32)), (.int (3 : Int32)), (.ref b2)])) _
    refine st10 _ ?_
    show Steps p.tables e below (T10.setTop (mkF m 80 #[.val (.int p1), .val (.int p2), .val (.int (2 : Int32)), .val (.ref b2), .val (.int (1 : Int32))] [])) _
    refine XS.iinc X10.here hx rfl (hb hby d1_80) rfl (l' := #[.val (.int p1), .val (.int p2), .val (.int (2 : Int32)), .val (.ref b2), .val (.int ((1 : Int32) + (1 : Int32)))]) rfl ?_
    show Steps p.tables e below (T10.setTop (mkF m 83 #[.val (.int p1), .val (.int p2), .val (.int (2 : Int32)), .val (.ref b2), .val (.int ((1 : Int32) + (1 : Int32)))] [])) _
    rw [show ((1 : Int32) + (1 : Int32)) = (2 : Int32) from by decide]
    show Steps p.tables e below (T10.setTop (mkF m 83 #[.val (.int p1), .val (.int p2), .val (.int (2 : Int32)), .val (.ref b2), .val (.int (2 : Int32))] [])) _
    refine XS.goto X10.here hx rfl (pc0 := 83) (pc' := 56) rfl (hb hby d1_83) (by decide) (by decide) ?_
    show Steps p.tables e below (T10.setTop (mkF m 56 #[.val (.int p1), .val (.int p2), .val (.int (2 : Int32)), .val (.ref b2), .val (.int (2 : Int32))] [])) _
    refine XS.iload X10.here hx rfl (hb hby d1_56) rfl ?_
    show Steps p.tables e below (T10.setTop (mkF m 58 #[.val (.int p1), .val (.int p2), .val (.int (2 : Int32)), .val (.ref b2), .val (.int (2 : Int32))] [(.int (2 : Int32))])) _
    refine XS.iloadN X10.here hx rfl (hb hby d1_58) rfl ?_
    show Steps p.tables e below (T10.setTop (mkF m 59 #[.val (.int p1), .val (.int p2), .val (.int (2 : Int32)), .val (.ref b2), .val (.int (2 : Int32))] [(.int (2 : Int32)), (.int (2 : Int32))])) _
    refine XS.icmpYes X10.here hx rfl (pc0 := 59) (pc' := 86) rfl (hb hby d1_59) rfl (flt ((by decide) : ¬ ((2 : Int32) < (2 : Int32)))).2.1 (by decide) (by decide) ?_
    show Steps p.tables e below (T10.setTop (mkF m 86 #[.val (.int p1), .val (.int p2), .val (.int (2 : Int32)), .val (.ref b2), .val (.int (2 : Int32))] [])) _
    refine XS.aloadN X10.here hx rfl (hb hby d1_86) rfl rfl ?_
    show Steps p.tables e below (T10.setTop (mkF m 87 #[.val (.int p1), .val (.int p2), .val (.int (2 : Int32)), .val (.ref b2), .val (.int (2 : Int32))] [(.ref b2)])) _
    jvm_step X10.here [X10.here.top, hx, (hb hby d1_87), X10.method', Bd.returns, Value.isRef, FieldType.isReference]
    first | (intro acts; rw [hr _ acts rfl rfl rfl]) | rw [hr _ _ rfl rfl rfl]
    exact Steps.refl _
  · show QH Z p1 p2 (4 : Int32) [(.int (nar .byte (p1.toInt8.toInt32))), (.int (nar .byte ((130 : Int32).toInt8.toInt32))), (.int (nar .byte (((p2.toUInt32 >>> ((8 : Int32) &&& 31).toUInt32).toInt32).toInt8.toInt32))), (.int (nar .byte (((p2.toUInt32 >>> ((0 : Int32) &&& 31).toUInt32).toInt32).toInt8.toInt32)))] h0 n0 _ T10.heap _
    rw [e10]
    exact ⟨by rw [g2], N10, KC10, ⟨_, (g2 ▸ V10)⟩⟩
set_option maxRecDepth 65536 in
set_option maxHeartbeats 40000000 in
theorem rmH3 (l : Launch) (Z : State) (a0 : Array Value) (hw : ∀ d ∈ tables_1, d.before a0 Z = true) (ws : List Jvm.Cond) (p1 p2 : Int32) (h0 : Heap) (n0 : Nat) (Z0 : n0 ≤ h0.size) (gq1 : ¬ (p2 < (128 : Int32))) (hn : ((((32 : Int32) - (Jvm.Free.JP.Integer_numberOfLeadingZeros_I.val p2)) + (7 : Int32)) / (8 : Int32)) = (3 : Int32)) :
    MetFree l (⟨"com/example/rollcall/rollcall/DerElement", "header", "(II)[B"⟩ : MethodName) (head1 (Jvm.Cond.code (⟨"com/example/rollcall/rollcall/DerElement", "header", "(II)[B"⟩ : MethodName) prog_20_method_8_code 5 (some (.array .byte)) :: ws) ({ frames := 1, cells := 1, slots := 5, locals := 14 } : Room)) (fun a U => a = #[(.int p1), (.int p2)] ∧ Z.Warmed39 U.vm ∧ U.heap = h0) (fun _ _ _ _ _ => True) (fun _ U o U' => ∃ v L, o = .returned v ∧ QH Z p1 p2 (5 : Int32) [(.int (nar .byte (p1.toInt8.toInt32))), (.int (nar .byte ((131 : Int32).toInt8.toInt32))), (.int (nar .byte (((p2.toUInt32 >>> ((16 : Int32) &&& 31).toUInt32).toInt32).toInt8.toInt32))), (.int (nar .byte (((p2.toUInt32 >>> ((8 : Int32) &&& 31).toUInt32).toInt32).toInt8.toInt32))), (.int (nar .byte (((p2.toUInt32 >>> ((0 : Int32) &&& 31).toUInt32).toInt32).toInt8.toInt32)))] h0 n0 v U'.heap L ∧ FrameEnd U o U' L ({ frames := 1, cells := 1, slots := 5, locals := 14 } : Room).cells ({ frames := 1, cells := 1, slots := 5, locals := 14 } : Room).slots) := by
  refine MetFree.of_bodySF (plainFor_of_name pn_1) hisR ?_
  intro p e s m args below meth c s₁ Bd hml0 hP hK
  obtain ⟨rfl, hZ, hh⟩ := hP
  have hx := Bd.exec
  have hby := Bd.bytes
  have hml : c.maxLocals = 5 := hml0
  have hown : s.vm.findClass "com/example/rollcall/rollcall/DerElement" = some m.cls := findClass_of_methodNamed Bd.named
  have hnm := (name_of_methodNamed Bd.named Bd.method).1
  have X0 : Stand p l e ({ frames := 1, cells := 1, slots := 5, locals := 14 } : Room) s m #[(.int p1), (.int p2)] below meth c s₁ [] 0 0 := Stand.of_body Bd
  have e0 : s₁.heap = h0 := by rw [← hh, Bd.state]; rfl
  have N0 := Fr.nil n0
  have pre0 : ∀ tz, Steps p.tables e below (s₁.setTop (mkF m 0 #[.val (.int p1), .val (.int p2), .unset, .unset, .unset] [])) tz → Steps p.tables e below (s₁.setTop (entryFrame m #[(.int p1), (.int p2)] 5)) tz := fun tz kz => castTop (ef_1 m p1 p2) kz
  obtain ⟨_, _, ⟨T1, L1, k1, n1⟩, -, X1, ⟨⟨hv1, hQ1⟩, l1, y1, z1⟩, st1⟩ := Jvm.LawKit.callS X0 hx (y := (⟨"java/lang/Integer", "numberOfLeadingZeros", "(I)I"⟩ : MethodName)) hown (mvT hZ (hw _ (List.mem_of_getElem? (i := 6) rfl))) (mvT hZ (hw _ (List.mem_of_getElem? (i := 7) rfl))) (mvT hZ (hw _ (List.mem_of_getElem? (i := 8) rfl))) (mvT hZ (hw _ (List.mem_of_getElem? (i := 9) rfl))) (by decide) (Jvm.Free.JP.Integer_numberOfLeadingZeros_I.pays (W := 1) p2 (own_tab hw hZ) (by decide) (by decide)) (g := (mkF m 14 #[.val (.int p1), .val (.int p2), .unset, .unset, .unset] [(.int p2), (.int (32 : Int32))])) rfl (by rw [hml]; rfl) (argsL := [(.int p2)]) (rest := [(.int (32 : Int32))]) (lenOf pd_1_0 rfl) rfl (by show 2 * 0 + _ ≤ _; exact Nat.le_of_eq rfl) (hb hby d1_14) (fun _ _ => ⟨(by decide : 0 + 0 ≤ _), (by decide : 0 + 0 ≤ _), rfl, trivial⟩)
  dsimp only [Pt.U, Pt.locs, Pt.cells, Pt.slots] at X1 l1 y1 z1 st1 hQ1
  subst l1 y1 z1
  subst hv1
  have eh1 : T1.heap = h0 := hQ1.trans e0
  have N1 := Fr.app N0 (Fr.nil n0)
  obtain ⟨T2, h2, k2, X2, e2, E2, A2, st2⟩ := newP X1 hx hZ (hw _ (List.mem_of_getElem? (i := 5) rfl)) eh1 (g := (mkF m 28 #[.val (.int p1), .val (.int p2), .val (.int (3 : Int32)), .unset, .unset] [(.int (5 : Int32))])) rfl (hb hby d1_28) rfl (by decide) (cap := 5) (by decide) (by decide) (by decide) (by decide)
  obtain ⟨b2, g2⟩ : ∃ z, z = h0.size := ⟨_, rfl⟩
  rw [← g2] at A2 st2
  have gb2 : n0 ≤ b2 := Nat.le_trans Z0 (Nat.le_of_eq g2.symm)
  have sz2 : h0.size ≤ b2 := Nat.le_trans (Keep.refl h0 []).1 (Nat.le_of_eq g2.symm)
  have Z2 : n0 ≤ h2.size := Nat.le_trans Z0 E2.1
  have KC2 : Keep h0 h2 [] := (Keep.refl h0 []).ext E2
  have V2 : Arv Z h2 b2 k2 .byte (5 : Int32) [(.int (0 : Int32)), (.int (0 : Int32)), (.int (0 : Int32)), (.int (0 : Int32)), (.int (0 : Int32))] (.int (0 : Int32)) := (Arv.new A2 (by decide)).pad (pad_rep [] (.int (0 : Int32)) 5)
  obtain ⟨cl3, Ar3, q3, S3, M3, H3, G3⟩ := id V2
  have hin4 : ¬ ((0 : Int32) < 0 ∨ cl3.slots.size ≤ ((0 : Int32)).toNatClampNeg) := inb_of S3 ⟨by decide, by decide⟩
  obtain ⟨T4, h4, X4, e4, W4, st4⟩ := stB X2 hx hZ e2 Ar3 (j := (0 : Int32)) hin4 (g := (mkF m 35 #[.val (.int p1), .val (.int p2), .val (.int (3 : Int32)), .val (.ref b2), .unset] [(.int (p1.toInt8.toInt32)), (.int (0 : Int32)), (.ref b2)])) rfl rfl (hb hby d1_35)
  have V4 : Arv Z h4 b2 k2 .byte (5 : Int32) [(.int (nar .byte (p1.toInt8.toInt32))), (.int (0 : Int32)), (.int (0 : Int32)), (.int (0 : Int32)), (.int (0 : Int32))] (.int (0 : Int32)) := Arv.set Ar3 q3 S3 M3 H3 G3 (fits_nar_byte _) W4 0 rfl (Nat.le_of_ble_eq_true rfl)
  have Z4 : n0 ≤ h4.size := Nat.le_trans Z2 (Keep.of_wr W4).1
  have KC4 : Keep h0 h4 [] := KC2.wr W4 (Or.inr sz2)
  have N4 := Fr.snoc X4 N1 gb2
  obtain ⟨cl5, Ar5, q5, S5, M5, H5, G5⟩ := id V4
  have hin6 : ¬ ((1 : Int32) < 0 ∨ cl5.slots.size ≤ ((1 : Int32)).toNatClampNeg) := inb_of S5 ⟨by decide, by decide⟩
  obtain ⟨T6, h6, X6, e6, W6, st6⟩ := stB X4 hx hZ e4 Ar5 (j := (1 : Int32)) hin6 (g := (mkF m 52 #[.val (.int p1), .val (.int p2), .val (.int (3 : Int32)), .val (.ref b2), .unset] [(.int ((131 : Int32).toInt8.toInt32)), (.int (1 : Int32)), (.ref b2)])) rfl rfl (hb hby d1_52)
  have V6 : Arv Z h6 b2 k2 .byte (5 : Int32) [(.int (nar .byte (p1.toInt8.toInt32))), (.int (nar .byte ((131 : Int32).toInt8.toInt32))), (.int (0 : Int32)), (.int (0 : Int32)), (.int (0 : Int32))] (.int (0 : Int32)) := Arv.set Ar5 q5 S5 M5 H5 G5 (fits_nar_byte _) W6 1 rfl (Nat.le_of_ble_eq_true rfl)
  have Z6 : n0 ≤ h6.size := Nat.le_trans Z4 (Keep.of_wr W6).1
  have KC6 : Keep h0 h6 [] := KC4.wr W6 (Or.inr sz2)
  have N6 := Fr.snoc X6 N4 gb2
  obtain ⟨cl7, Ar7, q7, S7, M7, H7, G7⟩ := id V6
  have hin8 : ¬ ((2 : Int32) < 0 ∨ cl7.slots.size ≤ ((2 : Int32)).toNatClampNeg) := inb_of S7 ⟨by decide, by decide⟩
  obtain ⟨T8, h8, X8, e8, W8, st8⟩ := stB X6 hx hZ e6 Ar7 (j := (2 : Int32)) hin8 (g := (mkF m 79 #[.val (.int p1), .val (.int p2), .val (.int (3 : Int32)), .val (.ref b2), .val (.int (0 : Int32))] [(.int (((p2.toUInt32 >>> ((16 : Int32) &&& 31).toUInt32).toInt32).toInt8.toInt32)), (.int (2 : Int32)), (.ref b2)])) rfl rfl (hb hby d1_79)
  have V8 : Arv Z h8 b2 k2 .byte (5 : Int32) [(.int (nar .byte (p1.toInt8.toInt32))), (.int (nar .byte ((131 : Int32).toInt8.toInt32))), (.int (nar .byte (((p2.toUInt32 >>> ((16 : Int32) &&& 31).toUInt32).toInt32).toInt8.toInt32))), (.int (0 : Int32)), (.int (0 : Int32))] (.int (0 : Int32)) := Arv.set Ar7 q7 S7 M7 H7 G7 (fits_nar_byte _) W8 2 rfl (Nat.le_of_ble_eq_true rfl)
  have Z8 : n0 ≤ h8.size := Nat.le_trans Z6 (Keep.of_wr W8).1
  have KC8 : Keep h0 h8 [] := KC6.wr W8 (Or.inr sz2)
  have N8 := Fr.snoc X8 N6 gb2
  obtain ⟨cl9, Ar9, q9, S9, M9, H9, G9⟩ := id V8
  have hin10 : ¬ ((3 : Int32) < 0 ∨ cl9.slots.size ≤ ((3 : Int32)).toNatClampNeg) := inb_of S9 ⟨by decide, by decide⟩
  obtain ⟨T10, h10, X10, e10, W10, st10⟩ := stB X8 hx hZ e8 Ar9 (j := (3 : Int32)) hin10 (g := (mkF m 79 #[.val (.int p1), .val (.int p2), .val (.int (3 : Int32)), .val (.ref b2), .val (.int (1 : Int32))] [(.int (((p2.toUInt32 >>> ((8 : Int32) &&& 31).toUInt32).toInt32).toInt8.toInt32)), (.int (3 : Int32)), (.ref b2)])) rfl rfl (hb hby d1_79)
  have V10 : Arv Z h10 b2 k2 .byte (5 : Int32) [(.int (nar .byte (p1.toInt8.toInt32))), (.int (nar .byte ((131 : Int32).toInt8.toInt32))), (.int (nar .byte (((p2.toUInt32 >>> ((16 : Int32) &&& 31).toUInt32).toInt32).toInt8.toInt32))), (.int (nar .byte (((p2.toUInt32 >>> ((8 : Int32) &&& 31).toUInt32).toInt32).toInt8.toInt32))), (.int (0 : Int32))] (.int (0 : Int32)) := Arv.set Ar9 q9 S9 M9 H9 G9 (fits_nar_byte _) W10 3 rfl (Nat.le_of_ble_eq_true rfl)
  have Z10 : n0 ≤ h10.size := Nat.le_trans Z8 (Keep.of_wr W10).1
  have KC10 : Keep h0 h10 [] := KC8.wr W10 (Or.inr sz2)
  have N10 := Fr.snoc X10 N8 gb2
  obtain ⟨cl11, Ar11, q11, S11, M11, H11, G11⟩ := id V10
  have hin12 : ¬ ((4 : Int32) < 0 ∨ cl11.slots.size ≤ ((4 : Int32)).toNatClampNeg) := inb_of S11 ⟨by decide, by decide⟩
  obtain ⟨T12, h12, X12, e12, W12, st12⟩ := stB X10 hx hZ e10 Ar11 (j := (4 : Int32)) hin12 (g := (mkF m 79 #[.val (.int p1), .val (.int p2), .val (.int (3 : Int32)), .val (.ref b2), .val (.int (2 : Int32))] [(.int (((p2.toUInt32 >>> ((0 : Int32) &&& 31).toUInt32).toInt32).toInt8.toInt32)), (.int (4 : Int32)), (.ref b2)])) rfl rfl (hb hby d1_79)
  have V12 : Arv Z h12 b2 k2 .byte (5 : Int32) [(.int (nar .byte (p1.toInt8.toInt32))), (.int (nar .byte ((131 : Int32).toInt8.toInt32))), (.int (nar .byte (((p2.toUInt32 >>> ((16 : Int32) &&& 31).toUInt32).toInt32).toInt8.toInt32))), (.int (nar .byte (((p2.toUInt32 >>> ((8 : Int32) &&& 31).toUInt32).toInt32).toInt8.toInt32))), (.int (nar .byte (((p2.toUInt32 >>> ((0 : Int32) &&& 31).toUInt32).toInt32).toInt8.toInt32)))] (.int (0 : Int32)) := Arv.set Ar11 q11 S11 M11 H11 G11 (fits_nar_byte _) W12 4 rfl (Nat.le_of_ble_eq_true rfl)
  have Z12 : n0 ≤ h12.size := Nat.le_trans Z10 (Keep.of_wr W12).1
  have KC12 : Keep h0 h12 [] := KC10.wr W12 (Or.inr sz2)
  have N12 := Fr.snoc X12 N10 gb2
  obtain ⟨fs, hr, hrun, hended, hW, hsame⟩ := X12.leave (v := some (.ref b2)) (fun h => by rw [Bd.returns] at h; cases h)
  refine ⟨_, _, pre0 _ ?_, hrun, hended, _, _, rfl, ?_, ⟨_, rfl⟩, hW, hsame.mono (by decide) (by decide)⟩
  · show Steps p.tables e below (s₁.setTop (mkF m 0 #[.val (.int p1), .val (.int p2), .unset, .unset, .unset] [])) _
    refine XS.iloadN X0.here hx rfl (hb hby d1_0) rfl ?_
    show Steps p.tables e below (s₁.setTop (mkF m 1 #[.val (.int p1), .val (.int p2), .unset, .unset, .unset] [(.int p2)])) _
    refine XS.sipush X0.here hx rfl (hb hby d1_1) ?_
    show Steps p.tables e below (s₁.setTop (mkF m 4 #[.val (.int p1), .val (.int p2), .unset, .unset, .unset] [(.int (128 : Int32)), (.int p2)])) _
    refine XS.icmpYes X0.here hx rfl (pc0 := 4) (pc' := 11) rfl (hb hby d1_4) rfl (flt (gq1 : ¬ (p2 < (128 : Int32)))).2.1 (by decide) (by decide) ?_
    show Steps p.tables e below (s₁.setTop (mkF m 11 #[.val (.int p1), .val (.int p2), .unset, .unset, .unset] [])) _
    refine XS.bipush X0.here hx rfl (hb hby d1_11) ?_
    show Steps p.tables e below (s₁.setTop (mkF m 13 #[.val (.int p1), .val (.int p2), .unset, .unset, .unset] [(.int (32 : Int32))])) _
    refine XS.iloadN X0.here hx rfl (hb hby d1_13) rfl ?_
    show Steps p.tables e below (s₁.setTop (mkF m 14 #[.val (.int p1), .val (.int p2), .unset, .unset, .unset] [(.int p2), (.int (32 : Int32))])) _
    refine st1 _ ?_
    show Steps p.tables e below (T1.setTop (mkF m 17 #[.val (.int p1), .val (.int p2), .unset, .unset, .unset] [(.int (Jvm.Free.JP.Integer_numberOfLeadingZeros_I.val p2)), (.int (32 : Int32))])) _
    refine XS.isub X1.here hx rfl (hb hby d1_17) rfl ?_
    show Steps p.tables e below (T1.setTop (mkF m 18 #[.val (.int p1), .val (.int p2), .unset, .unset, .unset] [(.int ((32 : Int32) - (Jvm.Free.JP.Integer_numberOfLeadingZeros_I.val p2)))])) _
    refine XS.bipush X1.here hx rfl (hb hby d1_18) ?_
    show Steps p.tables e below (T1.setTop (mkF m 20 #[.val (.int p1), .val (.int p2), .unset, .unset, .unset] [(.int (7 : Int32)), (.int ((32 : Int32) - (Jvm.Free.JP.Integer_numberOfLeadingZeros_I.val p2)))])) _
    refine XS.iadd X1.here hx rfl (hb hby d1_20) rfl ?_
    show Steps p.tables e below (T1.setTop (mkF m 21 #[.val (.int p1), .val (.int p2), .unset, .unset, .unset] [(.int (((32 : Int32) - (Jvm.Free.JP.Integer_numberOfLeadingZeros_I.val p2)) + (7 : Int32)))])) _
    refine XS.bipush X1.here hx rfl (hb hby d1_21) ?_
    show Steps p.tables e below (T1.setTop (mkF m 23 #[.val (.int p1), .val (.int p2), .unset, .unset, .unset] [(.int (8 : Int32)), (.int (((32 : Int32) - (Jvm.Free.JP.Integer_numberOfLeadingZeros_I.val p2)) + (7 : Int32)))])) _
    refine XS.idiv X1.here hx rfl (hb hby d1_23) rfl (by decide) ?_
    show Steps p.tables e below (T1.setTop (mkF m 24 #[.val (.int p1), .val (.int p2), .unset, .unset, .unset] [(.int ((((32 : Int32) - (Jvm.Free.JP.Integer_numberOfLeadingZeros_I.val p2)) + (7 : Int32)) / (8 : Int32)))])) _
    rw [hn]
    show Steps p.tables e below (T1.setTop (mkF m 24 #[.val (.int p1), .val (.int p2), .unset, .unset, .unset] [(.int (3 : Int32))])) _
    refine XS.istoreN X1.here hx rfl (hb hby d1_24) rfl (l' := #[.val (.int p1), .val (.int p2), .val (.int (3 : Int32)), .unset, .unset]) rfl ?_
    show Steps p.tables e below (T1.setTop (mkF m 25 #[.val (.int p1), .val (.int p2), .val (.int (3 : Int32)), .unset, .unset] [])) _
    refine XS.iconst X1.here hx rfl (hb hby d1_25) ?_
    show Steps p.tables e below (T1.setTop (mkF m 26 #[.val (.int p1), .val (.int p2), .val (.int (3 : Int32)), .unset, .unset] [(.int (2 : Int32))])) _
    refine XS.iloadN X1.here hx rfl (hb hby d1_26) rfl ?_
    show Steps p.tables e below (T1.setTop (mkF m 27 #[.val (.int p1), .val (.int p2), .val (.int (3 : Int32)), .unset, .unset] [(.int (3 : Int32)), (.int (2 : Int32))])) _
    refine XS.iadd X1.here hx rfl (hb hby d1_27) rfl ?_
    show Steps p.tables e below (T1.setTop (mkF m 28 #[.val (.int p1), .val (.int p2), .val (.int (3 : Int32)), .unset, .unset] [(.int ((2 : Int32) + (3 : Int32)))])) _
    rw [show ((2 : Int32) + (3 : Int32)) = (5 : Int32) from by decide]
    show Steps p.tables e below (T1.setTop (mkF m 28 #[.val (.int p1), .val (.int p2), .val (.int (3 : Int32)), .unset, .unset] [(.int (5 : Int32))])) _
    refine st2 _ ?_
    show Steps p.tables e below (T2.setTop (mkF m 30 #[.val (.int p1), .val (.int p2), .val (.int (3 : Int32)), .unset, .unset] [(.ref b2)])) _
    refine XS.astoreN X2.here hx rfl (hb hby d1_30) rfl rfl (l' := #[.val (.int p1), .val (.int p2), .val (.int (3 : Int32)), .val (.ref b2), .unset]) rfl ?_
    show Steps p.tables e below (T2.setTop (mkF m 31 #[.val (.int p1), .val (.int p2), .val (.int (3 : Int32)), .val (.ref b2), .unset] [])) _
    refine XS.aloadN X2.here hx rfl (hb hby d1_31) rfl rfl ?_
    show Steps p.tables e below (T2.setTop (mkF m 32 #[.val (.int p1), .val (.int p2), .val (.int (3 : Int32)), .val (.ref b2), .unset] [(.ref b2)])) _
    refine XS.iconst X2.here hx rfl (hb hby d1_32) ?_
    show Steps p.tables e below (T2.setTop (mkF m 33 #[.val (.int p1), .val (.int p2), .val (.int (3 : Int32)), .val (.ref b2), .unset] [(.int (0 : Int32)), (.ref b2)])) _
    refine XS.iloadN X2.here hx rfl (hb hby d1_33) rfl ?_
    show Steps p.tables e below (T2.setTop (mkF m 34 #[.val (.int p1), .val (.int p2), .val (.int (3 : Int32)), .val (.ref b2), .unset] [(.int p1), (.int (0 : Int32)), (.ref b2)])) _
    refine XS.i2b X2.here hx rfl (hb hby d1_34) rfl ?_
    show Steps p.tables e below (T2.setTop (mkF m 35 #[.val (.int p1), .val (.int p2), .val (.int (3 : Int32)), .val (.ref b2), .unset] [(.int (p1.toInt8.toInt32)), (.int (0 : Int32)), (.ref b2)])) _
    refine st4 _ ?_
    show Steps p.tables e below (T4.setTop (mkF m 36 #[.val (.int p1), .val (.int p2), .val (.int (3 : Int32)), .val (.ref b2), .unset] [])) _
    refine XS.aloadN X4.here hx rfl (hb hby d1_36) rfl rfl ?_
    show Steps p.tables e below (T4.setTop (mkF m 37 #[.val (.int p1), .val (.int p2), .val (.int (3 : Int32)), .val (.ref b2), .unset] [(.ref b2)])) _
    refine XS.iconst X4.here hx rfl (hb hby d1_37) ?_
    show Steps p.tables e below (T4.setTop (mkF m 38 #[.val (.int p1), .val (.int p2), .val (.int (3 : Int32)), .val (.ref b2), .unset] [(.int (1 : Int32)), (.ref b2)])) _
    refine XS.iloadN X4.here hx rfl (hb hby d1_38) rfl ?_
    show Steps p.tables e below (T4.setTop (mkF m 39 #[.val (.int p1), .val (.int p2), .val (.int (3 : Int32)), .val (.ref b2), .unset] [(.int (3 : Int32)), (.int (1 : Int32)), (.ref b2)])) _
    refine XS.ifYes X4.here hx rfl (pc0 := 39) (pc' := 46) rfl (hb hby d1_39) rfl ((if0 _ _).trans (feq ((by decide) : ¬ ((3 : Int32) = (0 : Int32)))).2) (by decide) (by decide) ?_
    show Steps p.tables e below (T4.setTop (mkF m 46 #[.val (.int p1), .val (.int p2), .val (.int (3 : Int32)), .val (.ref b2), .unset] [(.int (1 : Int32)), (.ref b2)])) _
    refine XS.sipush X4.here hx rfl (hb hby d1_46) ?_
    show Steps p.tables e below (T4.setTop (mkF m 49 #[.val (.int p1), .val (.int p2), .val (.int (3 : Int32)), .val (.ref b2), .unset] [(.int (128 : Int32)), (.int (1 : Int32)), (.ref b2)])) _
    refine XS.iloadN X4.here hx rfl (hb hby d1_49) rfl ?_
    show Steps p.tables e below (T4.setTop (mkF m 50 #[.val (.int p1), .val (.int p2), .val (.int (3 : Int32)), .val (.ref b2), .unset] [(.int (3 : Int32)), (.int (128 : Int32)), (.int (1 : Int32)), (.ref b2)])) _
    refine XS.ior X4.here hx rfl (hb hby d1_50) rfl ?_
    show Steps p.tables e below (T4.setTop (mkF m 51 #[.val (.int p1), .val (.int p2), .val (.int (3 : Int32)), .val (.ref b2), .unset] [(.int ((128 : Int32) ||| (3 : Int32))), (.int (1 : Int32)), (.ref b2)])) _
    rw [show ((128 : Int32) ||| (3 : Int32)) = (131 : Int32) from by decide]
    show Steps p.tables e below (T4.setTop (mkF m 51 #[.val (.int p1), .val (.int p2), .val (.int (3 : Int32)), .val (.ref b2), .unset] [(.int (131 : Int32)), (.int (1 : Int32)), (.ref b2)])) _
    refine XS.i2b X4.here hx rfl (hb hby d1_51) rfl ?_
    show Steps p.tables e below (T4.setTop (mkF m 52 #[.val (.int p1), .val (.int p2), .val (.int (3 : Int32)), .val (.ref b2), .unset] [(.int ((131 : Int32).toInt8.toInt32)), (.int (1 : Int32)), (.ref b2)])) _
    refine st6 _ ?_
    show Steps p.tables e below (T6.setTop (mkF m 53 #[.val (.int p1), .val (.int p2), .val (.int (3 : Int32)), .val (.ref b2), .unset] [])) _
    refine XS.iconst X6.here hx rfl (hb hby d1_53) ?_
    show Steps p.tables e below (T6.setTop (mkF m 54 #[.val (.int p1), .val (.int p2), .val (.int (3 : Int32)), .val (.ref b2), .unset] [(.int (0 : Int32))])) _
    refine XS.istore X6.here hx rfl (hb hby d1_54) rfl (l' := #[.val (.int p1), .val (.int p2), .val (.int (3 : Int32)), .val (.ref b2), .val (.int (0 : Int32))]) rfl ?_
    show Steps p.tables e below (T6.setTop (mkF m 56 #[.val (.int p1), .val (.int p2), .val (.int (3 : Int32)), .val (.ref b2), .val (.int (0 : Int32))] [])) _
    refine XS.iload X6.here hx rfl (hb hby d1_56) rfl ?_
    show Steps p.tables e below (T6.setTop (mkF m 58 #[.val (.int p1), .val (.int p2), .val (.int (3 : Int32)), .val (.ref b2), .val (.int (0 : Int32))] [(.int (0 : Int32))])) _
    refine XS.iloadN X6.here hx rfl (hb hby d1_58) rfl ?_
    show Steps p.tables e below (T6.setTop (mkF m 59 #[.val (.int p1), .val (.int p2), .val (.int (3 : Int32)), .val (.ref b2), .val (.int (0 : Int32))] [(.int (3 : Int32)), (.int (0 : Int32))])) _
    refine XS.icmpNo X6.here hx rfl (hb hby d1_59) rfl (tlt ((by decide) : (0 : Int32) < (3 : Int32))).2.1 ?_
    show Steps p.tables e below (T6.setTop (mkF m 62 #[.val (.int p1), .val (.int p2), .val (.int (3 : Int32)), .val (.ref b2), .val (.int (0 : Int32))] [])) _
    refine XS.aloadN X6.here hx rfl (hb hby d1_62) rfl rfl ?_
    show Steps p.tables e below (T6.setTop (mkF m 63 #[.val (.int p1), .val (.int p2), .val (.int (3 : Int32)), .val (.ref b2), .val (.int (0 : Int32))] [(.ref b2)])) _
    refine XS.iconst X6.here hx rfl (hb hby d1_63) ?_
    show Steps p.tables e below (T6.setTop (mkF m 64 #[.val (.int p1), .val (.int p2), .val (.int (3 : Int32)), .val (.ref b2), .val (.int (0 : Int32))] [(.int (2 : Int32)), (.ref b2)])) _
    refine XS.iload X6.here hx rfl (hb hby d1_64) rfl ?_
    show Steps p.tables e below (T6.setTop (mkF m 66 #[.val (.int p1), .val (.int p2), .val (.int (3 : Int32)), .val (.ref b2), .val (.int (0 : Int32))] [(.int (0 : Int32)), (.int (2 : Int32)), (.ref b2)])) _
    refine XS.iadd X6.here hx rfl (hb hby d1_66) rfl ?_
    show Steps p.tables e below (T6.setTop (mkF m 67 #[.val (.int p1), .val (.int p2), .val (.int (3 : Int32)), .val (.ref b2), .val (.int (0 : Int32))] [(.int ((2 : Int32) + (0 : Int32))), (.ref b2)])) _
    rw [show ((2 : Int32) + (0 : Int32)) = (2 : Int32) from by decide]
    show Steps p.tables e below (T6.setTop (mkF m 67 #[.val (.int p1), .val (.int p2), .val (.int (3 : Int32)), .val (.ref b2), .val (.int (0 : Int32))] [(.int (2 : Int32)), (.ref b2)])) _
    refine XS.iloadN X6.here hx rfl (hb hby d1_67) rfl ?_
    show Steps p.tables e below (T6.setTop (mkF m 68 #[.val (.int p1), .val (.int p2), .val (.int (3 : Int32)), .val (.ref b2), .val (.int (0 : Int32))] [(.int p2), (.int (2 : Int32)), (.ref b2)])) _
    refine XS.iloadN X6.here hx rfl (hb hby d1_68) rfl ?_
    show Steps p.tables e below (T6.setTop (mkF m 69 #[.val (.int p1), .val (.int p2), .val (.int (3 : Int32)), .val (.ref b2), .val (.int (0 : Int32))] [(.int (3 : Int32)), (.int p2), (.int (2 : Int32)), (.ref b2)])) _
    refine XS.iconst X6.here hx rfl (hb hby d1_69) ?_
    show Steps p.tables e below (T6.setTop (mkF m 70 #[.val (.int p1), .val (.int p2), .val (.int (3 : Int32)), .val (.ref b2), .val (.int (0 : Int32))] [(.int (1 : Int32)), (.int (3 : Int32)), (.int p2), (.int (2 : Int32)), (.ref b2)])) _
    refine XS.isub X6.here hx rfl (hb hby d1_70) rfl ?_
    show Steps p.tables e below (T6.setTop (mkF m 71 #[.val (.int p1), .val (.int p2), .val (.int (3 : Int32)), .val (.ref b2), .val (.int (0 : Int32))] [(.int ((3 : Int32) - (1 : Int32))), (.int p2), (.int (2 : Int32)), (.ref b2)])) _
    rw [show ((3 : Int32) - (1 : Int32)) = (2 : Int32) from by decide]
    show Steps p.tables e below (T6.setTop (mkF m 71 #[.val (.int p1), .val (.int p2), .val (.int (3 : Int32)), .val (.ref b2), .val (.int (0 : Int32))] [(.int (2 : Int32)), (.int p2), (.int (2 : Int32)), (.ref b2)])) _
    refine XS.iload X6.here hx rfl (hb hby d1_71) rfl ?_
    show Steps p.tables e below (T6.setTop (mkF m 73 #[.val (.int p1), .val (.int p2), .val (.int (3 : Int32)), .val (.ref b2), .val (.int (0 : Int32))] [(.int (0 : Int32)), (.int (2 : Int32)), (.int p2), (.int (2 : Int32)), (.ref b2)])) _
    refine XS.isub X6.here hx rfl (hb hby d1_73) rfl ?_
    show Steps p.tables e below (T6.setTop (mkF m 74 #[.val (.int p1), .val (.int p2), .val (.int (3 : Int32)), .val (.ref b2), .val (.int (0 : Int32))] [(.int ((2 : Int32) - (0 : Int32))), (.int p2), (.int (2 : Int32)), (.ref b2)])) _
    rw [show ((2 : Int32) - (0 : Int32)) = (2 : Int32) from by decide]
    show Steps p.tables e below (T6.setTop (mkF m 74 #[.val (.int p1), .val (.int p2), .val (.int (3 : Int32)), .val (.ref b2), .val (.int (0 : Int32))] [(.int (2 : Int32)), (.int p2), (.int (2 : Int32)), (.ref b2)])) _
    refine XS.bipush X6.here hx rfl (hb hby d1_74) ?_
    show Steps p.tables e below (T6.setTop (mkF m 76 #[.val (.int p1), .val (.int p2), .val (.int (3 : Int32)), .val (.ref b2), .val (.int (0 : Int32))] [(.int (8 : Int32)), (.int (2 : Int32)), (.int p2), (.int (2 : Int32)), (.ref b2)])) _
    refine XS.imul X6.here hx rfl (hb hby d1_76) rfl ?_
    show Steps p.tables e below (T6.setTop (mkF m 77 #[.val (.int p1), .val (.int p2), .val (.int (3 : Int32)), .val (.ref b2), .val (.int (0 : Int32))] [(.int ((2 : Int32) * (8 : Int32))), (.int p2), (.int (2 : Int32)), (.ref b2)])) _
    rw [show ((2 : Int32) * (8 : Int32)) = (16 : Int32) from by decide]
    show Steps p.tables e below (T6.setTop (mkF m 77 #[.val (.int p1), .val (.int p2), .val (.int (3 : Int32)), .val (.ref b2), .val (.int (0 : Int32))] [(.int (16 : Int32)), (.int p2), (.int (2 : Int32)), (.ref b2)])) _
    refine XS.iushr X6.here hx rfl (hb hby d1_77) rfl ?_
    show Steps p.tables e below (T6.setTop (mkF m 78 #[.val (.int p1), .val (.int p2), .val (.int (3 : Int32)), .val (.ref b2), .val (.int (0 : Int32))] [(.int ((p2.toUInt32 >>> ((16 : Int32) &&& 31).toUInt32).toInt32)), (.int (2 : Int32)), (.ref b2)])) _
    refine XS.i2b X6.here hx rfl (hb hby d1_78) rfl ?_
    show Steps p.tables e below (T6.setTop (mkF m 79 #[.val (.int p1), .val (.int p2), .val (.int (3 : Int32)), .val (.ref b2), .val (.int (0 : Int32))] [(.int (((p2.toUInt32 >>> ((16 : Int32) &&& 31).toUInt32).toInt32).toInt8.toInt32)), (.int (2 : Int32)), (.ref b2)])) _
    refine st8 _ ?_
    show Steps p.tables e below (T8.setTop (mkF m 80 #[.val (.int p1), .val (.int p2), .val (.int (3 : Int32)), .val (.ref b2), .val (.int (0 : Int32))] [])) _
    refine XS.iinc X8.here hx rfl (hb hby d1_80) rfl (l' := #[.val (.int p1), .val (.int p2), .val (.int (3 : Int32)), .val (.ref b2), .val (.int ((0 : Int32) + (1 : Int32)))]) rfl ?_
    show Steps p.tables e below (T8.setTop (mkF m 83 #[.val (.int p1), .val (.int p2), .val (.int (3 : Int32)), .val (.ref b2), .val (.int ((0 : Int32) + (1 : Int32)))] [])) _
    rw [show ((0 : Int32) + (1 : Int32)) = (1 : Int32) from by decide]
    show Steps p.tables e below (T8.setTop (mkF m 83 #[.val (.int p1), .val (.int p2), .val (.int (3 : Int32)), .val (.ref b2), .val (.int (1 : Int32))] [])) _
    refine XS.goto X8.here hx rfl (pc0 := 83) (pc' := 56) rfl (hb hby d1_83) (by decide) (by decide) ?_
    show Steps p.tables e below (T8.setTop (mkF m 56 #[.val (.int p1), .val (.int p2), .val (.int (3 : Int32)), .val (.ref b2), .val (.int (1 : Int32))] [])) _
    refine XS.iload X8.here hx rfl (hb hby d1_56) rfl ?_
    show Steps p.tables e below (T8.setTop (mkF m 58 #[.val (.int p1), .val (.int p2), .val (.int (3 : Int32)), .val (.ref b2), .val (.int (1 : Int32))] [(.int (1 : Int32))])) _
    refine XS.iloadN X8.here hx rfl (hb hby d1_58) rfl ?_
    show Steps p.tables e below (T8.setTop (mkF m 59 #[.val (.int p1), .val (.int p2), .val (.int (3 : Int32)), .val (.ref b2), .val (.int (1 : Int32))] [(.int (3 : Int32)), (.int (1 : Int32))])) _
    refine XS.icmpNo X8.here hx rfl (hb hby d1_59) rfl (tlt ((by decide) : (1 : Int32) < (3 : Int32))).2.1 ?_
    show Steps p.tables e below (T8.setTop (mkF m 62 #[.val (.int p1), .val (.int p2), .val (.int (3 : Int32)), .val (.ref b2), .val (.int (1 : Int32))] [])) _
    refine XS.aloadN X8.here hx rfl (hb hby d1_62) rfl rfl ?_
    show Steps p.tables e below (T8.setTop (mkF m 63 #[.val (.int p1), .val (.int p2), .val (.int (3 : Int32)), .val (.ref b2), .val (.int (1 : Int32))] [(.ref b2)])) _
    refine XS.iconst X8.here hx rfl (hb hby d1_63) ?_
    show Steps p.tables e below (T8.setTop (mkF m 64 #[.val (.int p1), .val (.int p2), .val (.int (3 : Int32)), .val (.ref b2), .val (.int (1 : Int32))] [(.int (2 : Int32)), (.ref b2)])) _
    refine XS.iload X8.here hx rfl (hb hby d1_64) rfl ?_
    show Steps p.tables e below (T8.setTop (mkF m 66 #[.val (.int p1), .val (.int p2), .val (.int (3 : Int32)), .val (.ref b2), .val (.int (1 : Int32))] [(.int (1 : Int32)), (.int (2 : Int32)), (.ref b2)])) _
    refine XS.iadd X8.here hx rfl (hb hby d1_66) rfl ?_
    show Steps p.tables e below (T8.setTop (mkF m 67 #[.val (.int p1), .val (.int p2), .val (.int (3 : Int32)), .val (.ref b2), .val (.int (1 : Int32))] [(.int ((2 : Int32) + (1 : Int32))), (.ref b2)])) _
    rw [show ((2 : Int32) + (1 : Int32)) = (3 : Int32) from by decide]
    show Steps p.tables e below (T8.setTop (mkF m 67 #[.val (.int p1), .val (.int p2), .val (.int (3 : Int32)), .val (.ref b2), .val (.int (1 : Int32))] [(.int (3 : Int32)), (.ref b2)])) _
    refine XS.iloadN X8.here hx rfl (hb hby d1_67) rfl ?_
    show Steps p.tables e below (T8.setTop (mkF m 68 #[.val (.int p1), .val (.int p2), .val (.int (3 : Int32)), .val (.ref b2), .val (.int (1 : Int32))] [(.int p2), (.int (3 : Int32)), (.ref b2)])) _
    refine XS.iloadN X8.here hx rfl (hb hby d1_68) rfl ?_
    show Steps p.tables e below (T8.setTop (mkF m 69 #[.val (.int p1), .val (.int p2), .val (.int (3 : Int32)), .val (.ref b2), .val (.int (1 : Int32))] [(.int (3 : Int32)), (.int p2), (.int (3 : Int32)), (.ref b2)])) _
    refine XS.iconst X8.here hx rfl (hb hby d1_69) ?_
    show Steps p.tables e below (T8.setTop (mkF m 70 #[.val (.int p1), .val (.int p2), .val (.int (3 : Int32)), .val (.ref b2), .val (.int (1 : Int32))] [(.int (1 : Int32)), (.int (3 : Int32)), (.int p2), (.int (3 : Int32)), (.ref b2)])) _
    refine XS.isub X8.here hx rfl (hb hby d1_70) rfl ?_
    show Steps p.tables e below (T8.setTop (mkF m 71 #[.val (.int p1), .val (.int p2), .val (.int (3 : Int32)), .val (.ref b2), .val (.int (1 : Int32))] [(.int ((3 : Int32) - (1 : Int32))), (.int p2), (.int (3 : Int32)), (.ref b2)])) _
    rw [show ((3 : Int32) - (1 : Int32)) = (2 : Int32) from by decide]
    show Steps p.tables e below (T8.setTop (mkF m 71 #[.val (.int p1), .val (.int p2), .val (.int (3 : Int32)), .val (.ref b2), .val (.int (1 : Int32))] [(.int (2 : Int32)), (.int p2), (.int (3 : Int32)), (.ref b2)])) _
    refine XS.iload X8.here hx rfl (hb hby d1_71) rfl ?_
    show Steps p.tables e below (T8.setTop (mkF m 73 #[.val (.int p1), .val (.int p2), .val (.int (3 : Int32)), .val (.ref b2), .val (.int (1 : Int32))] [(.int (1 : Int32)), (.int (2 : Int32)), (.int p2), (.int (3 : Int32)), (.ref b2)])) _
    refine XS.isub X8.here hx rfl (hb hby d1_73) rfl ?_
    show Steps p.tables e below (T8.setTop (mkF m 74 #[.val (.int p1), .val (.int p2), .val (.int (3 : Int32)), .val (.ref b2), .val (.int (1 : Int32))] [(.int ((2 : Int32) - (1 : Int32))), (.int p2), (.int (3 : Int32)), (.ref b2)])) _
    rw [show ((2 : Int32) - (1 : Int32)) = (1 : Int32) from by decide]
    show Steps p.tables e below (T8.setTop (mkF m 74 #[.val (.int p1), .val (.int p2), .val (.int (3 : Int32)), .val (.ref b2), .val (.int (1 : Int32))] [(.int (1 : Int32)), (.int p2), (.int (3 : Int32)), (.ref b2)])) _
    refine XS.bipush X8.here hx rfl (hb hby d1_74) ?_
    show Steps p.tables e below (T8.setTop (mkF m 76 #[.val (.int p1), .val (.int p2), .val (.int (3 : Int32)), .val (.ref b2), .val (.int (1 : Int32))] [(.int (8 : Int32)), (.int (1 : Int32)), (.int p2), (.int (3 : Int32)), (.ref b2)])) _
    refine XS.imul X8.here hx rfl (hb hby d1_76) rfl ?_
    show Steps p.tables e below (T8.setTop (mkF m 77 #[.val (.int p1), .val (.int p2), .val (.int (3 : Int32)), .val (.ref b2), .val (.int (1 : Int32))] [(.int ((1 : Int32) * (8 : Int32))), (.int p2), (.int (3 : Int32)), (.ref b2)])) _
    rw [show ((1 : Int32) * (8 : Int32)) = (8 : Int32) from by decide]
    show Steps p.tables e below (T8.setTop (mkF m 77 #[.val (.int p1), .val (.int p2), .val (.int (3 : Int32)), .val (.ref b2), .val (.int (1 : Int32))] [(.int (8 : Int32)), (.int p2), (.int (3 : Int32)), (.ref b2)])) _
    refine XS.iushr X8.here hx rfl (hb hby d1_77) rfl ?_
    show Steps p.tables e below (T8.setTop (mkF m 78 #[.val (.int p1), .val (.int p2), .val (.int (3 : Int32)), .val (.ref b2), .val (.int (1 : Int32))] [(.int ((p2.toUInt32 >>> ((8 : Int32) &&& 31).toUInt32).toInt32)), (.int (3 : Int32)), (.ref b2)])) _
    refine XS.i2b X8.here hx rfl (hb hby d1_78) rfl ?_
    show Steps p.tables e below (T8.setTop (mkF m 79 #[.val (.int p1), .val (.int p2), .val (.int (3 : Int32)), .val (.ref b2), .val (.int (1 : Int32))] [(.int (((p2.toUInt32 >>> ((8 : Int32) &&& 31).toUInt32).toInt32).toInt8.toInt32)), (.int (3 : Int32)), (.ref b2)])) _
    refine st10 _ ?_
    show Steps p.tables e below (T10.setTop (mkF m 80 #[.val (.int p1), .val (.int p2), .val (.int (3 : Int32)), .val (.ref b2), .val (.int (1 : Int32))] [])) _
    refine XS.iinc X10.here hx rfl (hb hby d1_80) rfl (l' := #[.val (.int p1), .val (.int p2), .val (.int (3 : Int32)), .val (.ref b2), .val (.int ((1 : Int32) + (1 : Int32)))]) rfl ?_
    show Steps p.tables e below (T10.setTop (mkF m 83 #[.val (.int p1), .val (.int p2), .val (.int (3 : Int32)), .val (.ref b2), .val (.int ((1 : Int32) + (1 : Int32)))] [])) _
    rw [show ((1 : Int32) + (1 : Int32)) = (2 : Int32) from by decide]
    show Steps p.tables e below (T10.setTop (mkF m 83 #[.val (.int p1), .val (.int p2), .val (.int (3 : Int32)), .val (.ref b2), .val (.int (2 : Int32))] [])) _
    refine XS.goto X10.here hx rfl (pc0 := 83) (pc' := 56) rfl (hb hby d1_83) (by decide) (by decide) ?_
    show Steps p.tables e below (T10.setTop (mkF m 56 #[.val (.int p1), .val (.int p2), .val (.int (3 : Int32)), .val (.ref b2), .val (.int (2 : Int32))] [])) _
    refine XS.iload X10.here hx rfl (hb hby d1_56) rfl ?_
    show Steps p.tables e below (T10.setTop (mkF m 58 #[.val (.int p1), .val (.int p2), .val (.int (3 : Int32)), .val (.ref b2), .val (.int (2 : Int32))] [(.int (2 : Int32))])) _
    refine XS.iloadN X10.here hx rfl (hb hby d1_58) rfl ?_
    show Steps p.tables e below (T10.setTop (mkF m 59 #[.val (.int p1), .val (.int p2), .val (.int (3 : Int32)), .val (.ref b2), .val (.int (2 : Int32))] [(.int (3 : Int32)), (.int (2 : Int32))])) _
    refine XS.icmpNo X10.here hx rfl (hb hby d1_59) rfl (tlt ((by decide) : (2 : Int32) < (3 : Int32))).2.1 ?_
    show Steps p.tables e below (T10.setTop (mkF m 62 #[.val (.int p1), .val (.int p2), .val (.int (3 : Int32)), .val (.ref b2), .val (.int (2 : Int32))] [])) _
    refine XS.aloadN X10.here hx rfl (hb hby d1_62) rfl rfl ?_
    show Steps p.tables e below (T10.setTop (mkF m 63 #[.val (.int p1), .val (.int p2), .val (.int (3 : Int32)), .val (.ref b2), .val (.int (2 : Int32))] [(.ref b2)])) _
    refine XS.iconst X10.here hx rfl (hb hby d1_63) ?_
    show Steps p.tables e below (T10.setTop (mkF m 64 #[.val (.int p1), .val (.int p2), .val (.int (3 : Int32)), .val (.ref b2), .val (.int (2 : Int32))] [(.int (2 : Int32)), (.ref b2)])) _
    refine XS.iload X10.here hx rfl (hb hby d1_64) rfl ?_
    show Steps p.tables e below (T10.setTop (mkF m 66 #[.val (.int p1), .val (.int p2), .val (.int (3 : Int32)), .val (.ref b2), .val (.int (2 : Int32))] [(.int (2 : Int32)), (.int (2 : Int32)), (.ref b2)])) _
    refine XS.iadd X10.here hx rfl (hb hby d1_66) rfl ?_
    show Steps p.tables e below (T10.setTop (mkF m 67 #[.val (.int p1), .val (.int p2), .val (.int (3 : Int32)), .val (.ref b2), .val (.int (2 : Int32))] [(.int ((2 : Int32) + (2 : Int32))), (.ref b2)])) _
    rw [show ((2 : Int32) + (2 : Int32)) = (4 : Int32) from by decide]
    show Steps p.tables e below (T10.setTop (mkF m 67 #[.val (.int p1), .val (.int p2), .val (.int (3 : Int32)), .val (.ref b2), .val (.int (2 : Int32))] [(.int (4 : Int32)), (.ref b2)])) _
    refine XS.iloadN X10.here hx rfl (hb hby d1_67) rfl ?_
    show Steps p.tables e below (T10.setTop (mkF m 68 #[.val (.int p1), .val (.int p2), .val (.int (3 : Int32)), .val (.ref b2), .val (.int (2 : Int32))] [(.int p2), (.int (4 : Int32)), (.ref b2)])) _
    refine XS.iloadN X10.here hx rfl (hb hby d1_68) rfl ?_
    show Steps p.tables e below (T10.setTop (mkF m 69 #[.val (.int p1), .val (.int p2), .val (.int (3 : Int32)), .val (.ref b2), .val (.int (2 : Int32))] [(.int (3 : Int32)), (.int p2), (.int (4 : Int32)), (.ref b2)])) _
    refine XS.iconst X10.here hx rfl (hb hby d1_69) ?_
    show Steps p.tables e below (T10.setTop (mkF m 70 #[.val (.int p1), .val (.int p2), .val (.int (3 : Int32)), .val (.ref b2), .val (.int (2 : Int32))] [(.int (1 : Int32)), (.int (3 : Int32)), (.int p2), (.int (4 : Int32)), (.ref b2)])) _
    refine XS.isub X10.here hx rfl (hb hby d1_70) rfl ?_
    show Steps p.tables e below (T10.setTop (mkF m 71 #[.val (.int p1), .val (.int p2), .val (.int (3 : Int32)), .val (.ref b2), .val (.int (2 : Int32))] [(.int ((3 : Int32) - (1 : Int32))), (.int p2), (.int (4 : Int32)), (.ref b2)])) _
    rw [show ((3 : Int32) - (1 : Int32)) = (2 : Int32) from by decide]
    show Steps p.tables e below (T10.setTop (mkF m 71 #[.val (.int p1), .val (.int p2), .val (.int (3 : Int32)), .val (.ref b2), .val (.int (2 : Int32))] [(.int (2 : Int32)), (.int p2), (.int (4 : Int32)), (.ref b2)])) _
    refine XS.iload X10.here hx rfl (hb hby d1_71) rfl ?_
    show Steps p.tables e below (T10.setTop (mkF m 73 #[.val (.int p1), .val (.int p2), .val (.int (3 : Int32)), .val (.ref b2), .val (.int (2 : Int32))] [(.int (2 : Int32)), (.int (2 : Int32)), (.int p2), (.int (4 : Int32)), (.ref b2)])) _
    refine XS.isub X10.here hx rfl (hb hby d1_73) rfl ?_
    show Steps p.tables e below (T10.setTop (mkF m 74 #[.val (.int p1), .val (.int p2), .val (.int (3 : Int32)), .val (.ref b2), .val (.int (2 : Int32))] [(.int ((2 : Int32) - (2 : Int32))), (.int p2), (.int (4 : Int32)), (.ref b2)])) _
    rw [show ((2 : Int32) - (2 : Int32)) = (0 : Int32) from by decide]
    show Steps p.tables e below (T10.setTop (mkF m 74 #[.val (.int p1), .val (.int p2), .val (.int (3 : Int32)), .val (.ref b2), .val (.int (2 : Int32))] [(.int (0 : Int32)), (.int p2), (.int (4 : Int32)), (.ref b2)])) _
    refine XS.bipush X10.here hx rfl (hb hby d1_74) ?_
    show Steps p.tables e below (T10.setTop (mkF m 76 #[.val (.int p1), .val (.int p2), .val (.int (3 : Int32)), .val (.ref b2), .val (.int (2 : Int32))] [(.int (8 : Int32)), (.int (0 : Int32)), (.int p2), (.int (4 : Int32)), (.ref b2)])) _
    refine XS.imul X10.here hx rfl (hb hby d1_76) rfl ?_
    show Steps p.tables e below (T10.setTop (mkF m 77 #[.val (.int p1), .val (.int p2), .val (.int (3 : Int32)), .val (.ref b2), .val (.int (2 : Int32))] [(.int ((0 : Int32) * (8 : Int32))), (.int p2), (.int (4 : Int32)), (.ref b2)])) _
    rw [show ((0 : Int32) * (8 : Int32)) = (0 : Int32) from by decide]
    show Steps p.tables e below (T10.setTop (mkF m 77 #[.val (.int p1), .val (.int p2), .val (.int (3 : Int32)), .val (.ref b2), .val (.int (2 : Int32))] [(.int (0 : Int32)), (.int p2), (.int (4 : Int32)), (.ref b2)])) _
    refine XS.iushr X10.here hx rfl (hb hby d1_77) rfl ?_
    show Steps p.tables e below (T10.setTop (mkF m 78 #[.val (.int p1), .val (.int p2), .val (.int (3 : Int32)), .val (.ref b2), .val (.int (2 : Int32))] [(.int ((p2.toUInt32 >>> ((0 : Int32) &&& 31).toUInt32).toInt32)), (.int (4 : Int32)), (.ref b2)])) _
    refine XS.i2b X10.here hx rfl (hb hby d1_78) rfl ?_
    show Steps p.tables e below (T10.setTop (mkF m 79 #[.val (.int p1), .val (.int p2), .val (.int (3 : Int32)), .val (.ref b2), .val (.int (2 : Int32))] [(.int (((p2.toUInt32 >>> ((0 : Int32) &&& 31).toUInt32).toInt32).toInt8.toInt32)), (.int (4 : Int32)), (.ref b2)])) _
    refine st12 _ ?_
    show Steps p.tables e below (T12.setTop (mkF m 80 #[.val (.int p1), .val (.int p2), .val (.int (3 : Int32)), .val (.ref b2), .val (.int (2 : Int32))] [])) _
    refine XS.iinc X12.here hx rfl (hb hby d1_80) rfl (l' := #[.val (.int p1), .val (.int p2), .val (.int (3 : Int32)), .val (.ref b2), .val (.int ((2 : Int32) + (1 : Int32)))]) rfl ?_
    show Steps p.tables e below (T12.setTop (mkF m 83 #[.val (.int p1), .val (.int p2), .val (.int (3 : Int32)), .val (.ref b2), .val (.int ((2 : Int32) + (1 : Int32)))] [])) _
    rw [show ((2 : Int32) + (1 : Int32)) = (3 : Int32) from by decide]
    show Steps p.tables e below (T12.setTop (mkF m 83 #[.val (.int p1), .val (.int p2), .val (.int (3 : Int32)), .val (.ref b2), .val (.int (3 : Int32))] [])) _
    refine XS.goto X12.here hx rfl (pc0 := 83) (pc' := 56) rfl (hb hby d1_83) (by decide) (by decide) ?_
    show Steps p.tables e below (T12.setTop (mkF m 56 #[.val (.int p1), .val (.int p2), .val (.int (3 : Int32)), .val (.ref b2), .val (.int (3 : Int32))] [])) _
    refine XS.iload X12.here hx rfl (hb hby d1_56) rfl ?_
    show Steps p.tables e below (T12.setTop (mkF m 58 #[.val (.int p1), .val (.int p2), .val (.int (3 : Int32)), .val (.ref b2), .val (.int (3 : Int32))] [(.int (3 : Int32))])) _
    refine XS.iloadN X12.here hx rfl (hb hby d1_58) rfl ?_
    show Steps p.tables e below (T12.setTop (mkF m 59 #[.val (.int p1), .val (.int p2), .val (.int (3 : Int32)), .val (.ref b2), .val (.int (3 : Int32))] [(.int (3 : Int32)), (.int (3 : Int32))])) _
    refine XS.icmpYes X12.here hx rfl (pc0 := 59) (pc' := 86) rfl (hb hby d1_59) rfl (flt ((by decide) : ¬ ((3 : Int32) < (3 : Int32)))).2.1 (by decide) (by decide) ?_
    show Steps p.tables e below (T12.setTop (mkF m 86 #[.val (.int p1), .val (.int p2), .val (.int (3 : Int32)), .val (.ref b2), .val (.int (3 : Int32))] [])) _
    refine XS.aloadN X12.here hx rfl (hb hby d1_86) rfl rfl ?_
    show Steps p.tables e below (T12.setTop (mkF m 87 #[.val (.int p1), .val (.int p2), .val (.int (3 : Int32)), .val (.ref b2), .val (.int (3 : Int32))] [(.ref b2)])) _
    jvm_step X12.here [X12.here.top, hx, (hb hby d1_87), X12.method', Bd.returns, Value.isRef, FieldType.isReference]
    first | (intro acts; rw [hr _ acts rfl rfl rfl]) | rw [hr _ _ rfl rfl rfl]
    exact Steps.refl _
  · show QH Z p1 p2 (5 : Int32) [(.int (nar .byte (p1.toInt8.toInt32))), (.int (nar .byte ((131 : Int32).toInt8.toInt32))), (.int (nar .byte (((p2.toUInt32 >>> ((16 : Int32) &&& 31).toUInt32).toInt32).toInt8.toInt32))), (.int (nar .byte (((p2.toUInt32 >>> ((8 : Int32) &&& 31).toUInt32).toInt32).toInt8.toInt32))), (.int (nar .byte (((p2.toUInt32 >>> ((0 : Int32) &&& 31).toUInt32).toInt32).toInt8.toInt32)))] h0 n0 _ T12.heap _
    rw [e12]
    exact ⟨by rw [g2], N12, KC12, ⟨_, (g2 ▸ V12)⟩⟩
set_option maxRecDepth 65536 in
set_option maxHeartbeats 40000000 in
theorem rmH4 (l : Launch) (Z : State) (a0 : Array Value) (hw : ∀ d ∈ tables_1, d.before a0 Z = true) (ws : List Jvm.Cond) (p1 p2 : Int32) (h0 : Heap) (n0 : Nat) (Z0 : n0 ≤ h0.size) (gq1 : ¬ (p2 < (128 : Int32))) (hn : ((((32 : Int32) - (Jvm.Free.JP.Integer_numberOfLeadingZeros_I.val p2)) + (7 : Int32)) / (8 : Int32)) = (4 : Int32)) :
    MetFree l (⟨"com/example/rollcall/rollcall/DerElement", "header", "(II)[B"⟩ : MethodName) (head1 (Jvm.Cond.code (⟨"com/example/rollcall/rollcall/DerElement", "header", "(II)[B"⟩ : MethodName) prog_20_method_8_code 5 (some (.array .byte)) :: ws) ({ frames := 1, cells := 1, slots := 6, locals := 14 } : Room)) (fun a U => a = #[(.int p1), (.int p2)] ∧ Z.Warmed39 U.vm ∧ U.heap = h0) (fun _ _ _ _ _ => True) (fun _ U o U' => ∃ v L, o = .returned v ∧ QH Z p1 p2 (6 : Int32) [(.int (nar .byte (p1.toInt8.toInt32))), (.int (nar .byte ((132 : Int32).toInt8.toInt32))), (.int (nar .byte (((p2.toUInt32 >>> ((24 : Int32) &&& 31).toUInt32).toInt32).toInt8.toInt32))), (.int (nar .byte (((p2.toUInt32 >>> ((16 : Int32) &&& 31).toUInt32).toInt32).toInt8.toInt32))), (.int (nar .byte (((p2.toUInt32 >>> ((8 : Int32) &&& 31).toUInt32).toInt32).toInt8.toInt32))), (.int (nar .byte (((p2.toUInt32 >>> ((0 : Int32) &&& 31).toUInt32).toInt32).toInt8.toInt32)))] h0 n0 v U'.heap L ∧ FrameEnd U o U' L ({ frames := 1, cells := 1, slots := 6, locals := 14 } : Room).cells ({ frames := 1, cells := 1, slots := 6, locals := 14 } : Room).slots) := by
  refine MetFree.of_bodySF (plainFor_of_name pn_1) hisR ?_
  intro p e s m args below meth c s₁ Bd hml0 hP hK
  obtain ⟨rfl, hZ, hh⟩ := hP
  have hx := Bd.exec
  have hby := Bd.bytes
  have hml : c.maxLocals = 5 := hml0
  have hown : s.vm.findClass "com/example/rollcall/rollcall/DerElement" = some m.cls := findClass_of_methodNamed Bd.named
  have hnm := (name_of_methodNamed Bd.named Bd.method).1
  have X0 : Stand p l e ({ frames := 1, cells := 1, slots := 6, locals := 14 } : Room) s m #[(.int p1), (.int p2)] below meth c s₁ [] 0 0 := Stand.of_body Bd
  have e0 : s₁.heap = h0 := by rw [← hh, Bd.state]; rfl
  have N0 := Fr.nil n0
  have pre0 : ∀ tz, Steps p.tables e below (s₁.setTop (mkF m 0 #[.val (.int p1), .val (.int p2), .unset, .unset, .unset] [])) tz → Steps p.tables e below (s₁.setTop (entryFrame m #[(.int p1), (.int p2)] 5)) tz := fun tz kz => castTop (ef_1 m p1 p2) kz
  obtain ⟨_, _, ⟨T1, L1, k1, n1⟩, -, X1, ⟨⟨hv1, hQ1⟩, l1, y1, z1⟩, st1⟩ := Jvm.LawKit.callS X0 hx (y := (⟨"java/lang/Integer", "numberOfLeadingZeros", "(I)I"⟩ : MethodName)) hown (mvT hZ (hw _ (List.mem_of_getElem? (i := 6) rfl))) (mvT hZ (hw _ (List.mem_of_getElem? (i := 7) rfl))) (mvT hZ (hw _ (List.mem_of_getElem? (i := 8) rfl))) (mvT hZ (hw _ (List.mem_of_getElem? (i := 9) rfl))) (by decide) (Jvm.Free.JP.Integer_numberOfLeadingZeros_I.pays (W := 1) p2 (own_tab hw hZ) (by decide) (by decide)) (g := (mkF m 14 #[.val (.int p1), .val (.int p2), .unset, .unset, .unset] [(.int p2), (.int (32 : Int32))])) rfl (by rw [hml]; rfl) (argsL := [(.int p2)]) (rest := [(.int (32 : Int32))]) (lenOf pd_1_0 rfl) rfl (by show 2 * 0 + _ ≤ _; exact Nat.le_of_eq rfl) (hb hby d1_14) (fun _ _ => ⟨(by decide : 0 + 0 ≤ _), (by decide : 0 + 0 ≤ _), rfl, trivial⟩)
  dsimp only [Pt.U, Pt.locs, Pt.cells, Pt.slots] at X1 l1 y1 z1 st1 hQ1
  subst l1 y1 z1
  subst hv1
  have eh1 : T1.heap = h0 := hQ1.trans e0
  have N1 := Fr.app N0 (Fr.nil n0)
  obtain ⟨T2, h2, k2, X2, e2, E2, A2, st2⟩ := newP X1 hx hZ (hw _ (List.mem_of_getElem? (i := 5) rfl)) eh1 (g := (mkF m 28 #[.val (.int p1), .val (.int p2), .val (.int (4 : Int32)), .unset, .unset] [(.int (6 : Int32))])) rfl (hb hby d1_28) rfl (by decide) (cap := 6) (by decide) (by decide) (by decide) (by decide)
  obtain ⟨b2, g2⟩ : ∃ z, z = h0.size := ⟨_, rfl⟩
  rw [← g2] at A2 st2
  have gb2 : n0 ≤ b2 := Nat.le_trans Z0 (Nat.le_of_eq g2.symm)
  have sz2 : h0.size ≤ b2 := Nat.le_trans (Keep.refl h0 []).1 (Nat.le_of_eq g2.symm)
  have Z2 : n0 ≤ h2.size := Nat.le_trans Z0 E2.1
  have KC2 : Keep h0 h2 [] := (Keep.refl h0 []).ext E2
  have V2 : Arv Z h2 b2 k2 .byte (6 : Int32) [(.int (0 : Int32)), (.int (0 : Int32)), (.int (0 : Int32)), (.int (0 : Int32)), (.int (0 : Int32)), (.int (0 : Int32))] (.int (0 : Int32)) := (Arv.new A2 (by decide)).pad (pad_rep [] (.int (0 : Int32)) 6)
  obtain ⟨cl3, Ar3, q3, S3, M3, H3, G3⟩ := id V2
  have hin4 : ¬ ((0 : Int32) < 0 ∨ cl3.slots.size ≤ ((0 : Int32)).toNatClampNeg) := inb_of S3 ⟨by decide, by decide⟩
  obtain ⟨T4, h4, X4, e4, W4, st4⟩ := stB X2 hx hZ e2 Ar3 (j := (0 : Int32)) hin4 (g := (mkF m 35 #[.val (.int p1), .val (.int p2), .val (.int (4 : Int32)), .val (.ref b2), .unset] [(.int (p1.toInt8.toInt32)), (.int (0 : Int32)), (.ref b2)])) rfl rfl (hb hby d1_35)
  have V4 : Arv Z h4 b2 k2 .byte (6 : Int32) [(.int (nar .byte (p1.toInt8.toInt32))), (.int (0 : Int32)), (.int (0 : Int32)), (.int (0 : Int32)), (.int (0 : Int32)), (.int (0 : Int32))] (.int (0 : Int32)) := Arv.set Ar3 q3 S3 M3 H3 G3 (fits_nar_byte _) W4 0 rfl (Nat.le_of_ble_eq_true rfl)
  have Z4 : n0 ≤ h4.size := Nat.le_trans Z2 (Keep.of_wr W4).1
  have KC4 : Keep h0 h4 [] := KC2.wr W4 (Or.inr sz2)
  have N4 := Fr.snoc X4 N1 gb2
  obtain ⟨cl5, Ar5, q5, S5, M5, H5, G5⟩ := id V4
  have hin6 : ¬ ((1 : Int32) < 0 ∨ cl5.slots.size ≤ ((1 : Int32)).toNatClampNeg) := inb_of S5 ⟨by decide, by decide⟩
  obtain ⟨T6, h6, X6, e6, W6, st6⟩ := stB X4 hx hZ e4 Ar5 (j := (1 : Int32)) hin6 (g := (mkF m 52 #[.val (.int p1), .val (.int p2), .val (.int (4 : Int32)), .val (.ref b2), .unset] [(.int ((132 : Int32).toInt8.toInt32)), (.int (1 : Int32)), (.ref b2)])) rfl rfl (hb hby d1_52)
  have V6 : Arv Z h6 b2 k2 .byte (6 : Int32) [(.int (nar .byte (p1.toInt8.toInt32))), (.int (nar .byte ((132 : Int32).toInt8.toInt32))), (.int (0 : Int32)), (.int (0 : Int32)), (.int (0 : Int32)), (.int (0 : Int32))] (.int (0 : Int32)) := Arv.set Ar5 q5 S5 M5 H5 G5 (fits_nar_byte _) W6 1 rfl (Nat.le_of_ble_eq_true rfl)
  have Z6 : n0 ≤ h6.size := Nat.le_trans Z4 (Keep.of_wr W6).1
  have KC6 : Keep h0 h6 [] := KC4.wr W6 (Or.inr sz2)
  have N6 := Fr.snoc X6 N4 gb2
  obtain ⟨cl7, Ar7, q7, S7, M7, H7, G7⟩ := id V6
  have hin8 : ¬ ((2 : Int32) < 0 ∨ cl7.slots.size ≤ ((2 : Int32)).toNatClampNeg) := inb_of S7 ⟨by decide, by decide⟩
  obtain ⟨T8, h8, X8, e8, W8, st8⟩ := stB X6 hx hZ e6 Ar7 (j := (2 : Int32)) hin8 (g := (mkF m 79 #[.val (.int p1), .val (.int p2), .val (.int (4 : Int32)), .val (.ref b2), .val (.int (0 : Int32))] [(.int (((p2.toUInt32 >>> ((24 : Int32) &&& 31).toUInt32).toInt32).toInt8.toInt32)), (.int (2 : Int32)), (.ref b2)])) rfl rfl (hb hby d1_79)
  have V8 : Arv Z h8 b2 k2 .byte (6 : Int32) [(.int (nar .byte (p1.toInt8.toInt32))), (.int (nar .byte ((132 : Int32).toInt8.toInt32))), (.int (nar .byte (((p2.toUInt32 >>> ((24 : Int32) &&& 31).toUInt32).toInt32).toInt8.toInt32))), (.int (0 : Int32)), (.int (0 : Int32)), (.int (0 : Int32))] (.int (0 : Int32)) := Arv.set Ar7 q7 S7 M7 H7 G7 (fits_nar_byte _) W8 2 rfl (Nat.le_of_ble_eq_true rfl)
  have Z8 : n0 ≤ h8.size := Nat.le_trans Z6 (Keep.of_wr W8).1
  have KC8 : Keep h0 h8 [] := KC6.wr W8 (Or.inr sz2)
  have N8 := Fr.snoc X8 N6 gb2
  obtain ⟨cl9, Ar9, q9, S9, M9, H9, G9⟩ := id V8
  have hin10 : ¬ ((3 : Int32) < 0 ∨ cl9.slots.size ≤ ((3 : Int32)).toNatClampNeg) := inb_of S9 ⟨by decide, by decide⟩
  obtain ⟨T10, h10, X10, e10, W10, st10⟩ := stB X8 hx hZ e8 Ar9 (j := (3 : Int32)) hin10 (g := (mkF m 79 #[.val (.int p1), .val (.int p2), .val (.int (4 : Int32)), .val (.ref b2), .val (.int (1 : Int32))] [(.int (((p2.toUInt32 >>> ((16 : Int32) &&& 31).toUInt32).toInt32).toInt8.toInt32)), (.int (3 : Int32)), (.ref b2)])) rfl rfl (hb hby d1_79)
  have V10 : Arv Z h10 b2 k2 .byte (6 : Int32) [(.int (nar .byte (p1.toInt8.toInt32))), (.int (nar .byte ((132 : Int32).toInt8.toInt32))), (.int (nar .byte (((p2.toUInt32 >>> ((24 : Int32) &&& 31).toUInt32).toInt32).toInt8.toInt32))), (.int (nar .byte (((p2.toUInt32 >>> ((16 : Int32) &&& 31).toUInt32).toInt32).toInt8.toInt32))), (.int (0 : Int32)), (.int (0 : Int32))] (.int (0 : Int32)) := Arv.set Ar9 q9 S9 M9 H9 G9 (fits_nar_byte _) W10 3 rfl (Nat.le_of_ble_eq_true rfl)
  have Z10 : n0 ≤ h10.size := Nat.le_trans Z8 (Keep.of_wr W10).1
  have KC10 : Keep h0 h10 [] := KC8.wr W10 (Or.inr sz2)
  have N10 := Fr.snoc X10 N8 gb2
  obtain ⟨cl11, Ar11, q11, S11, M11, H11, G11⟩ := id V10
  have hin12 : ¬ ((4 : Int32) < 0 ∨ cl11.slots.size ≤ ((4 : Int32)).toNatClampNeg) := inb_of S11 ⟨by decide, by decide⟩
  obtain ⟨T12, h12, X12, e12, W12, st12⟩ := stB X10 hx hZ e10 Ar11 (j := (4 : Int32)) hin12 (g := (mkF m 79 #[.val (.int p1), .val (.int p2), .val (.int (4 : Int32)), .val (.ref b2), .val (.int (2 : Int32))] [(.int (((p2.toUInt32 >>> ((8 : Int32) &&& 31).toUInt32).toInt32).toInt8.toInt32)), (.int (4 : Int32)), (.ref b2)])) rfl rfl (hb hby d1_79)
  have V12 : Arv Z h12 b2 k2 .byte (6 : Int32) [(.int (nar .byte (p1.toInt8.toInt32))), (.int (nar .byte ((132 : Int32).toInt8.toInt32))), (.int (nar .byte (((p2.toUInt32 >>> ((24 : Int32) &&& 31).toUInt32).toInt32).toInt8.toInt32))), (.int (nar .byte (((p2.toUInt32 >>> ((16 : Int32) &&& 31).toUInt32).toInt32).toInt8.toInt32))), (.int (nar .byte (((p2.toUInt32 >>> ((8 : Int32) &&& 31).toUInt32).toInt32).toInt8.toInt32))), (.int (0 : Int32))] (.int (0 : Int32)) := Arv.set Ar11 q11 S11 M11 H11 G11 (fits_nar_byte _) W12 4 rfl (Nat.le_of_ble_eq_true rfl)
  have Z12 : n0 ≤ h12.size := Nat.le_trans Z10 (Keep.of_wr W12).1
  have KC12 : Keep h0 h12 [] := KC10.wr W12 (Or.inr sz2)
  have N12 := Fr.snoc X12 N10 gb2
  obtain ⟨cl13, Ar13, q13, S13, M13, H13, G13⟩ := id V12
  have hin14 : ¬ ((5 : Int32) < 0 ∨ cl13.slots.size ≤ ((5 : Int32)).toNatClampNeg) := inb_of S13 ⟨by decide, by decide⟩
  obtain ⟨T14, h14, X14, e14, W14, st14⟩ := stB X12 hx hZ e12 Ar13 (j := (5 : Int32)) hin14 (g := (mkF m 79 #[.val (.int p1), .val (.int p2), .val (.int (4 : Int32)), .val (.ref b2), .val (.int (3 : Int32))] [(.int (((p2.toUInt32 >>> ((0 : Int32) &&& 31).toUInt32).toInt32).toInt8.toInt32)), (.int (5 : Int32)), (.ref b2)])) rfl rfl (hb hby d1_79)
  have V14 : Arv Z h14 b2 k2 .byte (6 : Int32) [(.int (nar .byte (p1.toInt8.toInt32))), (.int (nar .byte ((132 : Int32).toInt8.toInt32))), (.int (nar .byte (((p2.toUInt32 >>> ((24 : Int32) &&& 31).toUInt32).toInt32).toInt8.toInt32))), (.int (nar .byte (((p2.toUInt32 >>> ((16 : Int32) &&& 31).toUInt32).toInt32).toInt8.toInt32))), (.int (nar .byte (((p2.toUInt32 >>> ((8 : Int32) &&& 31).toUInt32).toInt32).toInt8.toInt32))), (.int (nar .byte (((p2.toUInt32 >>> ((0 : Int32) &&& 31).toUInt32).toInt32).toInt8.toInt32)))] (.int (0 : Int32)) := Arv.set Ar13 q13 S13 M13 H13 G13 (fits_nar_byte _) W14 5 rfl (Nat.le_of_ble_eq_true rfl)
  have Z14 : n0 ≤ h14.size := Nat.le_trans Z12 (Keep.of_wr W14).1
  have KC14 : Keep h0 h14 [] := KC12.wr W14 (Or.inr sz2)
  have N14 := Fr.snoc X14 N12 gb2
  obtain ⟨fs, hr, hrun, hended, hW, hsame⟩ := X14.leave (v := some (.ref b2)) (fun h => by rw [Bd.returns] at h; cases h)
  refine ⟨_, _, pre0 _ ?_, hrun, hended, _, _, rfl, ?_, ⟨_, rfl⟩, hW, hsame.mono (by decide) (by decide)⟩
  · show Steps p.tables e below (s₁.setTop (mkF m 0 #[.val (.int p1), .val (.int p2), .unset, .unset, .unset] [])) _
    refine XS.iloadN X0.here hx rfl (hb hby d1_0) rfl ?_
    show Steps p.tables e below (s₁.setTop (mkF m 1 #[.val (.int p1), .val (.int p2), .unset, .unset, .unset] [(.int p2)])) _
    refine XS.sipush X0.here hx rfl (hb hby d1_1) ?_
    show Steps p.tables e below (s₁.setTop (mkF m 4 #[.val (.int p1), .val (.int p2), .unset, .unset, .unset] [(.int (128 : Int32)), (.int p2)])) _
    refine XS.icmpYes X0.here hx rfl (pc0 := 4) (pc' := 11) rfl (hb hby d1_4) rfl (flt (gq1 : ¬ (p2 < (128 : Int32)))).2.1 (by decide) (by decide) ?_
    show Steps p.tables e below (s₁.setTop (mkF m 11 #[.val (.int p1), .val (.int p2), .unset, .unset, .unset] [])) _
    refine XS.bipush X0.here hx rfl (hb hby d1_11) ?_
    show Steps p.tables e below (s₁.setTop (mkF m 13 #[.val (.int p1), .val (.int p2), .unset, .unset, .unset] [(.int (32 : Int32))])) _
    refine XS.iloadN X0.here hx rfl (hb hby d1_13) rfl ?_
    show Steps p.tables e below (s₁.setTop (mkF m 14 #[.val (.int p1), .val (.int p2), .unset, .unset, .unset] [(.int p2), (.int (32 : Int32))])) _
    refine st1 _ ?_
    show Steps p.tables e below (T1.setTop (mkF m 17 #[.val (.int p1), .val (.int p2), .unset, .unset, .unset] [(.int (Jvm.Free.JP.Integer_numberOfLeadingZeros_I.val p2)), (.int (32 : Int32))])) _
    refine XS.isub X1.here hx rfl (hb hby d1_17) rfl ?_
    show Steps p.tables e below (T1.setTop (mkF m 18 #[.val (.int p1), .val (.int p2), .unset, .unset, .unset] [(.int ((32 : Int32) - (Jvm.Free.JP.Integer_numberOfLeadingZeros_I.val p2)))])) _
    refine XS.bipush X1.here hx rfl (hb hby d1_18) ?_
    show Steps p.tables e below (T1.setTop (mkF m 20 #[.val (.int p1), .val (.int p2), .unset, .unset, .unset] [(.int (7 : Int32)), (.int ((32 : Int32) - (Jvm.Free.JP.Integer_numberOfLeadingZeros_I.val p2)))])) _
    refine XS.iadd X1.here hx rfl (hb hby d1_20) rfl ?_
    show Steps p.tables e below (T1.setTop (mkF m 21 #[.val (.int p1), .val (.int p2), .unset, .unset, .unset] [(.int (((32 : Int32) - (Jvm.Free.JP.Integer_numberOfLeadingZeros_I.val p2)) + (7 : Int32)))])) _
    refine XS.bipush X1.here hx rfl (hb hby d1_21) ?_
    show Steps p.tables e below (T1.setTop (mkF m 23 #[.val (.int p1), .val (.int p2), .unset, .unset, .unset] [(.int (8 : Int32)), (.int (((32 : Int32) - (Jvm.Free.JP.Integer_numberOfLeadingZeros_I.val p2)) + (7 : Int32)))])) _
    refine XS.idiv X1.here hx rfl (hb hby d1_23) rfl (by decide) ?_
    show Steps p.tables e below (T1.setTop (mkF m 24 #[.val (.int p1), .val (.int p2), .unset, .unset, .unset] [(.int ((((32 : Int32) - (Jvm.Free.JP.Integer_numberOfLeadingZeros_I.val p2)) + (7 : Int32)) / (8 : Int32)))])) _
    rw [hn]
    show Steps p.tables e below (T1.setTop (mkF m 24 #[.val (.int p1), .val (.int p2), .unset, .unset, .unset] [(.int (4 : Int32))])) _
    refine XS.istoreN X1.here hx rfl (hb hby d1_24) rfl (l' := #[.val (.int p1), .val (.int p2), .val (.int (4 : Int32)), .unset, .unset]) rfl ?_
    show Steps p.tables e below (T1.setTop (mkF m 25 #[.val (.int p1), .val (.int p2), .val (.int (4 : Int32)), .unset, .unset] [])) _
    refine XS.iconst X1.here hx rfl (hb hby d1_25) ?_
    show Steps p.tables e below (T1.setTop (mkF m 26 #[.val (.int p1), .val (.int p2), .val (.int (4 : Int32)), .unset, .unset] [(.int (2 : Int32))])) _
    refine XS.iloadN X1.here hx rfl (hb hby d1_26) rfl ?_
    show Steps p.tables e below (T1.setTop (mkF m 27 #[.val (.int p1), .val (.int p2), .val (.int (4 : Int32)), .unset, .unset] [(.int (4 : Int32)), (.int (2 : Int32))])) _
    refine XS.iadd X1.here hx rfl (hb hby d1_27) rfl ?_
    show Steps p.tables e below (T1.setTop (mkF m 28 #[.val (.int p1), .val (.int p2), .val (.int (4 : Int32)), .unset, .unset] [(.int ((2 : Int32) + (4 : Int32)))])) _
    rw [show ((2 : Int32) + (4 : Int32)) = (6 : Int32) from by decide]
    show Steps p.tables e below (T1.setTop (mkF m 28 #[.val (.int p1), .val (.int p2), .val (.int (4 : Int32)), .unset, .unset] [(.int (6 : Int32))])) _
    refine st2 _ ?_
    show Steps p.tables e below (T2.setTop (mkF m 30 #[.val (.int p1), .val (.int p2), .val (.int (4 : Int32)), .unset, .unset] [(.ref b2)])) _
    refine XS.astoreN X2.here hx rfl (hb hby d1_30) rfl rfl (l' := #[.val (.int p1), .val (.int p2), .val (.int (4 : Int32)), .val (.ref b2), .unset]) rfl ?_
    show Steps p.tables e below (T2.setTop (mkF m 31 #[.val (.int p1), .val (.int p2), .val (.int (4 : Int32)), .val (.ref b2), .unset] [])) _
    refine XS.aloadN X2.here hx rfl (hb hby d1_31) rfl rfl ?_
    show Steps p.tables e below (T2.setTop (mkF m 32 #[.val (.int p1), .val (.int p2), .val (.int (4 : Int32)), .val (.ref b2), .unset] [(.ref b2)])) _
    refine XS.iconst X2.here hx rfl (hb hby d1_32) ?_
    show Steps p.tables e below (T2.setTop (mkF m 33 #[.val (.int p1), .val (.int p2), .val (.int (4 : Int32)), .val (.ref b2), .unset] [(.int (0 : Int32)), (.ref b2)])) _
    refine XS.iloadN X2.here hx rfl (hb hby d1_33) rfl ?_
    show Steps p.tables e below (T2.setTop (mkF m 34 #[.val (.int p1), .val (.int p2), .val (.int (4 : Int32)), .val (.ref b2), .unset] [(.int p1), (.int (0 : Int32)), (.ref b2)])) _
    refine XS.i2b X2.here hx rfl (hb hby d1_34) rfl ?_
    show Steps p.tables e below (T2.setTop (mkF m 35 #[.val (.int p1), .val (.int p2), .val (.int (4 : Int32)), .val (.ref b2), .unset] [(.int (p1.toInt8.toInt32)), (.int (0 : Int32)), (.ref b2)])) _
    refine st4 _ ?_
    show Steps p.tables e below (T4.setTop (mkF m 36 #[.val (.int p1), .val (.int p2), .val (.int (4 : Int32)), .val (.ref b2), .unset] [])) _
    refine XS.aloadN X4.here hx rfl (hb hby d1_36) rfl rfl ?_
    show Steps p.tables e below (T4.setTop (mkF m 37 #[.val (.int p1), .val (.int p2), .val (.int (4 : Int32)), .val (.ref b2), .unset] [(.ref b2)])) _
    refine XS.iconst X4.here hx rfl (hb hby d1_37) ?_
    show Steps p.tables e below (T4.setTop (mkF m 38 #[.val (.int p1), .val (.int p2), .val (.int (4 : Int32)), .val (.ref b2), .unset] [(.int (1 : Int32)), (.ref b2)])) _
    refine XS.iloadN X4.here hx rfl (hb hby d1_38) rfl ?_
    show Steps p.tables e below (T4.setTop (mkF m 39 #[.val (.int p1), .val (.int p2), .val (.int (4 : Int32)), .val (.ref b2), .unset] [(.int (4 : Int32)), (.int (1 : Int32)), (.ref b2)])) _
    refine XS.ifYes X4.here hx rfl (pc0 := 39) (pc' := 46) rfl (hb hby d1_39) rfl ((if0 _ _).trans (feq ((by decide) : ¬ ((4 : Int32) = (0 : Int32)))).2) (by decide) (by decide) ?_
    show Steps p.tables e below (T4.setTop (mkF m 46 #[.val (.int p1), .val (.int p2), .val (.int (4 : Int32)), .val (.ref b2), .unset] [(.int (1 : Int32)), (.ref b2)])) _
    refine XS.sipush X4.here hx rfl (hb hby d1_46) ?_
    show Steps p.tables e below (T4.setTop (mkF m 49 #[.val (.int p1), .val (.int p2), .val (.int (4 : Int32)), .val (.ref b2), .unset] [(.int (128 : Int32)), (.int (1 : Int32)), (.ref b2)])) _
    refine XS.iloadN X4.here hx rfl (hb hby d1_49) rfl ?_
    show Steps p.tables e below (T4.setTop (mkF m 50 #[.val (.int p1), .val (.int p2), .val (.int (4 : Int32)), .val (.ref b2), .unset] [(.int (4 : Int32)), (.int (128 : Int32)), (.int (1 : Int32)), (.ref b2)])) _
    refine XS.ior X4.here hx rfl (hb hby d1_50) rfl ?_
    show Steps p.tables e below (T4.setTop (mkF m 51 #[.val (.int p1), .val (.int p2), .val (.int (4 : Int32)), .val (.ref b2), .unset] [(.int ((128 : Int32) ||| (4 : Int32))), (.int (1 : Int32)), (.ref b2)])) _
    rw [show ((128 : Int32) ||| (4 : Int32)) = (132 : Int32) from by decide]
    show Steps p.tables e below (T4.setTop (mkF m 51 #[.val (.int p1), .val (.int p2), .val (.int (4 : Int32)), .val (.ref b2), .unset] [(.int (132 : Int32)), (.int (1 : Int32)), (.ref b2)])) _
    refine XS.i2b X4.here hx rfl (hb hby d1_51) rfl ?_
    show Steps p.tables e below (T4.setTop (mkF m 52 #[.val (.int p1), .val (.int p2), .val (.int (4 : Int32)), .val (.ref b2), .unset] [(.int ((132 : Int32).toInt8.toInt32)), (.int (1 : Int32)), (.ref b2)])) _
    refine st6 _ ?_
    show Steps p.tables e below (T6.setTop (mkF m 53 #[.val (.int p1), .val (.int p2), .val (.int (4 : Int32)), .val (.ref b2), .unset] [])) _
    refine XS.iconst X6.here hx rfl (hb hby d1_53) ?_
    show Steps p.tables e below (T6.setTop (mkF m 54 #[.val (.int p1), .val (.int p2), .val (.int (4 : Int32)), .val (.ref b2), .unset] [(.int (0 : Int32))])) _
    refine XS.istore X6.here hx rfl (hb hby d1_54) rfl (l' := #[.val (.int p1), .val (.int p2), .val (.int (4 : Int32)), .val (.ref b2), .val (.int (0 : Int32))]) rfl ?_
    show Steps p.tables e below (T6.setTop (mkF m 56 #[.val (.int p1), .val (.int p2), .val (.int (4 : Int32)), .val (.ref b2), .val (.int (0 : Int32))] [])) _
    refine XS.iload X6.here hx rfl (hb hby d1_56) rfl ?_
    show Steps p.tables e below (T6.setTop (mkF m 58 #[.val (.int p1), .val (.int p2), .val (.int (4 : Int32)), .val (.ref b2), .val (.int (0 : Int32))] [(.int (0 : Int32))])) _
    refine XS.iloadN X6.here hx rfl (hb hby d1_58) rfl ?_
    show Steps p.tables e below (T6.setTop (mkF m 59 #[.val (.int p1), .val (.int p2), .val (.int (4 : Int32)), .val (.ref b2), .val (.int (0 : Int32))] [(.int (4 : Int32)), (.int (0 : Int32))])) _
    refine XS.icmpNo X6.here hx rfl (hb hby d1_59) rfl (tlt ((by decide) : (0 : Int32) < (4 : Int32))).2.1 ?_
    show Steps p.tables e below (T6.setTop (mkF m 62 #[.val (.int p1), .val (.int p2), .val (.int (4 : Int32)), .val (.ref b2), .val (.int (0 : Int32))] [])) _
    refine XS.aloadN X6.here hx rfl (hb hby d1_62) rfl rfl ?_
    show Steps p.tables e below (T6.setTop (mkF m 63 #[.val (.int p1), .val (.int p2), .val (.int (4 : Int32)), .val (.ref b2), .val (.int (0 : Int32))] [(.ref b2)])) _
    refine XS.iconst X6.here hx rfl (hb hby d1_63) ?_
    show Steps p.tables e below (T6.setTop (mkF m 64 #[.val (.int p1), .val (.int p2), .val (.int (4 : Int32)), .val (.ref b2), .val (.int (0 : Int32))] [(.int (2 : Int32)), (.ref b2)])) _
    refine XS.iload X6.here hx rfl (hb hby d1_64) rfl ?_
    show Steps p.tables e below (T6.setTop (mkF m 66 #[.val (.int p1), .val (.int p2), .val (.int (4 : Int32)), .val (.ref b2), .val (.int (0 : Int32))] [(.int (0 : Int32)), (.int (2 : Int32)), (.ref b2)])) _
    refine XS.iadd X6.here hx rfl (hb hby d1_66) rfl ?_
    show Steps p.tables e below (T6.setTop (mkF m 67 #[.val (.int p1), .val (.int p2), .val (.int (4 : Int32)), .val (.ref b2), .val (.int (0 : Int32))] [(.int ((2 : Int32) + (0 : Int32))), (.ref b2)])) _
    rw [show ((2 : Int32) + (0 : Int32)) = (2 : Int32) from by decide]
    show Steps p.tables e below (T6.setTop (mkF m 67 #[.val (.int p1), .val (.int p2), .val (.int (4 : Int32)), .val (.ref b2), .val (.int (0 : Int32))] [(.int (2 : Int32)), (.ref b2)])) _
    refine XS.iloadN X6.here hx rfl (hb hby d1_67) rfl ?_
    show Steps p.tables e below (T6.setTop (mkF m 68 #[.val (.int p1), .val (.int p2), .val (.int (4 : Int32)), .val (.ref b2), .val (.int (0 : Int32))] [(.int p2), (.int (2 : Int32)), (.ref b2)])) _
    refine XS.iloadN X6.here hx rfl (hb hby d1_68) rfl ?_
    show Steps p.tables e below (T6.setTop (mkF m 69 #[.val (.int p1), .val (.int p2), .val (.int (4 : Int32)), .val (.ref b2), .val (.int (0 : Int32))] [(.int (4 : Int32)), (.int p2), (.int (2 : Int32)), (.ref b2)])) _
    refine XS.iconst X6.here hx rfl (hb hby d1_69) ?_
    show Steps p.tables e below (T6.setTop (mkF m 70 #[.val (.int p1), .val (.int p2), .val (.int (4 : Int32)), .val (.ref b2), .val (.int (0 : Int32))] [(.int (1 : Int32)), (.int (4 : Int32)), (.int p2), (.int (2 : Int32)), (.ref b2)])) _
    refine XS.isub X6.here hx rfl (hb hby d1_70) rfl ?_
    show Steps p.tables e below (T6.setTop (mkF m 71 #[.val (.int p1), .val (.int p2), .val (.int (4 : Int32)), .val (.ref b2), .val (.int (0 : Int32))] [(.int ((4 : Int32) - (1 : Int32))), (.int p2), (.int (2 : Int32)), (.ref b2)])) _
    rw [show ((4 : Int32) - (1 : Int32)) = (3 : Int32) from by decide]
    show Steps p.tables e below (T6.setTop (mkF m 71 #[.val (.int p1), .val (.int p2), .val (.int (4 : Int32)), .val (.ref b2), .val (.int (0 : Int32))] [(.int (3 : Int32)), (.int p2), (.int (2 : Int32)), (.ref b2)])) _
    refine XS.iload X6.here hx rfl (hb hby d1_71) rfl ?_
    show Steps p.tables e below (T6.setTop (mkF m 73 #[.val (.int p1), .val (.int p2), .val (.int (4 : Int32)), .val (.ref b2), .val (.int (0 : Int32))] [(.int (0 : Int32)), (.int (3 : Int32)), (.int p2), (.int (2 : Int32)), (.ref b2)])) _
    refine XS.isub X6.here hx rfl (hb hby d1_73) rfl ?_
    show Steps p.tables e below (T6.setTop (mkF m 74 #[.val (.int p1), .val (.int p2), .val (.int (4 : Int32)), .val (.ref b2), .val (.int (0 : Int32))] [(.int ((3 : Int32) - (0 : Int32))), (.int p2), (.int (2 : Int32)), (.ref b2)])) _
    rw [show ((3 : Int32) - (0 : Int32)) = (3 : Int32) from by decide]
    show Steps p.tables e below (T6.setTop (mkF m 74 #[.val (.int p1), .val (.int p2), .val (.int (4 : Int32)), .val (.ref b2), .val (.int (0 : Int32))] [(.int (3 : Int32)), (.int p2), (.int (2 : Int32)), (.ref b2)])) _
    refine XS.bipush X6.here hx rfl (hb hby d1_74) ?_
    show Steps p.tables e below (T6.setTop (mkF m 76 #[.val (.int p1), .val (.int p2), .val (.int (4 : Int32)), .val (.ref b2), .val (.int (0 : Int32))] [(.int (8 : Int32)), (.int (3 : Int32)), (.int p2), (.int (2 : Int32)), (.ref b2)])) _
    refine XS.imul X6.here hx rfl (hb hby d1_76) rfl ?_
    show Steps p.tables e below (T6.setTop (mkF m 77 #[.val (.int p1), .val (.int p2), .val (.int (4 : Int32)), .val (.ref b2), .val (.int (0 : Int32))] [(.int ((3 : Int32) * (8 : Int32))), (.int p2), (.int (2 : Int32)), (.ref b2)])) _
    rw [show ((3 : Int32) * (8 : Int32)) = (24 : Int32) from by decide]
    show Steps p.tables e below (T6.setTop (mkF m 77 #[.val (.int p1), .val (.int p2), .val (.int (4 : Int32)), .val (.ref b2), .val (.int (0 : Int32))] [(.int (24 : Int32)), (.int p2), (.int (2 : Int32)), (.ref b2)])) _
    refine XS.iushr X6.here hx rfl (hb hby d1_77) rfl ?_
    show Steps p.tables e below (T6.setTop (mkF m 78 #[.val (.int p1), .val (.int p2), .val (.int (4 : Int32)), .val (.ref b2), .val (.int (0 : Int32))] [(.int ((p2.toUInt32 >>> ((24 : Int32) &&& 31).toUInt32).toInt32)), (.int (2 : Int32)), (.ref b2)])) _
    refine XS.i2b X6.here hx rfl (hb hby d1_78) rfl ?_
    show Steps p.tables e below (T6.setTop (mkF m 79 #[.val (.int p1), .val (.int p2), .val (.int (4 : Int32)), .val (.ref b2), .val (.int (0 : Int32))] [(.int (((p2.toUInt32 >>> ((24 : Int32) &&& 31).toUInt32).toInt32).toInt8.toInt32)), (.int (2 : Int32)), (.ref b2)])) _
    refine st8 _ ?_
    show Steps p.tables e below (T8.setTop (mkF m 80 #[.val (.int p1), .val (.int p2), .val (.int (4 : Int32)), .val (.ref b2), .val (.int (0 : Int32))] [])) _
    refine XS.iinc X8.here hx rfl (hb hby d1_80) rfl (l' := #[.val (.int p1), .val (.int p2), .val (.int (4 : Int32)), .val (.ref b2), .val (.int ((0 : Int32) + (1 : Int32)))]) rfl ?_
    show Steps p.tables e below (T8.setTop (mkF m 83 #[.val (.int p1), .val (.int p2), .val (.int (4 : Int32)), .val (.ref b2), .val (.int ((0 : Int32) + (1 : Int32)))] [])) _
    rw [show ((0 : Int32) + (1 : Int32)) = (1 : Int32) from by decide]
    show Steps p.tables e below (T8.setTop (mkF m 83 #[.val (.int p1), .val (.int p2), .val (.int (4 : Int32)), .val (.ref b2), .val (.int (1 : Int32))] [])) _
    refine XS.goto X8.here hx rfl (pc0 := 83) (pc' := 56) rfl (hb hby d1_83) (by decide) (by decide) ?_
    show Steps p.tables e below (T8.setTop (mkF m 56 #[.val (.int p1), .val (.int p2), .val (.int (4 : Int32)), .val (.ref b2), .val (.int (1 : Int32))] [])) _
    refine XS.iload X8.here hx rfl (hb hby d1_56) rfl ?_
    show Steps p.tables e below (T8.setTop (mkF m 58 #[.val (.int p1), .val (.int p2), .val (.int (4 : Int32)), .val (.ref b2), .val (.int (1 : Int32))] [(.int (1 : Int32))])) _
    refine XS.iloadN X8.here hx rfl (hb hby d1_58) rfl ?_
    show Steps p.tables e below (T8.setTop (mkF m 59 #[.val (.int p1), .val (.int p2), .val (.int (4 : Int32)), .val (.ref b2), .val (.int (1 : Int32))] [(.int (4 : Int32)), (.int (1 : Int32))])) _
    refine XS.icmpNo X8.here hx rfl (hb hby d1_59) rfl (tlt ((by decide) : (1 : Int32) < (4 : Int32))).2.1 ?_
    show Steps p.tables e below (T8.setTop (mkF m 62 #[.val (.int p1), .val (.int p2), .val (.int (4 : Int32)), .val (.ref b2), .val (.int (1 : Int32))] [])) _
    refine XS.aloadN X8.here hx rfl (hb hby d1_62) rfl rfl ?_
    show Steps p.tables e below (T8.setTop (mkF m 63 #[.val (.int p1), .val (.int p2), .val (.int (4 : Int32)), .val (.ref b2), .val (.int (1 : Int32))] [(.ref b2)])) _
    refine XS.iconst X8.here hx rfl (hb hby d1_63) ?_
    show Steps p.tables e below (T8.setTop (mkF m 64 #[.val (.int p1), .val (.int p2), .val (.int (4 : Int32)), .val (.ref b2), .val (.int (1 : Int32))] [(.int (2 : Int32)), (.ref b2)])) _
    refine XS.iload X8.here hx rfl (hb hby d1_64) rfl ?_
    show Steps p.tables e below (T8.setTop (mkF m 66 #[.val (.int p1), .val (.int p2), .val (.int (4 : Int32)), .val (.ref b2), .val (.int (1 : Int32))] [(.int (1 : Int32)), (.int (2 : Int32)), (.ref b2)])) _
    refine XS.iadd X8.here hx rfl (hb hby d1_66) rfl ?_
    show Steps p.tables e below (T8.setTop (mkF m 67 #[.val (.int p1), .val (.int p2), .val (.int (4 : Int32)), .val (.ref b2), .val (.int (1 : Int32))] [(.int ((2 : Int32) + (1 : Int32))), (.ref b2)])) _
    rw [show ((2 : Int32) + (1 : Int32)) = (3 : Int32) from by decide]
    show Steps p.tables e below (T8.setTop (mkF m 67 #[.val (.int p1), .val (.int p2), .val (.int (4 : Int32)), .val (.ref b2), .val (.int (1 : Int32))] [(.int (3 : Int32)), (.ref b2)])) _
    refine XS.iloadN X8.here hx rfl (hb hby d1_67) rfl ?_
    show Steps p.tables e below (T8.setTop (mkF m 68 #[.val (.int p1), .val (.int p2), .val (.int (4 : Int32)), .val (.ref b2), .val (.int (1 : Int32))] [(.int p2), (.int (3 : Int32)), (.ref b2)])) _
    refine XS.iloadN X8.here hx rfl (hb hby d1_68) rfl ?_
    show Steps p.tables e below (T8.setTop (mkF m 69 #[.val (.int p1), .val (.int p2), .val (.int (4 : Int32)), .val (.ref b2), .val (.int (1 : Int32))] [(.int (4 : Int32)), (.int p2), (.int (3 : Int32)), (.ref b2)])) _
    refine XS.iconst X8.here hx rfl (hb hby d1_69) ?_
    show Steps p.tables e below (T8.setTop (mkF m 70 #[.val (.int p1), .val (.int p2), .val (.int (4 : Int32)), .val (.ref b2), .val (.int (1 : Int32))] [(.int (1 : Int32)), (.int (4 : Int32)), (.int p2), (.int (3 : Int32)), (.ref b2)])) _
    refine XS.isub X8.here hx rfl (hb hby d1_70) rfl ?_
    show Steps p.tables e below (T8.setTop (mkF m 71 #[.val (.int p1), .val (.int p2), .val (.int (4 : Int32)), .val (.ref b2), .val (.int (1 : Int32))] [(.int ((4 : Int32) - (1 : Int32))), (.int p2), (.int (3 : Int32)), (.ref b2)])) _
    rw [show ((4 : Int32) - (1 : Int32)) = (3 : Int32) from by decide]
    show Steps p.tables e below (T8.setTop (mkF m 71 #[.val (.int p1), .val (.int p2), .val (.int (4 : Int32)), .val (.ref b2), .val (.int (1 : Int32))] [(.int (3 : Int32)), (.int p2), (.int (3 : Int32)), (.ref b2)])) _
    refine XS.iload X8.here hx rfl (hb hby d1_71) rfl ?_
    show Steps p.tables e below (T8.setTop (mkF m 73 #[.val (.int p1), .val (.int p2), .val (.int (4 : Int32)), .val (.ref b2), .val (.int (1 : Int32))] [(.int (1 : Int32)), (.int (3 : Int32)), (.int p2), (.int (3 : Int32)), (.ref b2)])) _
    refine XS.isub X8.here hx rfl (hb hby d1_73) rfl ?_
    show Steps p.tables e below (T8.setTop (mkF m 74 #[.val (.int p1), .val (.int p2), .val (.int (4 : Int32)), .val (.ref b2), .val (.int (1 : Int32))] [(.int ((3 : Int32) - (1 : Int32))), (.int p2), (.int (3 : Int32)), (.ref b2)])) _
    rw [show ((3 : Int32) - (1 : Int32)) = (2 : Int32) from by decide]
    show Steps p.tables e below (T8.setTop (mkF m 74 #[.val (.int p1), .val (.int p2), .val (.int (4 : Int32)), .val (.ref b2), .val (.int (1 : Int32))] [(.int (2 : Int32)), (.int p2), (.int (3 : Int32)), (.ref b2)])) _
    refine XS.bipush X8.here hx rfl (hb hby d1_74) ?_
    show Steps p.tables e below (T8.setTop (mkF m 76 #[.val (.int p1), .val (.int p2), .val (.int (4 : Int32)), .val (.ref b2), .val (.int (1 : Int32))] [(.int (8 : Int32)), (.int (2 : Int32)), (.int p2), (.int (3 : Int32)), (.ref b2)])) _
    refine XS.imul X8.here hx rfl (hb hby d1_76) rfl ?_
    show Steps p.tables e below (T8.setTop (mkF m 77 #[.val (.int p1), .val (.int p2), .val (.int (4 : Int32)), .val (.ref b2), .val (.int (1 : Int32))] [(.int ((2 : Int32) * (8 : Int32))), (.int p2), (.int (3 : Int32)), (.ref b2)])) _
    rw [show ((2 : Int32) * (8 : Int32)) = (16 : Int32) from by decide]
    show Steps p.tables e below (T8.setTop (mkF m 77 #[.val (.int p1), .val (.int p2), .val (.int (4 : Int32)), .val (.ref b2), .val (.int (1 : Int32))] [(.int (16 : Int32)), (.int p2), (.int (3 : Int32)), (.ref b2)])) _
    refine XS.iushr X8.here hx rfl (hb hby d1_77) rfl ?_
    show Steps p.tables e below (T8.setTop (mkF m 78 #[.val (.int p1), .val (.int p2), .val (.int (4 : Int32)), .val (.ref b2), .val (.int (1 : Int32))] [(.int ((p2.toUInt32 >>> ((16 : Int32) &&& 31).toUInt32).toInt32)), (.int (3 : Int32)), (.ref b2)])) _
    refine XS.i2b X8.here hx rfl (hb hby d1_78) rfl ?_
    show Steps p.tables e below (T8.setTop (mkF m 79 #[.val (.int p1), .val (.int p2), .val (.int (4 : Int32)), .val (.ref b2), .val (.int (1 : Int32))] [(.int (((p2.toUInt32 >>> ((16 : Int32) &&& 31).toUInt32).toInt32).toInt8.toInt32)), (.int (3 : Int32)), (.ref b2)])) _
    refine st10 _ ?_
    show Steps p.tables e below (T10.setTop (mkF m 80 #[.val (.int p1), .val (.int p2), .val (.int (4 : Int32)), .val (.ref b2), .val (.int (1 : Int32))] [])) _
    refine XS.iinc X10.here hx rfl (hb hby d1_80) rfl (l' := #[.val (.int p1), .val (.int p2), .val (.int (4 : Int32)), .val (.ref b2), .val (.int ((1 : Int32) + (1 : Int32)))]) rfl ?_
    show Steps p.tables e below (T10.setTop (mkF m 83 #[.val (.int p1), .val (.int p2), .val (.int (4 : Int32)), .val (.ref b2), .val (.int ((1 : Int32) + (1 : Int32)))] [])) _
    rw [show ((1 : Int32) + (1 : Int32)) = (2 : Int32) from by decide]
    show Steps p.tables e below (T10.setTop (mkF m 83 #[.val (.int p1), .val (.int p2), .val (.int (4 : Int32)), .val (.ref b2), .val (.int (2 : Int32))] [])) _
    refine XS.goto X10.here hx rfl (pc0 := 83) (pc' := 56) rfl (hb hby d1_83) (by decide) (by decide) ?_
    show Steps p.tables e below (T10.setTop (mkF m 56 #[.val (.int p1), .val (.int p2), .val (.int (4 : Int32)), .val (.ref b2), .val (.int (2 : Int32))] [])) _
    refine XS.iload X10.here hx rfl (hb hby d1_56) rfl ?_
    show Steps p.tables e below (T10.setTop (mkF m 58 #[.val (.int p1), .val (.int p2), .val (.int (4 : Int32)), .val (.ref b2), .val (.int (2 : Int32))] [(.int (2 : Int32))])) _
    refine XS.iloadN X10.here hx rfl (hb hby d1_58) rfl ?_
    show Steps p.tables e below (T10.setTop (mkF m 59 #[.val (.int p1), .val (.int p2), .val (.int (4 : Int32)), .val (.ref b2), .val (.int (2 : Int32))] [(.int (4 : Int32)), (.int (2 : Int32))])) _
    refine XS.icmpNo X10.here hx rfl (hb hby d1_59) rfl (tlt ((by decide) : (2 : Int32) < (4 : Int32))).2.1 ?_
    show Steps p.tables e below (T10.setTop (mkF m 62 #[.val (.int p1), .val (.int p2), .val (.int (4 : Int32)), .val (.ref b2), .val (.int (2 : Int32))] [])) _
    refine XS.aloadN X10.here hx rfl (hb hby d1_62) rfl rfl ?_
    show Steps p.tables e below (T10.setTop (mkF m 63 #[.val (.int p1), .val (.int p2), .val (.int (4 : Int32)), .val (.ref b2), .val (.int (2 : Int32))] [(.ref b2)])) _
    refine XS.iconst X10.here hx rfl (hb hby d1_63) ?_
    show Steps p.tables e below (T10.setTop (mkF m 64 #[.val (.int p1), .val (.int p2), .val (.int (4 : Int32)), .val (.ref b2), .val (.int (2 : Int32))] [(.int (2 : Int32)), (.ref b2)])) _
    refine XS.iload X10.here hx rfl (hb hby d1_64) rfl ?_
    show Steps p.tables e below (T10.setTop (mkF m 66 #[.val (.int p1), .val (.int p2), .val (.int (4 : Int32)), .val (.ref b2), .val (.int (2 : Int32))] [(.int (2 : Int32)), (.int (2 : Int32)), (.ref b2)])) _
    refine XS.iadd X10.here hx rfl (hb hby d1_66) rfl ?_
    show Steps p.tables e below (T10.setTop (mkF m 67 #[.val (.int p1), .val (.int p2), .val (.int (4 : Int32)), .val (.ref b2), .val (.int (2 : Int32))] [(.int ((2 : Int32) + (2 : Int32))), (.ref b2)])) _
    rw [show ((2 : Int32) + (2 : Int32)) = (4 : Int32) from by decide]
    show Steps p.tables e below (T10.setTop (mkF m 67 #[.val (.int p1), .val (.int p2), .val (.int (4 : Int32)), .val (.ref b2), .val (.int (2 : Int32))] [(.int (4 : Int32)), (.ref b2)])) _
    refine XS.iloadN X10.here hx rfl (hb hby d1_67) rfl ?_
    show Steps p.tables e below (T10.setTop (mkF m 68 #[.val (.int p1), .val (.int p2), .val (.int (4 : Int32)), .val (.ref b2), .val (.int (2 : Int32))] [(.int p2), (.int (4 : Int32)), (.ref b2)])) _
    refine XS.iloadN X10.here hx rfl (hb hby d1_68) rfl ?_
    show Steps p.tables e below (T10.setTop (mkF m 69 #[.val (.int p1), .val (.int p2), .val (.int (4 : Int32)), .val (.ref b2), .val (.int (2 : Int32))] [(.int (4 : Int32)), (.int p2), (.int (4 : Int32)), (.ref b2)])) _
    refine XS.iconst X10.here hx rfl (hb hby d1_69) ?_
    show Steps p.tables e below (T10.setTop (mkF m 70 #[.val (.int p1), .val (.int p2), .val (.int (4 : Int32)), .val (.ref b2), .val (.int (2 : Int32))] [(.int (1 : Int32)), (.int (4 : Int32)), (.int p2), (.int (4 : Int32)), (.ref b2)])) _
    refine XS.isub X10.here hx rfl (hb hby d1_70) rfl ?_
    show Steps p.tables e below (T10.setTop (mkF m 71 #[.val (.int p1), .val (.int p2), .val (.int (4 : Int32)), .val (.ref b2), .val (.int (2 : Int32))] [(.int ((4 : Int32) - (1 : Int32))), (.int p2), (.int (4 : Int32)), (.ref b2)])) _
    rw [show ((4 : Int32) - (1 : Int32)) = (3 : Int32) from by decide]
    show Steps p.tables e below (T10.setTop (mkF m 71 #[.val (.int p1), .val (.int p2), .val (.int (4 : Int32)), .val (.ref b2), .val (.int (2 : Int32))] [(.int (3 : Int32)), (.int p2), (.int (4 : Int32)), (.ref b2)])) _
    refine XS.iload X10.here hx rfl (hb hby d1_71) rfl ?_
    show Steps p.tables e below (T10.setTop (mkF m 73 #[.val (.int p1), .val (.int p2), .val (.int (4 : Int32)), .val (.ref b2), .val (.int (2 : Int32))] [(.int (2 : Int32)), (.int (3 : Int32)), (.int p2), (.int (4 : Int32)), (.ref b2)])) _
    refine XS.isub X10.here hx rfl (hb hby d1_73) rfl ?_
    show Steps p.tables e below (T10.setTop (mkF m 74 #[.val (.int p1), .val (.int p2), .val (.int (4 : Int32)), .val (.ref b2), .val (.int (2 : Int32))] [(.int ((3 : Int32) - (2 : Int32))), (.int p2), (.int (4 : Int32)), (.ref b2)])) _
    rw [show ((3 : Int32) - (2 : Int32)) = (1 : Int32) from by decide]
    show Steps p.tables e below (T10.setTop (mkF m 74 #[.val (.int p1), .val (.int p2), .val (.int (4 : Int32)), .val (.ref b2), .val (.int (2 : Int32))] [(.int (1 : Int32)), (.int p2), (.int (4 : Int32)), (.ref b2)])) _
    refine XS.bipush X10.here hx rfl (hb hby d1_74) ?_
    show Steps p.tables e below (T10.setTop (mkF m 76 #[.val (.int p1), .val (.int p2), .val (.int (4 : Int32)), .val (.ref b2), .val (.int (2 : Int32))] [(.int (8 : Int32)), (.int (1 : Int32)), (.int p2), (.int (4 : Int32)), (.ref b2)])) _
    refine XS.imul X10.here hx rfl (hb hby d1_76) rfl ?_
    show Steps p.tables e below (T10.setTop (mkF m 77 #[.val (.int p1), .val (.int p2), .val (.int (4 : Int32)), .val (.ref b2), .val (.int (2 : Int32))] [(.int ((1 : Int32) * (8 : Int32))), (.int p2), (.int (4 : Int32)), (.ref b2)])) _
    rw [show ((1 : Int32) * (8 : Int32)) = (8 : Int32) from by decide]
    show Steps p.tables e below (T10.setTop (mkF m 77 #[.val (.int p1), .val (.int p2), .val (.int (4 : Int32)), .val (.ref b2), .val (.int (2 : Int32))] [(.int (8 : Int32)), (.int p2), (.int (4 : Int32)), (.ref b2)])) _
    refine XS.iushr X10.here hx rfl (hb hby d1_77) rfl ?_
    show Steps p.tables e below (T10.setTop (mkF m 78 #[.val (.int p1), .val (.int p2), .val (.int (4 : Int32)), .val (.ref b2), .val (.int (2 : Int32))] [(.int ((p2.toUInt32 >>> ((8 : Int32) &&& 31).toUInt32).toInt32)), (.int (4 : Int32)), (.ref b2)])) _
    refine XS.i2b X10.here hx rfl (hb hby d1_78) rfl ?_
    show Steps p.tables e below (T10.setTop (mkF m 79 #[.val (.int p1), .val (.int p2), .val (.int (4 : Int32)), .val (.ref b2), .val (.int (2 : Int32))] [(.int (((p2.toUInt32 >>> ((8 : Int32) &&& 31).toUInt32).toInt32).toInt8.toInt32)), (.int (4 : Int32)), (.ref b2)])) _
    refine st12 _ ?_
    show Steps p.tables e below (T12.setTop (mkF m 80 #[.val (.int p1), .val (.int p2), .val (.int (4 : Int32)), .val (.ref b2), .val (.int (2 : Int32))] [])) _
    refine XS.iinc X12.here hx rfl (hb hby d1_80) rfl (l' := #[.val (.int p1), .val (.int p2), .val (.int (4 : Int32)), .val (.ref b2), .val (.int ((2 : Int32) + (1 : Int32)))]) rfl ?_
    show Steps p.tables e below (T12.setTop (mkF m 83 #[.val (.int p1), .val (.int p2), .val (.int (4 : Int32)), .val (.ref b2), .val (.int ((2 : Int32) + (1 : Int32)))] [])) _
    rw [show ((2 : Int32) + (1 : Int32)) = (3 : Int32) from by decide]
    show Steps p.tables e below (T12.setTop (mkF m 83 #[.val (.int p1), .val (.int p2), .val (.int (4 : Int32)), .val (.ref b2), .val (.int (3 : Int32))] [])) _
    refine XS.goto X12.here hx rfl (pc0 := 83) (pc' := 56) rfl (hb hby d1_83) (by decide) (by decide) ?_
    show Steps p.tables e below (T12.setTop (mkF m 56 #[.val (.int p1), .val (.int p2), .val (.int (4 : Int32)), .val (.ref b2), .val (.int (3 : Int32))] [])) _
    refine XS.iload X12.here hx rfl (hb hby d1_56) rfl ?_
    show Steps p.tables e below (T12.setTop (mkF m 58 #[.val (.int p1), .val (.int p2), .val (.int (4 : Int32)), .val (.ref b2), .val (.int (3 : Int32))] [(.int (3 : Int32))])) _
    refine XS.iloadN X12.here hx rfl (hb hby d1_58) rfl ?_
    show Steps p.tables e below (T12.setTop (mkF m 59 #[.val (.int p1), .val (.int p2), .val (.int (4 : Int32)), .val (.ref b2), .val (.int (3 : Int32))] [(.int (4 : Int32)), (.int (3 : Int32))])) _
    refine XS.icmpNo X12.here hx rfl (hb hby d1_59) rfl (tlt ((by decide) : (3 : Int32) < (4 : Int32))).2.1 ?_
    show Steps p.tables e below (T12.setTop (mkF m 62 #[.val (.int p1), .val (.int p2), .val (.int (4 : Int32)), .val (.ref b2), .val (.int (3 : Int32))] [])) _
    refine XS.aloadN X12.here hx rfl (hb hby d1_62) rfl rfl ?_
    show Steps p.tables e below (T12.setTop (mkF m 63 #[.val (.int p1), .val (.int p2), .val (.int (4 : Int32)), .val (.ref b2), .val (.int (3 : Int32))] [(.ref b2)])) _
    refine XS.iconst X12.here hx rfl (hb hby d1_63) ?_
    show Steps p.tables e below (T12.setTop (mkF m 64 #[.val (.int p1), .val (.int p2), .val (.int (4 : Int32)), .val (.ref b2), .val (.int (3 : Int32))] [(.int (2 : Int32)), (.ref b2)])) _
    refine XS.iload X12.here hx rfl (hb hby d1_64) rfl ?_
    show Steps p.tables e below (T12.setTop (mkF m 66 #[.val (.int p1), .val (.int p2), .val (.int (4 : Int32)), .val (.ref b2), .val (.int (3 : Int32))] [(.int (3 : Int32)), (.int (2 : Int32)), (.ref b2)])) _
    refine XS.iadd X12.here hx rfl (hb hby d1_66) rfl ?_
    show Steps p.tables e below (T12.setTop (mkF m 67 #[.val (.int p1), .val (.int p2), .val (.int (4 : Int32)), .val (.ref b2), .val (.int (3 : Int32))] [(.int ((2 : Int32) + (3 : Int32))), (.ref b2)])) _
    rw [show ((2 : Int32) + (3 : Int32)) = (5 : Int32) from by decide]
    show Steps p.tables e below (T12.setTop (mkF m 67 #[.val (.int p1), .val (.int p2), .val (.int (4 : Int32)), .val (.ref b2), .val (.int (3 : Int32))] [(.int (5 : Int32)), (.ref b2)])) _
    refine XS.iloadN X12.here hx rfl (hb hby d1_67) rfl ?_
    show Steps p.tables e below (T12.setTop (mkF m 68 #[.val (.int p1), .val (.int p2), .val (.int (4 : Int32)), .val (.ref b2), .val (.int (3 : Int32))] [(.int p2), (.int (5 : Int32)), (.ref b2)])) _
    refine XS.iloadN X12.here hx rfl (hb hby d1_68) rfl ?_
    show Steps p.tables e below (T12.setTop (mkF m 69 #[.val (.int p1), .val (.int p2), .val (.int (4 : Int32)), .val (.ref b2), .val (.int (3 : Int32))] [(.int (4 : Int32)), (.int p2), (.int (5 : Int32)), (.ref b2)])) _
    refine XS.iconst X12.here hx rfl (hb hby d1_69) ?_
    show Steps p.tables e below (T12.setTop (mkF m 70 #[.val (.int p1), .val (.int p2), .val (.int (4 : Int32)), .val (.ref b2), .val (.int (3 : Int32))] [(.int (1 : Int32)), (.int (4 : Int32)), (.int p2), (.int (5 : Int32)), (.ref b2)])) _
    refine XS.isub X12.here hx rfl (hb hby d1_70) rfl ?_
    show Steps p.tables e below (T12.setTop (mkF m 71 #[.val (.int p1), .val (.int p2), .val (.int (4 : Int32)), .val (.ref b2), .val (.int (3 : Int32))] [(.int ((4 : Int32) - (1 : Int32))), (.int p2), (.int (5 : Int32)), (.ref b2)])) _
    rw [show ((4 : Int32) - (1 : Int32)) = (3 : Int32) from by decide]
    show Steps p.tables e below (T12.setTop (mkF m 71 #[.val (.int p1), .val (.int p2), .val (.int (4 : Int32)), .val (.ref b2), .val (.int (3 : Int32))] [(.int (3 : Int32)), (.int p2), (.int (5 : Int32)), (.ref b2)])) _
    refine XS.iload X12.here hx rfl (hb hby d1_71) rfl ?_
    show Steps p.tables e below (T12.setTop (mkF m 73 #[.val (.int p1), .val (.int p2), .val (.int (4 : Int32)), .val (.ref b2), .val (.int (3 : Int32))] [(.int (3 : Int32)), (.int (3 : Int32)), (.int p2), (.int (5 : Int32)), (.ref b2)])) _
    refine XS.isub X12.here hx rfl (hb hby d1_73) rfl ?_
    show Steps p.tables e below (T12.setTop (mkF m 74 #[.val (.int p1), .val (.int p2), .val (.int (4 : Int32)), .val (.ref b2), .val (.int (3 : Int32))] [(.int ((3 : Int32) - (3 : Int32))), (.int p2), (.int (5 : Int32)), (.ref b2)])) _
    rw [show ((3 : Int32) - (3 : Int32)) = (0 : Int32) from by decide]
    show Steps p.tables e below (T12.setTop (mkF m 74 #[.val (.int p1), .val (.int p2), .val (.int (4 : Int32)), .val (.ref b2), .val (.int (3 : Int32))] [(.int (0 : Int32)), (.int p2), (.int (5 : Int32)), (.ref b2)])) _
    refine XS.bipush X12.here hx rfl (hb hby d1_74) ?_
    show Steps p.tables e below (T12.setTop (mkF m 76 #[.val (.int p1), .val (.int p2), .val (.int (4 : Int32)), .val (.ref b2), .val (.int (3 : Int32))] [(.int (8 : Int32)), (.int (0 : Int32)), (.int p2), (.int (5 : Int32)), (.ref b2)])) _
    refine XS.imul X12.here hx rfl (hb hby d1_76) rfl ?_
    show Steps p.tables e below (T12.setTop (mkF m 77 #[.val (.int p1), .val (.int p2), .val (.int (4 : Int32)), .val (.ref b2), .val (.int (3 : Int32))] [(.int ((0 : Int32) * (8 : Int32))), (.int p2), (.int (5 : Int32)), (.ref b2)])) _
    rw [show ((0 : Int32) * (8 : Int32)) = (0 : Int32) from by decide]
    show Steps p.tables e below (T12.setTop (mkF m 77 #[.val (.int p1), .val (.int p2), .val (.int (4 : Int32)), .val (.ref b2), .val (.int (3 : Int32))] [(.int (0 : Int32)), (.int p2), (.int (5 : Int32)), (.ref b2)])) _
    refine XS.iushr X12.here hx rfl (hb hby d1_77) rfl ?_
    show Steps p.tables e below (T12.setTop (mkF m 78 #[.val (.int p1), .val (.int p2), .val (.int (4 : Int32)), .val (.ref b2), .val (.int (3 : Int32))] [(.int ((p2.toUInt32 >>> ((0 : Int32) &&& 31).toUInt32).toInt32)), (.int (5 : Int32)), (.ref b2)])) _
    refine XS.i2b X12.here hx rfl (hb hby d1_78) rfl ?_
    show Steps p.tables e below (T12.setTop (mkF m 79 #[.val (.int p1), .val (.int p2), .val (.int (4 : Int32)), .val (.ref b2), .val (.int (3 : Int32))] [(.int (((p2.toUInt32 >>> ((0 : Int32) &&& 31).toUInt32).toInt32).toInt8.toInt32)), (.int (5 : Int32)), (.ref b2)])) _
    refine st14 _ ?_
    show Steps p.tables e below (T14.setTop (mkF m 80 #[.val (.int p1), .val (.int p2), .val (.int (4 : Int32)), .val (.ref b2), .val (.int (3 : Int32))] [])) _
    refine XS.iinc X14.here hx rfl (hb hby d1_80) rfl (l' := #[.val (.int p1), .val (.int p2), .val (.int (4 : Int32)), .val (.ref b2), .val (.int ((3 : Int32) + (1 : Int32)))]) rfl ?_
    show Steps p.tables e below (T14.setTop (mkF m 83 #[.val (.int p1), .val (.int p2), .val (.int (4 : Int32)), .val (.ref b2), .val (.int ((3 : Int32) + (1 : Int32)))] [])) _
    rw [show ((3 : Int32) + (1 : Int32)) = (4 : Int32) from by decide]
    show Steps p.tables e below (T14.setTop (mkF m 83 #[.val (.int p1), .val (.int p2), .val (.int (4 : Int32)), .val (.ref b2), .val (.int (4 : Int32))] [])) _
    refine XS.goto X14.here hx rfl (pc0 := 83) (pc' := 56) rfl (hb hby d1_83) (by decide) (by decide) ?_
    show Steps p.tables e below (T14.setTop (mkF m 56 #[.val (.int p1), .val (.int p2), .val (.int (4 : Int32)), .val (.ref b2), .val (.int (4 : Int32))] [])) _
    refine XS.iload X14.here hx rfl (hb hby d1_56) rfl ?_
    show Steps p.tables e below (T14.setTop (mkF m 58 #[.val (.int p1), .val (.int p2), .val (.int (4 : Int32)), .val (.ref b2), .val (.int (4 : Int32))] [(.int (4 : Int32))])) _
    refine XS.iloadN X14.here hx rfl (hb hby d1_58) rfl ?_
    show Steps p.tables e below (T14.setTop (mkF m 59 #[.val (.int p1), .val (.int p2), .val (.int (4 : Int32)), .val (.ref b2), .val (.int (4 : Int32))] [(.int (4 : Int32)), (.int (4 : Int32))])) _
    refine XS.icmpYes X14.here hx rfl (pc0 := 59) (pc' := 86) rfl (hb hby d1_59) rfl (flt ((by decide) : ¬ ((4 : Int32) < (4 : Int32)))).2.1 (by decide) (by decide) ?_
    show Steps p.tables e below (T14.setTop (mkF m 86 #[.val (.int p1), .val (.int p2), .val (.int (4 : Int32)), .val (.ref b2), .val (.int (4 : Int32))] [])) _
    refine XS.aloadN X14.here hx rfl (hb hby d1_86) rfl rfl ?_
    show Steps p.tables e below (T14.setTop (mkF m 87 #[.val (.int p1), .val (.int p2), .val (.int (4 : Int32)), .val (.ref b2), .val (.int (4 : Int32))] [(.ref b2)])) _
    jvm_step X14.here [X14.here.top, hx, (hb hby d1_87), X14.method', Bd.returns, Value.isRef, FieldType.isReference]
    first | (intro acts; rw [hr _ acts rfl rfl rfl]) | rw [hr _ _ rfl rfl rfl]
    exact Steps.refl _
  · show QH Z p1 p2 (6 : Int32) [(.int (nar .byte (p1.toInt8.toInt32))), (.int (nar .byte ((132 : Int32).toInt8.toInt32))), (.int (nar .byte (((p2.toUInt32 >>> ((24 : Int32) &&& 31).toUInt32).toInt32).toInt8.toInt32))), (.int (nar .byte (((p2.toUInt32 >>> ((16 : Int32) &&& 31).toUInt32).toInt32).toInt8.toInt32))), (.int (nar .byte (((p2.toUInt32 >>> ((8 : Int32) &&& 31).toUInt32).toInt32).toInt8.toInt32))), (.int (nar .byte (((p2.toUInt32 >>> ((0 : Int32) &&& 31).toUInt32).toInt32).toInt8.toInt32)))] h0 n0 _ T14.heap _
    rw [e14]
    exact ⟨by rw [g2], N14, KC14, ⟨_, (g2 ▸ V14)⟩⟩
def QU (Z : State) (a1 : Addr) (p1 r : Int32) (h0 : Heap) (n0 : Nat) (v : Option Value) (h : Heap) (L : List Loc) : Prop := v = some (.int (r &&& (255 : Int32))) ∧ Fr n0 L ∧ h = h0
theorem d3_0 : decode method_2_code 0 = .ok (.aload_n 0, 1) := by decide +kernel
theorem d3_1 : decode method_2_code 1 = .ok (.iload_n 1, 1) := by decide +kernel
theorem d3_2 : decode method_2_code 2 = .ok (.baload, 1) := by decide +kernel
theorem d3_3 : decode method_2_code 3 = .ok (.sipush 255, 3) := by decide +kernel
theorem d3_6 : decode method_2_code 6 = .ok (.iand, 1) := by decide +kernel
theorem d3_7 : decode method_2_code 7 = .ok (.ireturn, 1) := by decide +kernel
theorem pn_3 : plainName "com/example/rollcall/rollcall/DerElementHeaderPinLaw" = true := by first | (simp [plainName, overriddenIn]; done) | decide +kernel
theorem ef_3 (m : MethodId) (x0 : Addr) (x1 : Int32) : entryFrame m #[(.ref x0), (.int x1)] 2 = mkF m 0 #[.val (.ref x0), .val (.int x1)] [] := by first | (simp [entryFrame, mkF, argsToLocals, Value.category]; done) | rfl
set_option maxRecDepth 65536 in
set_option maxHeartbeats 40000000 in
theorem rmU (l : Launch) (Z : State) (a0 : Array Value) (hw : ∀ d ∈ tables_1, d.before a0 Z = true) (ws : List Jvm.Cond) (a1 : Addr) (p1 r : Int32) (k : ClassId) (nn : Int32) (vs : List Value) (h0 : Heap) (n0 : Nat) (Z0 : n0 ≤ h0.size) (V_a : Arv Z h0 a1 k .byte nn vs (.int (0 : Int32))) (hin : ¬ p1 < 0 ∧ p1 < nn) (hu : vs.getD p1.toNatClampNeg (.int (0 : Int32)) = (.int r)) :
    MetFree l (⟨"com/example/rollcall/rollcall/DerElementHeaderPinLaw", "u", "([BI)I"⟩ : MethodName) (head1 (Jvm.Cond.code (⟨"com/example/rollcall/rollcall/DerElementHeaderPinLaw", "u", "([BI)I"⟩ : MethodName) method_2_code 2 (some .int) :: ws) ({ frames := 0, cells := 0, slots := 0, locals := 0 } : Room)) (fun a U => a = #[(.ref a1), (.int p1)] ∧ Z.Warmed39 U.vm ∧ U.heap = h0) (fun _ _ _ _ _ => True) (fun _ U o U' => ∃ v L, o = .returned v ∧ QU Z a1 p1 r h0 n0 v U'.heap L ∧ FrameEnd U o U' L ({ frames := 0, cells := 0, slots := 0, locals := 0 } : Room).cells ({ frames := 0, cells := 0, slots := 0, locals := 0 } : Room).slots) := by
  refine MetFree.of_bodySF (plainFor_of_name pn_3) hisR ?_
  intro p e s m args below meth c s₁ Bd hml0 hP hK
  obtain ⟨rfl, hZ, hh⟩ := hP
  have hx := Bd.exec
  have hby := Bd.bytes
  have hml : c.maxLocals = 2 := hml0
  have hown : s.vm.findClass "com/example/rollcall/rollcall/DerElementHeaderPinLaw" = some m.cls := findClass_of_methodNamed Bd.named
  have hnm := (name_of_methodNamed Bd.named Bd.method).1
  have X0 : Stand p l e ({ frames := 0, cells := 0, slots := 0, locals := 0 } : Room) s m #[(.ref a1), (.int p1)] below meth c s₁ [] 0 0 := Stand.of_body Bd
  have e0 : s₁.heap = h0 := by rw [← hh, Bd.state]; rfl
  have N0 := Fr.nil n0
  have pre0 : ∀ tz, Steps p.tables e below (s₁.setTop (mkF m 0 #[.val (.ref a1), .val (.int p1)] [])) tz → Steps p.tables e below (s₁.setTop (entryFrame m #[(.ref a1), (.int p1)] 2)) tz := fun tz kz => castTop (ef_3 m a1 p1) kz
  obtain ⟨cl1, Ar1, q1, S1, M1, H1, G1⟩ := id V_a
  have hin1 : ¬ (p1 < 0 ∨ cl1.slots.size ≤ (p1).toNatClampNeg) := inb_of S1 hin
  have hat1 : cl1.slots[(p1).toNatClampNeg]? = some (.int r) := Has.at H1 hin1 hu
  obtain ⟨fs, hr, hrun, hended, hW, hsame⟩ := X0.leave (v := some (.int (r &&& (255 : Int32)))) (fun h => by rw [Bd.returns] at h; cases h)
  refine ⟨_, _, pre0 _ ?_, hrun, hended, _, _, rfl, ?_, ⟨_, rfl⟩, hW, hsame.mono (by decide) (by decide)⟩
  · show Steps p.tables e below (s₁.setTop (mkF m 0 #[.val (.ref a1), .val (.int p1)] [])) _
    refine XS.aloadN X0.here hx rfl (hb hby d3_0) rfl rfl ?_
    show Steps p.tables e below (s₁.setTop (mkF m 1 #[.val (.ref a1), .val (.int p1)] [(.ref a1)])) _
    refine XS.iloadN X0.here hx rfl (hb hby d3_1) rfl ?_
    show Steps p.tables e below (s₁.setTop (mkF m 2 #[.val (.ref a1), .val (.int p1)] [(.int p1), (.ref a1)])) _
    refine X0.baloadBytes hx (j := p1) (v := (.int r)) (by rw [e0]; exact Ar1.1) (State.isArrayOf_alike hZ.alike Ar1.2.1) Ar1.2.2 hin1 hat1 (g := (mkF m 2 #[.val (.ref a1), .val (.int p1)] [(.int p1), (.ref a1)])) rfl rfl (hb hby d3_2) _ ?_
    show Steps p.tables e below (s₁.setTop (mkF m 3 #[.val (.ref a1), .val (.int p1)] [(.int r)])) _
    refine XS.sipush X0.here hx rfl (hb hby d3_3) ?_
    show Steps p.tables e below (s₁.setTop (mkF m 6 #[.val (.ref a1), .val (.int p1)] [(.int (255 : Int32)), (.int r)])) _
    refine XS.iand X0.here hx rfl (hb hby d3_6) rfl ?_
    show Steps p.tables e below (s₁.setTop (mkF m 7 #[.val (.ref a1), .val (.int p1)] [(.int (r &&& (255 : Int32)))])) _
    exact retI X0 hx Bd.returns (hb hby d3_7) hr
  · show QU Z a1 p1 r h0 n0 _ s₁.heap _
    rw [e0]
    exact ⟨rfl, N0, rfl⟩
def Q0 (Z : State) (p1 p2 p3 : Int32) (h0 : Heap) (n0 : Nat) (v : Option Value) (h : Heap) (L : List Loc) : Prop := v = some (.int (1 : Int32)) ∧ Fr n0 L
theorem pd_0_0 : parseMethodDescriptor "(II)[B" = some ⟨[.int, .int], some (.array .byte)⟩ := by decide +kernel
theorem pn_0 : plainName "com/example/rollcall/rollcall/DerElementHeaderPinLaw" = true := by first | (simp [plainName, overriddenIn]; done) | decide +kernel
theorem ef_0 (m : MethodId) (x0 : Int32) (x1 : Int32) (x2 : Int32) : entryFrame m #[(.int x0), (.int x1), (.int x2)] maxLocals = mkF m 0 #[.val (.int x0), .val (.int x1), .val (.int x2), .unset, .unset, .unset, .unset] [] := by first | (simp [entryFrame, mkF, argsToLocals, Value.category, maxLocals]; done) | rfl
set_option maxRecDepth 65536 in
set_option maxHeartbeats 40000000 in
theorem rm0_0 (l : Launch) (Z : State) (a0 : Array Value) (hw : ∀ d ∈ tables_1, d.before a0 Z = true) (ws : List Jvm.Cond) (p1 p2 p3 y : Int32) (h0 : Heap) (n0 : Nat) (Z0 : n0 ≤ h0.size) (hy : (((p2 &&& (2147483647 : Int32)).toUInt32 >>> ((p3 &&& (31 : Int32)) &&& 31).toUInt32).toInt32) = y) (h0y : 0 ≤ y.toInt) (gq1 : y < (128 : Int32)) :
    MetFree l x (head1 (Jvm.Cond.code x code maxLocals ret :: ws) room_1) (fun a U => a = #[(.int p1), (.int p2), (.int p3)] ∧ Z.Warmed39 U.vm ∧ U.heap = h0) (fun _ _ _ _ _ => True) (fun _ U o U' => ∃ v L, o = .returned v ∧ Q0 Z p1 p2 p3 h0 n0 v U'.heap L ∧ FrameEnd U o U' L room_1.cells room_1.slots) := by
  refine MetFree.of_bodySF (plainFor_of_name pn_0) hisR ?_
  intro p e s m args below meth c s₁ Bd hml0 hP hK
  obtain ⟨rfl, hZ, hh⟩ := hP
  have hx := Bd.exec
  have hby := Bd.bytes
  have hml : c.maxLocals = 7 := hml0
  have hown : s.vm.findClass "com/example/rollcall/rollcall/DerElementHeaderPinLaw" = some m.cls := findClass_of_methodNamed Bd.named
  have hnm := (name_of_methodNamed Bd.named Bd.method).1
  have X0 : Stand p l e room_1 s m #[(.int p1), (.int p2), (.int p3)] below meth c s₁ [] 0 0 := Stand.of_body Bd
  have e0 : s₁.heap = h0 := by rw [← hh, Bd.state]; rfl
  have N0 := Fr.nil n0
  have pre0 : ∀ tz, Steps p.tables e below (s₁.setTop (mkF m 0 #[.val (.int p1), .val (.int p2), .val (.int p3), .unset, .unset, .unset, .unset] [])) tz → Steps p.tables e below (s₁.setTop (entryFrame m #[(.int p1), (.int p2), (.int p3)] maxLocals)) tz := fun tz kz => castTop (ef_0 m p1 p2 p3) kz
  obtain ⟨_, _, ⟨T1, L1, k1, n1⟩, -, X1, ⟨Lc1, hQ1, l1, y1, z1⟩, st1⟩ := Jvm.LawKit.callS X0 hx (y := (⟨"com/example/rollcall/rollcall/DerElement", "header", "(II)[B"⟩ : MethodName)) hown (mvT hZ (hw _ (List.mem_of_getElem? (i := 1) rfl))) (mvT hZ (hw _ (List.mem_of_getElem? (i := 2) rfl))) (mvT hZ (hw _ (List.mem_of_getElem? (i := 3) rfl))) (mvT hZ (hw _ (List.mem_of_getElem? (i := 4) rfl))) (by decide) (backOf (W := 0) (rmH0 l Z a0 hw [] p1 y h0 n0 Z0 gq1) hZ (hw _ (List.mem_of_getElem? (i := 4) rfl)) (hw _ (List.mem_of_getElem? (i := 3) rfl)) (by decide) (by decide)) (g := (mkF m 12 #[.val (.int p1), .val (.int p2), .val (.int p3), .val (.int y), .unset, .unset, .unset] [(.int y), (.int p1)])) rfl (by rw [hml]; rfl) (argsL := [(.int p1), (.int y)]) (rest := []) (lenOf pd_0_0 rfl) rfl (by show 2 * 0 + _ ≤ _; exact Nat.le_of_eq rfl) (hb hby at_12) (fun _ _ => ⟨rfl, e0, (by decide : 0 + 1 ≤ _), (by decide : 0 + 2 ≤ _)⟩)
  dsimp only [Pt.U, Pt.locs, Pt.cells, Pt.slots] at X1 l1 y1 z1 st1 hQ1
  subst l1 y1 z1
  obtain ⟨rfl, N1q, K1, kk1, Vt1⟩ := hQ1
  have N1 := Fr.app N0 N1q
  have Z1 : n0 ≤ T1.heap.size := Nat.le_trans Z0 K1.1
  obtain ⟨c1, gc1⟩ : ∃ z, z = h0.size := ⟨_, rfl⟩
  rw [← gc1] at st1 Vt1
  obtain ⟨cl2, Ar2, q2, S2, M2, H2, G2⟩ := id Vt1
  obtain ⟨cl3, Ar3, q3, S3, M3, H3, G3⟩ := id Vt1
  have hin3 : ¬ ((0 : Int32) < 0 ∨ cl3.slots.size ≤ ((0 : Int32)).toNatClampNeg) := inb_of S3 ⟨by decide, by decide⟩
  have hat3 : cl3.slots[((0 : Int32)).toNatClampNeg]? = some (.int (nar .byte (p1.toInt8.toInt32))) := Has.at H3 hin3 rfl
  obtain ⟨cl4, Ar4, q4, S4, M4, H4, G4⟩ := id Vt1
  have hin4 : ¬ ((1 : Int32) < 0 ∨ cl4.slots.size ≤ ((1 : Int32)).toNatClampNeg) := inb_of S4 ⟨by decide, by decide⟩
  have hat4 : cl4.slots[((1 : Int32)).toNatClampNeg]? = some (.int (nar .byte (y.toInt8.toInt32))) := Has.at H4 hin4 rfl
  obtain ⟨fs, hr, hrun, hended, hW, hsame⟩ := X1.leave (v := some (.int (1 : Int32))) (fun h => by rw [Bd.returns] at h; cases h)
  refine ⟨_, _, pre0 _ ?_, hrun, hended, _, _, rfl, ?_, ⟨_, rfl⟩, hW, hsame.mono (by decide) (by decide)⟩
  · show Steps p.tables e below (s₁.setTop (mkF m 0 #[.val (.int p1), .val (.int p2), .val (.int p3), .unset, .unset, .unset, .unset] [])) _
    refine XS.iloadN X0.here hx rfl (hb hby at_0) rfl ?_
    show Steps p.tables e below (s₁.setTop (mkF m 1 #[.val (.int p1), .val (.int p2), .val (.int p3), .unset, .unset, .unset, .unset] [(.int p2)])) _
    refine X0.ldcInt hx hown (mvT hZ (hw _ (List.mem_of_getElem? (i := 0) rfl))) (g := (mkF m 1 #[.val (.int p1), .val (.int p2), .val (.int p3), .unset, .unset, .unset, .unset] [(.int p2)])) rfl (hb hby at_1) _ ?_
    show Steps p.tables e below (s₁.setTop (mkF m 3 #[.val (.int p1), .val (.int p2), .val (.int p3), .unset, .unset, .unset, .unset] [(.int (2147483647 : Int32)), (.int p2)])) _
    refine XS.iand X0.here hx rfl (hb hby at_3) rfl ?_
    show Steps p.tables e below (s₁.setTop (mkF m 4 #[.val (.int p1), .val (.int p2), .val (.int p3), .unset, .unset, .unset, .unset] [(.int (p2 &&& (2147483647 : Int32)))])) _
    refine XS.iloadN X0.here hx rfl (hb hby at_4) rfl ?_
    show Steps p.tables e below (s₁.setTop (mkF m 5 #[.val (.int p1), .val (.int p2), .val (.int p3), .unset, .unset, .unset, .unset] [(.int p3), (.int (p2 &&& (2147483647 : Int32)))])) _
    refine XS.bipush X0.here hx rfl (hb hby at_5) ?_
    show Steps p.tables e below (s₁.setTop (mkF m 7 #[.val (.int p1), .val (.int p2), .val (.int p3), .unset, .unset, .unset, .unset] [(.int (31 : Int32)), (.int p3), (.int (p2 &&& (2147483647 : Int32)))])) _
    refine XS.iand X0.here hx rfl (hb hby at_7) rfl ?_
    show Steps p.tables e below (s₁.setTop (mkF m 8 #[.val (.int p1), .val (.int p2), .val (.int p3), .unset, .unset, .unset, .unset] [(.int (p3 &&& (31 : Int32))), (.int (p2 &&& (2147483647 : Int32)))])) _
    refine XS.iushr X0.here hx rfl (hb hby at_8) rfl ?_
    show Steps p.tables e below (s₁.setTop (mkF m 9 #[.val (.int p1), .val (.int p2), .val (.int p3), .unset, .unset, .unset, .unset] [(.int (((p2 &&& (2147483647 : Int32)).toUInt32 >>> ((p3 &&& (31 : Int32)) &&& 31).toUInt32).toInt32))])) _
    rw [hy]
    show Steps p.tables e below (s₁.setTop (mkF m 9 #[.val (.int p1), .val (.int p2), .val (.int p3), .unset, .unset, .unset, .unset] [(.int y)])) _
    refine XS.istoreN X0.here hx rfl (hb hby at_9) rfl (l' := #[.val (.int p1), .val (.int p2), .val (.int p3), .val (.int y), .unset, .unset, .unset]) rfl ?_
    show Steps p.tables e below (s₁.setTop (mkF m 10 #[.val (.int p1), .val (.int p2), .val (.int p3), .val (.int y), .unset, .unset, .unset] [])) _
    refine XS.iloadN X0.here hx rfl (hb hby at_10) rfl ?_
    show Steps p.tables e below (s₁.setTop (mkF m 11 #[.val (.int p1), .val (.int p2), .val (.int p3), .val (.int y), .unset, .unset, .unset] [(.int p1)])) _
    refine XS.iloadN X0.here hx rfl (hb hby at_11) rfl ?_
    show Steps p.tables e below (s₁.setTop (mkF m 12 #[.val (.int p1), .val (.int p2), .val (.int p3), .val (.int y), .unset, .unset, .unset] [(.int y), (.int p1)])) _
    refine st1 _ ?_
    show Steps p.tables e below (T1.setTop (mkF m 15 #[.val (.int p1), .val (.int p2), .val (.int p3), .val (.int y), .unset, .unset, .unset] [(.ref c1)])) _
    refine XS.astore X1.here hx rfl (hb hby at_15) rfl rfl (l' := #[.val (.int p1), .val (.int p2), .val (.int p3), .val (.int y), .val (.ref c1), .unset, .unset]) rfl ?_
    show Steps p.tables e below (T1.setTop (mkF m 17 #[.val (.int p1), .val (.int p2), .val (.int p3), .val (.int y), .val (.ref c1), .unset, .unset] [])) _
    refine XS.iloadN X1.here hx rfl (hb hby at_17) rfl ?_
    show Steps p.tables e below (T1.setTop (mkF m 18 #[.val (.int p1), .val (.int p2), .val (.int p3), .val (.int y), .val (.ref c1), .unset, .unset] [(.int y)])) _
    refine XS.sipush X1.here hx rfl (hb hby at_18) ?_
    show Steps p.tables e below (T1.setTop (mkF m 21 #[.val (.int p1), .val (.int p2), .val (.int p3), .val (.int y), .val (.ref c1), .unset, .unset] [(.int (128 : Int32)), (.int y)])) _
    refine XS.icmpNo X1.here hx rfl (hb hby at_21) rfl (tlt (gq1 : y < (128 : Int32))).2.1 ?_
    show Steps p.tables e below (T1.setTop (mkF m 24 #[.val (.int p1), .val (.int p2), .val (.int p3), .val (.int y), .val (.ref c1), .unset, .unset] [])) _
    refine XS.iconst X1.here hx rfl (hb hby at_24) ?_
    show Steps p.tables e below (T1.setTop (mkF m 25 #[.val (.int p1), .val (.int p2), .val (.int p3), .val (.int y), .val (.ref c1), .unset, .unset] [(.int (0 : Int32))])) _
    refine XS.istore X1.here hx rfl (hb hby at_25) rfl (l' := #[.val (.int p1), .val (.int p2), .val (.int p3), .val (.int y), .val (.ref c1), .val (.int (0 : Int32)), .unset]) rfl ?_
    show Steps p.tables e below (T1.setTop (mkF m 27 #[.val (.int p1), .val (.int p2), .val (.int p3), .val (.int y), .val (.ref c1), .val (.int (0 : Int32)), .unset] [])) _
    refine XS.goto X1.here hx rfl (pc0 := 27) (pc' := 70) rfl (hb hby at_27) (by decide) (by decide) ?_
    show Steps p.tables e below (T1.setTop (mkF m 70 #[.val (.int p1), .val (.int p2), .val (.int p3), .val (.int y), .val (.ref c1), .val (.int (0 : Int32)), .unset] [])) _
    refine XS.aload X1.here hx rfl (hb hby at_70) rfl rfl ?_
    show Steps p.tables e below (T1.setTop (mkF m 72 #[.val (.int p1), .val (.int p2), .val (.int p3), .val (.int y), .val (.ref c1), .val (.int (0 : Int32)), .unset] [(.ref c1)])) _
    refine X1.arraylength hx Ar2.1 (State.isArrayOf_alike hZ.alike Ar2.2.1) (g := (mkF m 72 #[.val (.int p1), .val (.int p2), .val (.int p3), .val (.int y), .val (.ref c1), .val (.int (0 : Int32)), .unset] [(.ref c1)])) rfl rfl (hb hby at_72) _ ?_
    rw [len_of S2 M2]
    show Steps p.tables e below (T1.setTop (mkF m 73 #[.val (.int p1), .val (.int p2), .val (.int p3), .val (.int y), .val (.ref c1), .val (.int (0 : Int32)), .unset] [(.int (2 : Int32))])) _
    refine XS.iconst X1.here hx rfl (hb hby at_73) ?_
    show Steps p.tables e below (T1.setTop (mkF m 74 #[.val (.int p1), .val (.int p2), .val (.int p3), .val (.int y), .val (.ref c1), .val (.int (0 : Int32)), .unset] [(.int (2 : Int32)), (.int (2 : Int32))])) _
    refine XS.iload X1.here hx rfl (hb hby at_74) rfl ?_
    show Steps p.tables e below (T1.setTop (mkF m 76 #[.val (.int p1), .val (.int p2), .val (.int p3), .val (.int y), .val (.ref c1), .val (.int (0 : Int32)), .unset] [(.int (0 : Int32)), (.int (2 : Int32)), (.int (2 : Int32))])) _
    refine XS.iadd X1.here hx rfl (hb hby at_76) rfl ?_
    show Steps p.tables e below (T1.setTop (mkF m 77 #[.val (.int p1), .val (.int p2), .val (.int p3), .val (.int y), .val (.ref c1), .val (.int (0 : Int32)), .unset] [(.int ((2 : Int32) + (0 : Int32))), (.int (2 : Int32))])) _
    rw [show ((2 : Int32) + (0 : Int32)) = (2 : Int32) from by decide]
    show Steps p.tables e below (T1.setTop (mkF m 77 #[.val (.int p1), .val (.int p2), .val (.int p3), .val (.int y), .val (.ref c1), .val (.int (0 : Int32)), .unset] [(.int (2 : Int32)), (.int (2 : Int32))])) _
    refine XS.icmpYes X1.here hx rfl (pc0 := 77) (pc' := 82) rfl (hb hby at_77) rfl (teq ((by decide) : (2 : Int32) = (2 : Int32))).1 (by decide) (by decide) ?_
    show Steps p.tables e below (T1.setTop (mkF m 82 #[.val (.int p1), .val (.int p2), .val (.int p3), .val (.int y), .val (.ref c1), .val (.int (0 : Int32)), .unset] [])) _
    refine XS.aload X1.here hx rfl (hb hby at_82) rfl rfl ?_
    show Steps p.tables e below (T1.setTop (mkF m 84 #[.val (.int p1), .val (.int p2), .val (.int p3), .val (.int y), .val (.ref c1), .val (.int (0 : Int32)), .unset] [(.ref c1)])) _
    refine XS.iconst X1.here hx rfl (hb hby at_84) ?_
    show Steps p.tables e below (T1.setTop (mkF m 85 #[.val (.int p1), .val (.int p2), .val (.int p3), .val (.int y), .val (.ref c1), .val (.int (0 : Int32)), .unset] [(.int (0 : Int32)), (.ref c1)])) _
    refine X1.baloadBytes hx (j := (0 : Int32)) (v := (.int (nar .byte (p1.toInt8.toInt32)))) Ar3.1 (State.isArrayOf_alike hZ.alike Ar3.2.1) Ar3.2.2 hin3 hat3 (g := (mkF m 85 #[.val (.int p1), .val (.int p2), .val (.int p3), .val (.int y), .val (.ref c1), .val (.int (0 : Int32)), .unset] [(.int (0 : Int32)), (.ref c1)])) rfl rfl (hb hby at_85) _ ?_
    show Steps p.tables e below (T1.setTop (mkF m 86 #[.val (.int p1), .val (.int p2), .val (.int p3), .val (.int y), .val (.ref c1), .val (.int (0 : Int32)), .unset] [(.int (nar .byte (p1.toInt8.toInt32)))])) _
    refine XS.iloadN X1.here hx rfl (hb hby at_86) rfl ?_
    show Steps p.tables e below (T1.setTop (mkF m 87 #[.val (.int p1), .val (.int p2), .val (.int p3), .val (.int y), .val (.ref c1), .val (.int (0 : Int32)), .unset] [(.int p1), (.int (nar .byte (p1.toInt8.toInt32)))])) _
    refine XS.i2b X1.here hx rfl (hb hby at_87) rfl ?_
    show Steps p.tables e below (T1.setTop (mkF m 88 #[.val (.int p1), .val (.int p2), .val (.int p3), .val (.int y), .val (.ref c1), .val (.int (0 : Int32)), .unset] [(.int (p1.toInt8.toInt32)), (.int (nar .byte (p1.toInt8.toInt32)))])) _
    refine XS.icmpYes X1.here hx rfl (pc0 := 88) (pc' := 93) rfl (hb hby at_88) rfl (teq (own_bb p1 : (nar .byte (p1.toInt8.toInt32)) = (p1.toInt8.toInt32))).1 (by decide) (by decide) ?_
    show Steps p.tables e below (T1.setTop (mkF m 93 #[.val (.int p1), .val (.int p2), .val (.int p3), .val (.int y), .val (.ref c1), .val (.int (0 : Int32)), .unset] [])) _
    refine XS.iload X1.here hx rfl (hb hby at_93) rfl ?_
    show Steps p.tables e below (T1.setTop (mkF m 95 #[.val (.int p1), .val (.int p2), .val (.int p3), .val (.int y), .val (.ref c1), .val (.int (0 : Int32)), .unset] [(.int (0 : Int32))])) _
    refine XS.ifNo X1.here hx rfl (hb hby at_95) rfl ((if0 _ _).trans (teq ((by decide) : (0 : Int32) = (0 : Int32))).2) ?_
    show Steps p.tables e below (T1.setTop (mkF m 98 #[.val (.int p1), .val (.int p2), .val (.int p3), .val (.int y), .val (.ref c1), .val (.int (0 : Int32)), .unset] [])) _
    refine XS.aload X1.here hx rfl (hb hby at_98) rfl rfl ?_
    show Steps p.tables e below (T1.setTop (mkF m 100 #[.val (.int p1), .val (.int p2), .val (.int p3), .val (.int y), .val (.ref c1), .val (.int (0 : Int32)), .unset] [(.ref c1)])) _
    refine XS.iconst X1.here hx rfl (hb hby at_100) ?_
    show Steps p.tables e below (T1.setTop (mkF m 101 #[.val (.int p1), .val (.int p2), .val (.int p3), .val (.int y), .val (.ref c1), .val (.int (0 : Int32)), .unset] [(.int (1 : Int32)), (.ref c1)])) _
    refine X1.baloadBytes hx (j := (1 : Int32)) (v := (.int (nar .byte (y.toInt8.toInt32)))) Ar4.1 (State.isArrayOf_alike hZ.alike Ar4.2.1) Ar4.2.2 hin4 hat4 (g := (mkF m 101 #[.val (.int p1), .val (.int p2), .val (.int p3), .val (.int y), .val (.ref c1), .val (.int (0 : Int32)), .unset] [(.int (1 : Int32)), (.ref c1)])) rfl rfl (hb hby at_101) _ ?_
    show Steps p.tables e below (T1.setTop (mkF m 102 #[.val (.int p1), .val (.int p2), .val (.int p3), .val (.int y), .val (.ref c1), .val (.int (0 : Int32)), .unset] [(.int (nar .byte (y.toInt8.toInt32)))])) _
    refine XS.iloadN X1.here hx rfl (hb hby at_102) rfl ?_
    show Steps p.tables e below (T1.setTop (mkF m 103 #[.val (.int p1), .val (.int p2), .val (.int p3), .val (.int y), .val (.ref c1), .val (.int (0 : Int32)), .unset] [(.int y), (.int (nar .byte (y.toInt8.toInt32)))])) _
    refine XS.i2b X1.here hx rfl (hb hby at_103) rfl ?_
    show Steps p.tables e below (T1.setTop (mkF m 104 #[.val (.int p1), .val (.int p2), .val (.int p3), .val (.int y), .val (.ref c1), .val (.int (0 : Int32)), .unset] [(.int (y.toInt8.toInt32)), (.int (nar .byte (y.toInt8.toInt32)))])) _
    refine XS.icmpNo X1.here hx rfl (hb hby at_104) rfl (teq (own_bb y : (nar .byte (y.toInt8.toInt32)) = (y.toInt8.toInt32))).2 ?_
    show Steps p.tables e below (T1.setTop (mkF m 107 #[.val (.int p1), .val (.int p2), .val (.int p3), .val (.int y), .val (.ref c1), .val (.int (0 : Int32)), .unset] [])) _
    refine XS.iconst X1.here hx rfl (hb hby at_107) ?_
    show Steps p.tables e below (T1.setTop (mkF m 108 #[.val (.int p1), .val (.int p2), .val (.int p3), .val (.int y), .val (.ref c1), .val (.int (0 : Int32)), .unset] [(.int (1 : Int32))])) _
    refine XS.goto X1.here hx rfl (pc0 := 108) (pc' := 112) rfl (hb hby at_108) (by decide) (by decide) ?_
    show Steps p.tables e below (T1.setTop (mkF m 112 #[.val (.int p1), .val (.int p2), .val (.int p3), .val (.int y), .val (.ref c1), .val (.int (0 : Int32)), .unset] [(.int (1 : Int32))])) _
    exact retN X1 hx (t := .boolean) Bd.returns (by simp) (hb hby at_112) hr
  · show Q0 Z p1 p2 p3 h0 n0 _ T1.heap _
    exact ⟨rfl, N1⟩
theorem pd_0_1 : parseMethodDescriptor "([BI)I" = some ⟨[(.array .byte), .int], some .int⟩ := by decide +kernel
set_option maxRecDepth 65536 in
set_option maxHeartbeats 40000000 in
theorem rm0_1 (l : Launch) (Z : State) (a0 : Array Value) (hw : ∀ d ∈ tables_1, d.before a0 Z = true) (ws : List Jvm.Cond) (p1 p2 p3 y : Int32) (h0 : Heap) (n0 : Nat) (Z0 : n0 ≤ h0.size) (hy : (((p2 &&& (2147483647 : Int32)).toUInt32 >>> ((p3 &&& (31 : Int32)) &&& 31).toUInt32).toInt32) = y) (h0y : 0 ≤ y.toInt) (gq1 : ¬ (y < (128 : Int32))) (gq2 : y < (256 : Int32)) (hn : ((((32 : Int32) - (Jvm.Free.JP.Integer_numberOfLeadingZeros_I.val y)) + (7 : Int32)) / (8 : Int32)) = (1 : Int32)) :
    MetFree l x (head1 (Jvm.Cond.code x code maxLocals ret :: ws) room_1) (fun a U => a = #[(.int p1), (.int p2), (.int p3)] ∧ Z.Warmed39 U.vm ∧ U.heap = h0) (fun _ _ _ _ _ => True) (fun _ U o U' => ∃ v L, o = .returned v ∧ Q0 Z p1 p2 p3 h0 n0 v U'.heap L ∧ FrameEnd U o U' L room_1.cells room_1.slots) := by
  refine MetFree.of_bodySF (plainFor_of_name pn_0) hisR ?_
  intro p e s m args below meth c s₁ Bd hml0 hP hK
  obtain ⟨rfl, hZ, hh⟩ := hP
  have hx := Bd.exec
  have hby := Bd.bytes
  have hml : c.maxLocals = 7 := hml0
  have hown : s.vm.findClass "com/example/rollcall/rollcall/DerElementHeaderPinLaw" = some m.cls := findClass_of_methodNamed Bd.named
  have hnm := (name_of_methodNamed Bd.named Bd.method).1
  have X0 : Stand p l e room_1 s m #[(.int p1), (.int p2), (.int p3)] below meth c s₁ [] 0 0 := Stand.of_body Bd
  have e0 : s₁.heap = h0 := by rw [← hh, Bd.state]; rfl
  have N0 := Fr.nil n0
  have pre0 : ∀ tz, Steps p.tables e below (s₁.setTop (mkF m 0 #[.val (.int p1), .val (.int p2), .val (.int p3), .unset, .unset, .unset, .unset] [])) tz → Steps p.tables e below (s₁.setTop (entryFrame m #[(.int p1), (.int p2), (.int p3)] maxLocals)) tz := fun tz kz => castTop (ef_0 m p1 p2 p3) kz
  obtain ⟨_, _, ⟨T1, L1, k1, n1⟩, -, X1, ⟨Lc1, hQ1, l1, y1, z1⟩, st1⟩ := Jvm.LawKit.callS X0 hx (y := (⟨"com/example/rollcall/rollcall/DerElement", "header", "(II)[B"⟩ : MethodName)) hown (mvT hZ (hw _ (List.mem_of_getElem? (i := 1) rfl))) (mvT hZ (hw _ (List.mem_of_getElem? (i := 2) rfl))) (mvT hZ (hw _ (List.mem_of_getElem? (i := 3) rfl))) (mvT hZ (hw _ (List.mem_of_getElem? (i := 4) rfl))) (by decide) (backOf (W := 0) (rmH1 l Z a0 hw [] p1 y h0 n0 Z0 gq1 hn) hZ (hw _ (List.mem_of_getElem? (i := 4) rfl)) (hw _ (List.mem_of_getElem? (i := 3) rfl)) (by decide) (by decide)) (g := (mkF m 12 #[.val (.int p1), .val (.int p2), .val (.int p3), .val (.int y), .unset, .unset, .unset] [(.int y), (.int p1)])) rfl (by rw [hml]; rfl) (argsL := [(.int p1), (.int y)]) (rest := []) (lenOf pd_0_0 rfl) rfl (by show 2 * 0 + _ ≤ _; exact Nat.le_of_eq rfl) (hb hby at_12) (fun _ _ => ⟨rfl, e0, (by decide : 0 + 1 ≤ _), (by decide : 0 + 3 ≤ _)⟩)
  dsimp only [Pt.U, Pt.locs, Pt.cells, Pt.slots] at X1 l1 y1 z1 st1 hQ1
  subst l1 y1 z1
  obtain ⟨rfl, N1q, K1, kk1, Vt1⟩ := hQ1
  have N1 := Fr.app N0 N1q
  have Z1 : n0 ≤ T1.heap.size := Nat.le_trans Z0 K1.1
  obtain ⟨c1, gc1⟩ : ∃ z, z = h0.size := ⟨_, rfl⟩
  rw [← gc1] at st1 Vt1
  obtain ⟨cl2, Ar2, q2, S2, M2, H2, G2⟩ := id Vt1
  obtain ⟨cl3, Ar3, q3, S3, M3, H3, G3⟩ := id Vt1
  have hin3 : ¬ ((0 : Int32) < 0 ∨ cl3.slots.size ≤ ((0 : Int32)).toNatClampNeg) := inb_of S3 ⟨by decide, by decide⟩
  have hat3 : cl3.slots[((0 : Int32)).toNatClampNeg]? = some (.int (nar .byte (p1.toInt8.toInt32))) := Has.at H3 hin3 rfl
  obtain ⟨_, _, ⟨T4, L4, k4, n4⟩, -, X4, ⟨Lc4, hQ4, l4, y4, z4⟩, st4⟩ := Jvm.LawKit.callS X1 hx (y := (⟨"com/example/rollcall/rollcall/DerElementHeaderPinLaw", "u", "([BI)I"⟩ : MethodName)) hown (mvT hZ (hw _ (List.mem_of_getElem? (i := 13) rfl))) (mvT hZ (hw _ (List.mem_of_getElem? (i := 14) rfl))) (mvT hZ (hw _ (List.mem_of_getElem? (i := 15) rfl))) (mvT hZ (hw _ (List.mem_of_getElem? (i := 16) rfl))) (by decide) (backOf (W := 0) (rmU l Z a0 hw [] c1 (1 : Int32) (nar .byte ((129 : Int32).toInt8.toInt32)) kk1 (3 : Int32) _ T1.heap n0 Z1 Vt1 ⟨by decide, by decide⟩ rfl) hZ (hw _ (List.mem_of_getElem? (i := 16) rfl)) (hw _ (List.mem_of_getElem? (i := 15) rfl)) (by decide) (by decide)) (g := (mkF m 116 #[.val (.int p1), .val (.int p2), .val (.int p3), .val (.int y), .val (.ref c1), .val (.int (1 : Int32)), .unset] [(.int (1 : Int32)), (.ref c1)])) rfl (by rw [hml]; rfl) (argsL := [(.ref c1), (.int (1 : Int32))]) (rest := []) (lenOf pd_0_1 rfl) rfl (by show 2 * 0 + _ ≤ _; exact Nat.le_of_eq rfl) (hb hby at_116) (fun _ _ => ⟨rfl, rfl, (by decide : 1 + 0 ≤ _), (by decide : 3 + 0 ≤ _)⟩)
  dsimp only [Pt.U, Pt.locs, Pt.cells, Pt.slots] at X4 l4 y4 z4 st4 hQ4
  subst l4 y4 z4
  obtain ⟨rfl, N4q, eh4⟩ := hQ4
  have N4 := Fr.app N1 N4q
  obtain ⟨_, _, ⟨T5, L5, k5, n5⟩, -, X5, ⟨Lc5, hQ5, l5, y5, z5⟩, st5⟩ := Jvm.LawKit.callS X4 hx (y := (⟨"com/example/rollcall/rollcall/DerElementHeaderPinLaw", "u", "([BI)I"⟩ : MethodName)) hown (mvT hZ (hw _ (List.mem_of_getElem? (i := 13) rfl))) (mvT hZ (hw _ (List.mem_of_getElem? (i := 14) rfl))) (mvT hZ (hw _ (List.mem_of_getElem? (i := 15) rfl))) (mvT hZ (hw _ (List.mem_of_getElem? (i := 16) rfl))) (by decide) (backOf (W := 0) (rmU l Z a0 hw [] c1 (2 : Int32) (nar .byte (((y.toUInt32 >>> ((0 : Int32) &&& 31).toUInt32).toInt32).toInt8.toInt32)) kk1 (3 : Int32) _ T1.heap n0 Z1 Vt1 ⟨by decide, by decide⟩ rfl) hZ (hw _ (List.mem_of_getElem? (i := 16) rfl)) (hw _ (List.mem_of_getElem? (i := 15) rfl)) (by decide) (by decide)) (g := (mkF m 139 #[.val (.int p1), .val (.int p2), .val (.int p3), .val (.int y), .val (.ref c1), .val (.int (1 : Int32)), .unset] [(.int (2 : Int32)), (.ref c1)])) rfl (by rw [hml]; rfl) (argsL := [(.ref c1), (.int (2 : Int32))]) (rest := []) (lenOf pd_0_1 rfl) rfl (by show 2 * 0 + _ ≤ _; exact Nat.le_of_eq rfl) (hb hby at_139) (fun _ _ => ⟨rfl, eh4, (by decide : 1 + 0 ≤ _), (by decide : 3 + 0 ≤ _)⟩)
  dsimp only [Pt.U, Pt.locs, Pt.cells, Pt.slots] at X5 l5 y5 z5 st5 hQ5
  subst l5 y5 z5
  obtain ⟨rfl, N5q, eh5⟩ := hQ5
  have N5 := Fr.app N4 N5q
  obtain ⟨fs, hr, hrun, hended, hW, hsame⟩ := X5.leave (v := some (.int (1 : Int32))) (fun h => by rw [Bd.returns] at h; cases h)
  refine ⟨_, _, pre0 _ ?_, hrun, hended, _, _, rfl, ?_, ⟨_, rfl⟩, hW, hsame.mono (by decide) (by decide)⟩
  · show Steps p.tables e below (s₁.setTop (mkF m 0 #[.val (.int p1), .val (.int p2), .val (.int p3), .unset, .unset, .unset, .unset] [])) _
    refine XS.iloadN X0.here hx rfl (hb hby at_0) rfl ?_
    show Steps p.tables e below (s₁.setTop (mkF m 1 #[.val (.int p1), .val (.int p2), .val (.int p3), .unset, .unset, .unset, .unset] [(.int p2)])) _
    refine X0.ldcInt hx hown (mvT hZ (hw _ (List.mem_of_getElem? (i := 0) rfl))) (g := (mkF m 1 #[.val (.int p1), .val (.int p2), .val (.int p3), .unset, .unset, .unset, .unset] [(.int p2)])) rfl (hb hby at_1) _ ?_
    show Steps p.tables e below (s₁.setTop (mkF m 3 #[.val (.int p1), .val (.int p2), .val (.int p3), .unset, .unset, .unset, .unset] [(.int (2147483647 : Int32)), (.int p2)])) _
    refine XS.iand X0.here hx rfl (hb hby at_3) rfl ?_
    show Steps p.tables e below (s₁.setTop (mkF m 4 #[.val (.int p1), .val (.int p2), .val (.int p3), .unset, .unset, .unset, .unset] [(.int (p2 &&& (2147483647 : Int32)))])) _
    refine XS.iloadN X0.here hx rfl (hb hby at_4) rfl ?_
    show Steps p.tables e below (s₁.setTop (mkF m 5 #[.val (.int p1), .val (.int p2), .val (.int p3), .unset, .unset, .unset, .unset] [(.int p3), (.int (p2 &&& (2147483647 : Int32)))])) _
    refine XS.bipush X0.here hx rfl (hb hby at_5) ?_
    show Steps p.tables e below (s₁.setTop (mkF m 7 #[.val (.int p1), .val (.int p2), .val (.int p3), .unset, .unset, .unset, .unset] [(.int (31 : Int32)), (.int p3), (.int (p2 &&& (2147483647 : Int32)))])) _
    refine XS.iand X0.here hx rfl (hb hby at_7) rfl ?_
    show Steps p.tables e below (s₁.setTop (mkF m 8 #[.val (.int p1), .val (.int p2), .val (.int p3), .unset, .unset, .unset, .unset] [(.int (p3 &&& (31 : Int32))), (.int (p2 &&& (2147483647 : Int32)))])) _
    refine XS.iushr X0.here hx rfl (hb hby at_8) rfl ?_
    show Steps p.tables e below (s₁.setTop (mkF m 9 #[.val (.int p1), .val (.int p2), .val (.int p3), .unset, .unset, .unset, .unset] [(.int (((p2 &&& (2147483647 : Int32)).toUInt32 >>> ((p3 &&& (31 : Int32)) &&& 31).toUInt32).toInt32))])) _
    rw [hy]
    show Steps p.tables e below (s₁.setTop (mkF m 9 #[.val (.int p1), .val (.int p2), .val (.int p3), .unset, .unset, .unset, .unset] [(.int y)])) _
    refine XS.istoreN X0.here hx rfl (hb hby at_9) rfl (l' := #[.val (.int p1), .val (.int p2), .val (.int p3), .val (.int y), .unset, .unset, .unset]) rfl ?_
    show Steps p.tables e below (s₁.setTop (mkF m 10 #[.val (.int p1), .val (.int p2), .val (.int p3), .val (.int y), .unset, .unset, .unset] [])) _
    refine XS.iloadN X0.here hx rfl (hb hby at_10) rfl ?_
    show Steps p.tables e below (s₁.setTop (mkF m 11 #[.val (.int p1), .val (.int p2), .val (.int p3), .val (.int y), .unset, .unset, .unset] [(.int p1)])) _
    refine XS.iloadN X0.here hx rfl (hb hby at_11) rfl ?_
    show Steps p.tables e below (s₁.setTop (mkF m 12 #[.val (.int p1), .val (.int p2), .val (.int p3), .val (.int y), .unset, .unset, .unset] [(.int y), (.int p1)])) _
    refine st1 _ ?_
    show Steps p.tables e below (T1.setTop (mkF m 15 #[.val (.int p1), .val (.int p2), .val (.int p3), .val (.int y), .unset, .unset, .unset] [(.ref c1)])) _
    refine XS.astore X1.here hx rfl (hb hby at_15) rfl rfl (l' := #[.val (.int p1), .val (.int p2), .val (.int p3), .val (.int y), .val (.ref c1), .unset, .unset]) rfl ?_
    show Steps p.tables e below (T1.setTop (mkF m 17 #[.val (.int p1), .val (.int p2), .val (.int p3), .val (.int y), .val (.ref c1), .unset, .unset] [])) _
    refine XS.iloadN X1.here hx rfl (hb hby at_17) rfl ?_
    show Steps p.tables e below (T1.setTop (mkF m 18 #[.val (.int p1), .val (.int p2), .val (.int p3), .val (.int y), .val (.ref c1), .unset, .unset] [(.int y)])) _
    refine XS.sipush X1.here hx rfl (hb hby at_18) ?_
    show Steps p.tables e below (T1.setTop (mkF m 21 #[.val (.int p1), .val (.int p2), .val (.int p3), .val (.int y), .val (.ref c1), .unset, .unset] [(.int (128 : Int32)), (.int y)])) _
    refine XS.icmpYes X1.here hx rfl (pc0 := 21) (pc' := 30) rfl (hb hby at_21) rfl (flt (gq1 : ¬ (y < (128 : Int32)))).2.1 (by decide) (by decide) ?_
    show Steps p.tables e below (T1.setTop (mkF m 30 #[.val (.int p1), .val (.int p2), .val (.int p3), .val (.int y), .val (.ref c1), .unset, .unset] [])) _
    refine XS.iloadN X1.here hx rfl (hb hby at_30) rfl ?_
    show Steps p.tables e below (T1.setTop (mkF m 31 #[.val (.int p1), .val (.int p2), .val (.int p3), .val (.int y), .val (.ref c1), .unset, .unset] [(.int y)])) _
    refine XS.sipush X1.here hx rfl (hb hby at_31) ?_
    show Steps p.tables e below (T1.setTop (mkF m 34 #[.val (.int p1), .val (.int p2), .val (.int p3), .val (.int y), .val (.ref c1), .unset, .unset] [(.int (256 : Int32)), (.int y)])) _
    refine XS.icmpNo X1.here hx rfl (hb hby at_34) rfl (tlt (gq2 : y < (256 : Int32))).2.1 ?_
    show Steps p.tables e below (T1.setTop (mkF m 37 #[.val (.int p1), .val (.int p2), .val (.int p3), .val (.int y), .val (.ref c1), .unset, .unset] [])) _
    refine XS.iconst X1.here hx rfl (hb hby at_37) ?_
    show Steps p.tables e below (T1.setTop (mkF m 38 #[.val (.int p1), .val (.int p2), .val (.int p3), .val (.int y), .val (.ref c1), .unset, .unset] [(.int (1 : Int32))])) _
    refine XS.istore X1.here hx rfl (hb hby at_38) rfl (l' := #[.val (.int p1), .val (.int p2), .val (.int p3), .val (.int y), .val (.ref c1), .val (.int (1 : Int32)), .unset]) rfl ?_
    show Steps p.tables e below (T1.setTop (mkF m 40 #[.val (.int p1), .val (.int p2), .val (.int p3), .val (.int y), .val (.ref c1), .val (.int (1 : Int32)), .unset] [])) _
    refine XS.goto X1.here hx rfl (pc0 := 40) (pc' := 70) rfl (hb hby at_40) (by decide) (by decide) ?_
    show Steps p.tables e below (T1.setTop (mkF m 70 #[.val (.int p1), .val (.int p2), .val (.int p3), .val (.int y), .val (.ref c1), .val (.int (1 : Int32)), .unset] [])) _
    refine XS.aload X1.here hx rfl (hb hby at_70) rfl rfl ?_
    show Steps p.tables e below (T1.setTop (mkF m 72 #[.val (.int p1), .val (.int p2), .val (.int p3), .val (.int y), .val (.ref c1), .val (.int (1 : Int32)), .unset] [(.ref c1)])) _
    refine X1.arraylength hx Ar2.1 (State.isArrayOf_alike hZ.alike Ar2.2.1) (g := (mkF m 72 #[.val (.int p1), .val (.int p2), .val (.int p3), .val (.int y), .val (.ref c1), .val (.int (1 : Int32)), .unset] [(.ref c1)])) rfl rfl (hb hby at_72) _ ?_
    rw [len_of S2 M2]
    show Steps p.tables e below (T1.setTop (mkF m 73 #[.val (.int p1), .val (.int p2), .val (.int p3), .val (.int y), .val (.ref c1), .val (.int (1 : Int32)), .unset] [(.int (3 : Int32))])) _
    refine XS.iconst X1.here hx rfl (hb hby at_73) ?_
    show Steps p.tables e below (T1.setTop (mkF m 74 #[.val (.int p1), .val (.int p2), .val (.int p3), .val (.int y), .val (.ref c1), .val (.int (1 : Int32)), .unset] [(.int (2 : Int32)), (.int (3 : Int32))])) _
    refine XS.iload X1.here hx rfl (hb hby at_74) rfl ?_
    show Steps p.tables e below (T1.setTop (mkF m 76 #[.val (.int p1), .val (.int p2), .val (.int p3), .val (.int y), .val (.ref c1), .val (.int (1 : Int32)), .unset] [(.int (1 : Int32)), (.int (2 : Int32)), (.int (3 : Int32))])) _
    refine XS.iadd X1.here hx rfl (hb hby at_76) rfl ?_
    show Steps p.tables e below (T1.setTop (mkF m 77 #[.val (.int p1), .val (.int p2), .val (.int p3), .val (.int y), .val (.ref c1), .val (.int (1 : Int32)), .unset] [(.int ((2 : Int32) + (1 : Int32))), (.int (3 : Int32))])) _
    rw [show ((2 : Int32) + (1 : Int32)) = (3 : Int32) from by decide]
    show Steps p.tables e below (T1.setTop (mkF m 77 #[.val (.int p1), .val (.int p2), .val (.int p3), .val (.int y), .val (.ref c1), .val (.int (1 : Int32)), .unset] [(.int (3 : Int32)), (.int (3 : Int32))])) _
    refine XS.icmpYes X1.here hx rfl (pc0 := 77) (pc' := 82) rfl (hb hby at_77) rfl (teq ((by decide) : (3 : Int32) = (3 : Int32))).1 (by decide) (by decide) ?_
    show Steps p.tables e below (T1.setTop (mkF m 82 #[.val (.int p1), .val (.int p2), .val (.int p3), .val (.int y), .val (.ref c1), .val (.int (1 : Int32)), .unset] [])) _
    refine XS.aload X1.here hx rfl (hb hby at_82) rfl rfl ?_
    show Steps p.tables e below (T1.setTop (mkF m 84 #[.val (.int p1), .val (.int p2), .val (.int p3), .val (.int y), .val (.ref c1), .val (.int (1 : Int32)), .unset] [(.ref c1)])) _
    refine XS.iconst X1.here hx rfl (hb hby at_84) ?_
    show Steps p.tables e below (T1.setTop (mkF m 85 #[.val (.int p1), .val (.int p2), .val (.int p3), .val (.int y), .val (.ref c1), .val (.int (1 : Int32)), .unset] [(.int (0 : Int32)), (.ref c1)])) _
    refine X1.baloadBytes hx (j := (0 : Int32)) (v := (.int (nar .byte (p1.toInt8.toInt32)))) Ar3.1 (State.isArrayOf_alike hZ.alike Ar3.2.1) Ar3.2.2 hin3 hat3 (g := (mkF m 85 #[.val (.int p1), .val (.int p2), .val (.int p3), .val (.int y), .val (.ref c1), .val (.int (1 : Int32)), .unset] [(.int (0 : Int32)), (.ref c1)])) rfl rfl (hb hby at_85) _ ?_
    show Steps p.tables e below (T1.setTop (mkF m 86 #[.val (.int p1), .val (.int p2), .val (.int p3), .val (.int y), .val (.ref c1), .val (.int (1 : Int32)), .unset] [(.int (nar .byte (p1.toInt8.toInt32)))])) _
    refine XS.iloadN X1.here hx rfl (hb hby at_86) rfl ?_
    show Steps p.tables e below (T1.setTop (mkF m 87 #[.val (.int p1), .val (.int p2), .val (.int p3), .val (.int y), .val (.ref c1), .val (.int (1 : Int32)), .unset] [(.int p1), (.int (nar .byte (p1.toInt8.toInt32)))])) _
    refine XS.i2b X1.here hx rfl (hb hby at_87) rfl ?_
    show Steps p.tables e below (T1.setTop (mkF m 88 #[.val (.int p1), .val (.int p2), .val (.int p3), .val (.int y), .val (.ref c1), .val (.int (1 : Int32)), .unset] [(.int (p1.toInt8.toInt32)), (.int (nar .byte (p1.toInt8.toInt32)))])) _
    refine XS.icmpYes X1.here hx rfl (pc0 := 88) (pc' := 93) rfl (hb hby at_88) rfl (teq (own_bb p1 : (nar .byte (p1.toInt8.toInt32)) = (p1.toInt8.toInt32))).1 (by decide) (by decide) ?_
    show Steps p.tables e below (T1.setTop (mkF m 93 #[.val (.int p1), .val (.int p2), .val (.int p3), .val (.int y), .val (.ref c1), .val (.int (1 : Int32)), .unset] [])) _
    refine XS.iload X1.here hx rfl (hb hby at_93) rfl ?_
    show Steps p.tables e below (T1.setTop (mkF m 95 #[.val (.int p1), .val (.int p2), .val (.int p3), .val (.int y), .val (.ref c1), .val (.int (1 : Int32)), .unset] [(.int (1 : Int32))])) _
    refine XS.ifYes X1.here hx rfl (pc0 := 95) (pc' := 113) rfl (hb hby at_95) rfl ((if0 _ _).trans (feq ((by decide) : ¬ ((1 : Int32) = (0 : Int32)))).2) (by decide) (by decide) ?_
    show Steps p.tables e below (T1.setTop (mkF m 113 #[.val (.int p1), .val (.int p2), .val (.int p3), .val (.int y), .val (.ref c1), .val (.int (1 : Int32)), .unset] [])) _
    refine XS.aload X1.here hx rfl (hb hby at_113) rfl rfl ?_
    show Steps p.tables e below (T1.setTop (mkF m 115 #[.val (.int p1), .val (.int p2), .val (.int p3), .val (.int y), .val (.ref c1), .val (.int (1 : Int32)), .unset] [(.ref c1)])) _
    refine XS.iconst X1.here hx rfl (hb hby at_115) ?_
    show Steps p.tables e below (T1.setTop (mkF m 116 #[.val (.int p1), .val (.int p2), .val (.int p3), .val (.int y), .val (.ref c1), .val (.int (1 : Int32)), .unset] [(.int (1 : Int32)), (.ref c1)])) _
    refine st4 _ ?_
    show Steps p.tables e below (T4.setTop (mkF m 119 #[.val (.int p1), .val (.int p2), .val (.int p3), .val (.int y), .val (.ref c1), .val (.int (1 : Int32)), .unset] [(.int ((nar .byte ((129 : Int32).toInt8.toInt32)) &&& (255 : Int32)))])) _
    refine XS.sipush X4.here hx rfl (hb hby at_119) ?_
    show Steps p.tables e below (T4.setTop (mkF m 122 #[.val (.int p1), .val (.int p2), .val (.int p3), .val (.int y), .val (.ref c1), .val (.int (1 : Int32)), .unset] [(.int (128 : Int32)), (.int ((nar .byte ((129 : Int32).toInt8.toInt32)) &&& (255 : Int32)))])) _
    refine XS.iload X4.here hx rfl (hb hby at_122) rfl ?_
    show Steps p.tables e below (T4.setTop (mkF m 124 #[.val (.int p1), .val (.int p2), .val (.int p3), .val (.int y), .val (.ref c1), .val (.int (1 : Int32)), .unset] [(.int (1 : Int32)), (.int (128 : Int32)), (.int ((nar .byte ((129 : Int32).toInt8.toInt32)) &&& (255 : Int32)))])) _
    refine XS.ior X4.here hx rfl (hb hby at_124) rfl ?_
    show Steps p.tables e below (T4.setTop (mkF m 125 #[.val (.int p1), .val (.int p2), .val (.int p3), .val (.int y), .val (.ref c1), .val (.int (1 : Int32)), .unset] [(.int ((128 : Int32) ||| (1 : Int32))), (.int ((nar .byte ((129 : Int32).toInt8.toInt32)) &&& (255 : Int32)))])) _
    rw [show ((128 : Int32) ||| (1 : Int32)) = (129 : Int32) from by decide]
    show Steps p.tables e below (T4.setTop (mkF m 125 #[.val (.int p1), .val (.int p2), .val (.int p3), .val (.int y), .val (.ref c1), .val (.int (1 : Int32)), .unset] [(.int (129 : Int32)), (.int ((nar .byte ((129 : Int32).toInt8.toInt32)) &&& (255 : Int32)))])) _
    refine XS.icmpYes X4.here hx rfl (pc0 := 125) (pc' := 130) rfl (hb hby at_125) rfl (teq (by decide : ((nar .byte ((129 : Int32).toInt8.toInt32)) &&& (255 : Int32)) = (129 : Int32))).1 (by decide) (by decide) ?_
    show Steps p.tables e below (T4.setTop (mkF m 130 #[.val (.int p1), .val (.int p2), .val (.int p3), .val (.int y), .val (.ref c1), .val (.int (1 : Int32)), .unset] [])) _
    refine XS.iload X4.here hx rfl (hb hby at_130) rfl ?_
    show Steps p.tables e below (T4.setTop (mkF m 132 #[.val (.int p1), .val (.int p2), .val (.int p3), .val (.int y), .val (.ref c1), .val (.int (1 : Int32)), .unset] [(.int (1 : Int32))])) _
    refine XS.iconst X4.here hx rfl (hb hby at_132) ?_
    show Steps p.tables e below (T4.setTop (mkF m 133 #[.val (.int p1), .val (.int p2), .val (.int p3), .val (.int y), .val (.ref c1), .val (.int (1 : Int32)), .unset] [(.int (1 : Int32)), (.int (1 : Int32))])) _
    refine XS.icmpNo X4.here hx rfl (hb hby at_133) rfl (teq ((by decide) : (1 : Int32) = (1 : Int32))).2 ?_
    show Steps p.tables e below (T4.setTop (mkF m 136 #[.val (.int p1), .val (.int p2), .val (.int p3), .val (.int y), .val (.ref c1), .val (.int (1 : Int32)), .unset] [])) _
    refine XS.aload X4.here hx rfl (hb hby at_136) rfl rfl ?_
    show Steps p.tables e below (T4.setTop (mkF m 138 #[.val (.int p1), .val (.int p2), .val (.int p3), .val (.int y), .val (.ref c1), .val (.int (1 : Int32)), .unset] [(.ref c1)])) _
    refine XS.iconst X4.here hx rfl (hb hby at_138) ?_
    show Steps p.tables e below (T4.setTop (mkF m 139 #[.val (.int p1), .val (.int p2), .val (.int p3), .val (.int y), .val (.ref c1), .val (.int (1 : Int32)), .unset] [(.int (2 : Int32)), (.ref c1)])) _
    refine st5 _ ?_
    show Steps p.tables e below (T5.setTop (mkF m 142 #[.val (.int p1), .val (.int p2), .val (.int p3), .val (.int y), .val (.ref c1), .val (.int (1 : Int32)), .unset] [(.int ((nar .byte (((y.toUInt32 >>> ((0 : Int32) &&& 31).toUInt32).toInt32).toInt8.toInt32)) &&& (255 : Int32)))])) _
    refine XS.istore X5.here hx rfl (hb hby at_142) rfl (l' := #[.val (.int p1), .val (.int p2), .val (.int p3), .val (.int y), .val (.ref c1), .val (.int (1 : Int32)), .val (.int ((nar .byte (((y.toUInt32 >>> ((0 : Int32) &&& 31).toUInt32).toInt32).toInt8.toInt32)) &&& (255 : Int32)))]) rfl ?_
    show Steps p.tables e below (T5.setTop (mkF m 144 #[.val (.int p1), .val (.int p2), .val (.int p3), .val (.int y), .val (.ref c1), .val (.int (1 : Int32)), .val (.int ((nar .byte (((y.toUInt32 >>> ((0 : Int32) &&& 31).toUInt32).toInt32).toInt8.toInt32)) &&& (255 : Int32)))] [])) _
    refine XS.goto X5.here hx rfl (pc0 := 144) (pc' := 249) rfl (hb hby at_144) (by decide) (by decide) ?_
    show Steps p.tables e below (T5.setTop (mkF m 249 #[.val (.int p1), .val (.int p2), .val (.int p3), .val (.int y), .val (.ref c1), .val (.int (1 : Int32)), .val (.int ((nar .byte (((y.toUInt32 >>> ((0 : Int32) &&& 31).toUInt32).toInt32).toInt8.toInt32)) &&& (255 : Int32)))] [])) _
    refine XS.iload X5.here hx rfl (hb hby at_249) rfl ?_
    show Steps p.tables e below (T5.setTop (mkF m 251 #[.val (.int p1), .val (.int p2), .val (.int p3), .val (.int y), .val (.ref c1), .val (.int (1 : Int32)), .val (.int ((nar .byte (((y.toUInt32 >>> ((0 : Int32) &&& 31).toUInt32).toInt32).toInt8.toInt32)) &&& (255 : Int32)))] [(.int ((nar .byte (((y.toUInt32 >>> ((0 : Int32) &&& 31).toUInt32).toInt32).toInt8.toInt32)) &&& (255 : Int32)))])) _
    refine XS.iloadN X5.here hx rfl (hb hby at_251) rfl ?_
    show Steps p.tables e below (T5.setTop (mkF m 252 #[.val (.int p1), .val (.int p2), .val (.int p3), .val (.int y), .val (.ref c1), .val (.int (1 : Int32)), .val (.int ((nar .byte (((y.toUInt32 >>> ((0 : Int32) &&& 31).toUInt32).toInt32).toInt8.toInt32)) &&& (255 : Int32)))] [(.int y), (.int ((nar .byte (((y.toUInt32 >>> ((0 : Int32) &&& 31).toUInt32).toInt32).toInt8.toInt32)) &&& (255 : Int32)))])) _
    refine XS.icmpNo X5.here hx rfl (hb hby at_252) rfl (teq (own_r1 y h0y (own_lt gq2) : ((nar .byte (((y.toUInt32 >>> ((0 : Int32) &&& 31).toUInt32).toInt32).toInt8.toInt32)) &&& (255 : Int32)) = y)).2 ?_
    show Steps p.tables e below (T5.setTop (mkF m 255 #[.val (.int p1), .val (.int p2), .val (.int p3), .val (.int y), .val (.ref c1), .val (.int (1 : Int32)), .val (.int ((nar .byte (((y.toUInt32 >>> ((0 : Int32) &&& 31).toUInt32).toInt32).toInt8.toInt32)) &&& (255 : Int32)))] [])) _
    refine XS.iconst X5.here hx rfl (hb hby at_255) ?_
    show Steps p.tables e below (T5.setTop (mkF m 256 #[.val (.int p1), .val (.int p2), .val (.int p3), .val (.int y), .val (.ref c1), .val (.int (1 : Int32)), .val (.int ((nar .byte (((y.toUInt32 >>> ((0 : Int32) &&& 31).toUInt32).toInt32).toInt8.toInt32)) &&& (255 : Int32)))] [(.int (1 : Int32))])) _
    refine XS.goto X5.here hx rfl (pc0 := 256) (pc' := 260) rfl (hb hby at_256) (by decide) (by decide) ?_
    show Steps p.tables e below (T5.setTop (mkF m 260 #[.val (.int p1), .val (.int p2), .val (.int p3), .val (.int y), .val (.ref c1), .val (.int (1 : Int32)), .val (.int ((nar .byte (((y.toUInt32 >>> ((0 : Int32) &&& 31).toUInt32).toInt32).toInt8.toInt32)) &&& (255 : Int32)))] [(.int (1 : Int32))])) _
    exact retN X5 hx (t := .boolean) Bd.returns (by simp) (hb hby at_260) hr
  · show Q0 Z p1 p2 p3 h0 n0 _ T5.heap _
    rw [eh5]
    exact ⟨rfl, N5⟩
set_option maxRecDepth 65536 in
set_option maxHeartbeats 40000000 in
theorem rm0_2 (l : Launch) (Z : State) (a0 : Array Value) (hw : ∀ d ∈ tables_1, d.before a0 Z = true) (ws : List Jvm.Cond) (p1 p2 p3 y : Int32) (h0 : Heap) (n0 : Nat) (Z0 : n0 ≤ h0.size) (hy : (((p2 &&& (2147483647 : Int32)).toUInt32 >>> ((p3 &&& (31 : Int32)) &&& 31).toUInt32).toInt32) = y) (h0y : 0 ≤ y.toInt) (gq1 : ¬ (y < (128 : Int32))) (gq2 : ¬ (y < (256 : Int32))) (gq3 : y < (65536 : Int32)) (hn : ((((32 : Int32) - (Jvm.Free.JP.Integer_numberOfLeadingZeros_I.val y)) + (7 : Int32)) / (8 : Int32)) = (2 : Int32)) :
    MetFree l x (head1 (Jvm.Cond.code x code maxLocals ret :: ws) room_1) (fun a U => a = #[(.int p1), (.int p2), (.int p3)] ∧ Z.Warmed39 U.vm ∧ U.heap = h0) (fun _ _ _ _ _ => True) (fun _ U o U' => ∃ v L, o = .returned v ∧ Q0 Z p1 p2 p3 h0 n0 v U'.heap L ∧ FrameEnd U o U' L room_1.cells room_1.slots) := by
  refine MetFree.of_bodySF (plainFor_of_name pn_0) hisR ?_
  intro p e s m args below meth c s₁ Bd hml0 hP hK
  obtain ⟨rfl, hZ, hh⟩ := hP
  have hx := Bd.exec
  have hby := Bd.bytes
  have hml : c.maxLocals = 7 := hml0
  have hown : s.vm.findClass "com/example/rollcall/rollcall/DerElementHeaderPinLaw" = some m.cls := findClass_of_methodNamed Bd.named
  have hnm := (name_of_methodNamed Bd.named Bd.method).1
  have X0 : Stand p l e room_1 s m #[(.int p1), (.int p2), (.int p3)] below meth c s₁ [] 0 0 := Stand.of_body Bd
  have e0 : s₁.heap = h0 := by rw [← hh, Bd.state]; rfl
  have N0 := Fr.nil n0
  have pre0 : ∀ tz, Steps p.tables e below (s₁.setTop (mkF m 0 #[.val (.int p1), .val (.int p2), .val (.int p3), .unset, .unset, .unset, .unset] [])) tz → Steps p.tables e below (s₁.setTop (entryFrame m #[(.int p1), (.int p2), (.int p3)] maxLocals)) tz := fun tz kz => castTop (ef_0 m p1 p2 p3) kz
  obtain ⟨_, _, ⟨T1, L1, k1, n1⟩, -, X1, ⟨Lc1, hQ1, l1, y1, z1⟩, st1⟩ := Jvm.LawKit.callS X0 hx (y := (⟨"com/example/rollcall/rollcall/DerElement", "header", "(II)[B"⟩ : MethodName)) hown (mvT hZ (hw _ (List.mem_of_getElem? (i := 1) rfl))) (mvT hZ (hw _ (List.mem_of_getElem? (i := 2) rfl))) (mvT hZ (hw _ (List.mem_of_getElem? (i := 3) rfl))) (mvT hZ (hw _ (List.mem_of_getElem? (i := 4) rfl))) (by decide) (backOf (W := 0) (rmH2 l Z a0 hw [] p1 y h0 n0 Z0 gq1 hn) hZ (hw _ (List.mem_of_getElem? (i := 4) rfl)) (hw _ (List.mem_of_getElem? (i := 3) rfl)) (by decide) (by decide)) (g := (mkF m 12 #[.val (.int p1), .val (.int p2), .val (.int p3), .val (.int y), .unset, .unset, .unset] [(.int y), (.int p1)])) rfl (by rw [hml]; rfl) (argsL := [(.int p1), (.int y)]) (rest := []) (lenOf pd_0_0 rfl) rfl (by show 2 * 0 + _ ≤ _; exact Nat.le_of_eq rfl) (hb hby at_12) (fun _ _ => ⟨rfl, e0, (by decide : 0 + 1 ≤ _), (by decide : 0 + 4 ≤ _)⟩)
  dsimp only [Pt.U, Pt.locs, Pt.cells, Pt.slots] at X1 l1 y1 z1 st1 hQ1
  subst l1 y1 z1
  obtain ⟨rfl, N1q, K1, kk1, Vt1⟩ := hQ1
  have N1 := Fr.app N0 N1q
  have Z1 : n0 ≤ T1.heap.size := Nat.le_trans Z0 K1.1
  obtain ⟨c1, gc1⟩ : ∃ z, z = h0.size := ⟨_, rfl⟩
  rw [← gc1] at st1 Vt1
  obtain ⟨cl2, Ar2, q2, S2, M2, H2, G2⟩ := id Vt1
  obtain ⟨cl3, Ar3, q3, S3, M3, H3, G3⟩ := id Vt1
  have hin3 : ¬ ((0 : Int32) < 0 ∨ cl3.slots.size ≤ ((0 : Int32)).toNatClampNeg) := inb_of S3 ⟨by decide, by decide⟩
  have hat3 : cl3.slots[((0 : Int32)).toNatClampNeg]? = some (.int (nar .byte (p1.toInt8.toInt32))) := Has.at H3 hin3 rfl
  obtain ⟨_, _, ⟨T4, L4, k4, n4⟩, -, X4, ⟨Lc4, hQ4, l4, y4, z4⟩, st4⟩ := Jvm.LawKit.callS X1 hx (y := (⟨"com/example/rollcall/rollcall/DerElementHeaderPinLaw", "u", "([BI)I"⟩ : MethodName)) hown (mvT hZ (hw _ (List.mem_of_getElem? (i := 13) rfl))) (mvT hZ (hw _ (List.mem_of_getElem? (i := 14) rfl))) (mvT hZ (hw _ (List.mem_of_getElem? (i := 15) rfl))) (mvT hZ (hw _ (List.mem_of_getElem? (i := 16) rfl))) (by decide) (backOf (W := 0) (rmU l Z a0 hw [] c1 (1 : Int32) (nar .byte ((130 : Int32).toInt8.toInt32)) kk1 (4 : Int32) _ T1.heap n0 Z1 Vt1 ⟨by decide, by decide⟩ rfl) hZ (hw _ (List.mem_of_getElem? (i := 16) rfl)) (hw _ (List.mem_of_getElem? (i := 15) rfl)) (by decide) (by decide)) (g := (mkF m 116 #[.val (.int p1), .val (.int p2), .val (.int p3), .val (.int y), .val (.ref c1), .val (.int (2 : Int32)), .unset] [(.int (1 : Int32)), (.ref c1)])) rfl (by rw [hml]; rfl) (argsL := [(.ref c1), (.int (1 : Int32))]) (rest := []) (lenOf pd_0_1 rfl) rfl (by show 2 * 0 + _ ≤ _; exact Nat.le_of_eq rfl) (hb hby at_116) (fun _ _ => ⟨rfl, rfl, (by decide : 1 + 0 ≤ _), (by decide : 4 + 0 ≤ _)⟩)
  dsimp only [Pt.U, Pt.locs, Pt.cells, Pt.slots] at X4 l4 y4 z4 st4 hQ4
  subst l4 y4 z4
  obtain ⟨rfl, N4q, eh4⟩ := hQ4
  have N4 := Fr.app N1 N4q
  obtain ⟨_, _, ⟨T5, L5, k5, n5⟩, -, X5, ⟨Lc5, hQ5, l5, y5, z5⟩, st5⟩ := Jvm.LawKit.callS X4 hx (y := (⟨"com/example/rollcall/rollcall/DerElementHeaderPinLaw", "u", "([BI)I"⟩ : MethodName)) hown (mvT hZ (hw _ (List.mem_of_getElem? (i := 13) rfl))) (mvT hZ (hw _ (List.mem_of_getElem? (i := 14) rfl))) (mvT hZ (hw _ (List.mem_of_getElem? (i := 15) rfl))) (mvT hZ (hw _ (List.mem_of_getElem? (i := 16) rfl))) (by decide) (backOf (W := 0) (rmU l Z a0 hw [] c1 (2 : Int32) (nar .byte (((y.toUInt32 >>> ((8 : Int32) &&& 31).toUInt32).toInt32).toInt8.toInt32)) kk1 (4 : Int32) _ T1.heap n0 Z1 Vt1 ⟨by decide, by decide⟩ rfl) hZ (hw _ (List.mem_of_getElem? (i := 16) rfl)) (hw _ (List.mem_of_getElem? (i := 15) rfl)) (by decide) (by decide)) (g := (mkF m 156 #[.val (.int p1), .val (.int p2), .val (.int p3), .val (.int y), .val (.ref c1), .val (.int (2 : Int32)), .unset] [(.int (2 : Int32)), (.ref c1)])) rfl (by rw [hml]; rfl) (argsL := [(.ref c1), (.int (2 : Int32))]) (rest := []) (lenOf pd_0_1 rfl) rfl (by show 2 * 0 + _ ≤ _; exact Nat.le_of_eq rfl) (hb hby at_156) (fun _ _ => ⟨rfl, eh4, (by decide : 1 + 0 ≤ _), (by decide : 4 + 0 ≤ _)⟩)
  dsimp only [Pt.U, Pt.locs, Pt.cells, Pt.slots] at X5 l5 y5 z5 st5 hQ5
  subst l5 y5 z5
  obtain ⟨rfl, N5q, eh5⟩ := hQ5
  have N5 := Fr.app N4 N5q
  obtain ⟨_, _, ⟨T6, L6, k6, n6⟩, -, X6, ⟨Lc6, hQ6, l6, y6, z6⟩, st6⟩ := Jvm.LawKit.callS X5 hx (y := (⟨"com/example/rollcall/rollcall/DerElementHeaderPinLaw", "u", "([BI)I"⟩ : MethodName)) hown (mvT hZ (hw _ (List.mem_of_getElem? (i := 13) rfl))) (mvT hZ (hw _ (List.mem_of_getElem? (i := 14) rfl))) (mvT hZ (hw _ (List.mem_of_getElem? (i := 15) rfl))) (mvT hZ (hw _ (List.mem_of_getElem? (i := 16) rfl))) (by decide) (backOf (W := 1) (rmU l Z a0 hw [] c1 (3 : Int32) (nar .byte (((y.toUInt32 >>> ((0 : Int32) &&& 31).toUInt32).toInt32).toInt8.toInt32)) kk1 (4 : Int32) _ T1.heap n0 Z1 Vt1 ⟨by decide, by decide⟩ rfl) hZ (hw _ (List.mem_of_getElem? (i := 16) rfl)) (hw _ (List.mem_of_getElem? (i := 15) rfl)) (by decide) (by decide)) (g := (mkF m 165 #[.val (.int p1), .val (.int p2), .val (.int p3), .val (.int y), .val (.ref c1), .val (.int (2 : Int32)), .unset] [(.int (3 : Int32)), (.ref c1), (.int (((nar .byte (((y.toUInt32 >>> ((8 : Int32) &&& 31).toUInt32).toInt32).toInt8.toInt32)) &&& (255 : Int32)) <<< ((8 : Int32) &&& 31)))])) rfl (by rw [hml]; rfl) (argsL := [(.ref c1), (.int (3 : Int32))]) (rest := [(.int (((nar .byte (((y.toUInt32 >>> ((8 : Int32) &&& 31).toUInt32).toInt32).toInt8.toInt32)) &&& (255 : Int32)) <<< ((8 : Int32) &&& 31)))]) (lenOf pd_0_1 rfl) rfl (by show 2 * 0 + _ ≤ _; exact Nat.le_of_eq rfl) (hb hby at_165) (fun _ _ => ⟨rfl, eh5, (by decide : 1 + 0 ≤ _), (by decide : 4 + 0 ≤ _)⟩)
  dsimp only [Pt.U, Pt.locs, Pt.cells, Pt.slots] at X6 l6 y6 z6 st6 hQ6
  subst l6 y6 z6
  obtain ⟨rfl, N6q, eh6⟩ := hQ6
  have N6 := Fr.app N5 N6q
  obtain ⟨fs, hr, hrun, hended, hW, hsame⟩ := X6.leave (v := some (.int (1 : Int32))) (fun h => by rw [Bd.returns] at h; cases h)
  refine ⟨_, _, pre0 _ ?_, hrun, hended, _, _, rfl, ?_, ⟨_, rfl⟩, hW, hsame.mono (by decide) (by decide)⟩
  · show Steps p.tables e below (s₁.setTop (mkF m 0 #[.val (.int p1), .val (.int p2), .val (.int p3), .unset, .unset, .unset, .unset] [])) _
    refine XS.iloadN X0.here hx rfl (hb hby at_0) rfl ?_
    show Steps p.tables e below (s₁.setTop (mkF m 1 #[.val (.int p1), .val (.int p2), .val (.int p3), .unset, .unset, .unset, .unset] [(.int p2)])) _
    refine X0.ldcInt hx hown (mvT hZ (hw _ (List.mem_of_getElem? (i := 0) rfl))) (g := (mkF m 1 #[.val (.int p1), .val (.int p2), .val (.int p3), .unset, .unset, .unset, .unset] [(.int p2)])) rfl (hb hby at_1) _ ?_
    show Steps p.tables e below (s₁.setTop (mkF m 3 #[.val (.int p1), .val (.int p2), .val (.int p3), .unset, .unset, .unset, .unset] [(.int (2147483647 : Int32)), (.int p2)])) _
    refine XS.iand X0.here hx rfl (hb hby at_3) rfl ?_
    show Steps p.tables e below (s₁.setTop (mkF m 4 #[.val (.int p1), .val (.int p2), .val (.int p3), .unset, .unset, .unset, .unset] [(.int (p2 &&& (2147483647 : Int32)))])) _
    refine XS.iloadN X0.here hx rfl (hb hby at_4) rfl ?_
    show Steps p.tables e below (s₁.setTop (mkF m 5 #[.val (.int p1), .val (.int p2), .val (.int p3), .unset, .unset, .unset, .unset] [(.int p3), (.int (p2 &&& (2147483647 : Int32)))])) _
    refine XS.bipush X0.here hx rfl (hb hby at_5) ?_
    show Steps p.tables e below (s₁.setTop (mkF m 7 #[.val (.int p1), .val (.int p2), .val (.int p3), .unset, .unset, .unset, .unset] [(.int (31 : Int32)), (.int p3), (.int (p2 &&& (2147483647 : Int32)))])) _
    refine XS.iand X0.here hx rfl (hb hby at_7) rfl ?_
    show Steps p.tables e below (s₁.setTop (mkF m 8 #[.val (.int p1), .val (.int p2), .val (.int p3), .unset, .unset, .unset, .unset] [(.int (p3 &&& (31 : Int32))), (.int (p2 &&& (2147483647 : Int32)))])) _
    refine XS.iushr X0.here hx rfl (hb hby at_8) rfl ?_
    show Steps p.tables e below (s₁.setTop (mkF m 9 #[.val (.int p1), .val (.int p2), .val (.int p3), .unset, .unset, .unset, .unset] [(.int (((p2 &&& (2147483647 : Int32)).toUInt32 >>> ((p3 &&& (31 : Int32)) &&& 31).toUInt32).toInt32))])) _
    rw [hy]
    show Steps p.tables e below (s₁.setTop (mkF m 9 #[.val (.int p1), .val (.int p2), .val (.int p3), .unset, .unset, .unset, .unset] [(.int y)])) _
    refine XS.istoreN X0.here hx rfl (hb hby at_9) rfl (l' := #[.val (.int p1), .val (.int p2), .val (.int p3), .val (.int y), .unset, .unset, .unset]) rfl ?_
    show Steps p.tables e below (s₁.setTop (mkF m 10 #[.val (.int p1), .val (.int p2), .val (.int p3), .val (.int y), .unset, .unset, .unset] [])) _
    refine XS.iloadN X0.here hx rfl (hb hby at_10) rfl ?_
    show Steps p.tables e below (s₁.setTop (mkF m 11 #[.val (.int p1), .val (.int p2), .val (.int p3), .val (.int y), .unset, .unset, .unset] [(.int p1)])) _
    refine XS.iloadN X0.here hx rfl (hb hby at_11) rfl ?_
    show Steps p.tables e below (s₁.setTop (mkF m 12 #[.val (.int p1), .val (.int p2), .val (.int p3), .val (.int y), .unset, .unset, .unset] [(.int y), (.int p1)])) _
    refine st1 _ ?_
    show Steps p.tables e below (T1.setTop (mkF m 15 #[.val (.int p1), .val (.int p2), .val (.int p3), .val (.int y), .unset, .unset, .unset] [(.ref c1)])) _
    refine XS.astore X1.here hx rfl (hb hby at_15) rfl rfl (l' := #[.val (.int p1), .val (.int p2), .val (.int p3), .val (.int y), .val (.ref c1), .unset, .unset]) rfl ?_
    show Steps p.tables e below (T1.setTop (mkF m 17 #[.val (.int p1), .val (.int p2), .val (.int p3), .val (.int y), .val (.ref c1), .unset, .unset] [])) _
    refine XS.iloadN X1.here hx rfl (hb hby at_17) rfl ?_
    show Steps p.tables e below (T1.setTop (mkF m 18 #[.val (.int p1), .val (.int p2), .val (.int p3), .val (.int y), .val (.ref c1), .unset, .unset] [(.int y)])) _
    refine XS.sipush X1.here hx rfl (hb hby at_18) ?_
    show Steps p.tables e below (T1.setTop (mkF m 21 #[.val (.int p1), .val (.int p2), .val (.int p3), .val (.int y), .val (.ref c1), .unset, .unset] [(.int (128 : Int32)), (.int y)])) _
    refine XS.icmpYes X1.here hx rfl (pc0 := 21) (pc' := 30) rfl (hb hby at_21) rfl (flt (gq1 : ¬ (y < (128 : Int32)))).2.1 (by decide) (by decide) ?_
    show Steps p.tables e below (T1.setTop (mkF m 30 #[.val (.int p1), .val (.int p2), .val (.int p3), .val (.int y), .val (.ref c1), .unset, .unset] [])) _
    refine XS.iloadN X1.here hx rfl (hb hby at_30) rfl ?_
    show Steps p.tables e below (T1.setTop (mkF m 31 #[.val (.int p1), .val (.int p2), .val (.int p3), .val (.int y), .val (.ref c1), .unset, .unset] [(.int y)])) _
    refine XS.sipush X1.here hx rfl (hb hby at_31) ?_
    show Steps p.tables e below (T1.setTop (mkF m 34 #[.val (.int p1), .val (.int p2), .val (.int p3), .val (.int y), .val (.ref c1), .unset, .unset] [(.int (256 : Int32)), (.int y)])) _
    refine XS.icmpYes X1.here hx rfl (pc0 := 34) (pc' := 43) rfl (hb hby at_34) rfl (flt (gq2 : ¬ (y < (256 : Int32)))).2.1 (by decide) (by decide) ?_
    show Steps p.tables e below (T1.setTop (mkF m 43 #[.val (.int p1), .val (.int p2), .val (.int p3), .val (.int y), .val (.ref c1), .unset, .unset] [])) _
    refine XS.iloadN X1.here hx rfl (hb hby at_43) rfl ?_
    show Steps p.tables e below (T1.setTop (mkF m 44 #[.val (.int p1), .val (.int p2), .val (.int p3), .val (.int y), .val (.ref c1), .unset, .unset] [(.int y)])) _
    refine X1.ldcInt hx hown (mvT hZ (hw _ (List.mem_of_getElem? (i := 11) rfl))) (g := (mkF m 44 #[.val (.int p1), .val (.int p2), .val (.int p3), .val (.int y), .val (.ref c1), .unset, .unset] [(.int y)])) rfl (hb hby at_44) _ ?_
    show Steps p.tables e below (T1.setTop (mkF m 46 #[.val (.int p1), .val (.int p2), .val (.int p3), .val (.int y), .val (.ref c1), .unset, .unset] [(.int (65536 : Int32)), (.int y)])) _
    refine XS.icmpNo X1.here hx rfl (hb hby at_46) rfl (tlt (gq3 : y < (65536 : Int32))).2.1 ?_
    show Steps p.tables e below (T1.setTop (mkF m 49 #[.val (.int p1), .val (.int p2), .val (.int p3), .val (.int y), .val (.ref c1), .unset, .unset] [])) _
    refine XS.iconst X1.here hx rfl (hb hby at_49) ?_
    show Steps p.tables e below (T1.setTop (mkF m 50 #[.val (.int p1), .val (.int p2), .val (.int p3), .val (.int y), .val (.ref c1), .unset, .unset] [(.int (2 : Int32))])) _
    refine XS.istore X1.here hx rfl (hb hby at_50) rfl (l' := #[.val (.int p1), .val (.int p2), .val (.int p3), .val (.int y), .val (.ref c1), .val (.int (2 : Int32)), .unset]) rfl ?_
    show Steps p.tables e below (T1.setTop (mkF m 52 #[.val (.int p1), .val (.int p2), .val (.int p3), .val (.int y), .val (.ref c1), .val (.int (2 : Int32)), .unset] [])) _
    refine XS.goto X1.here hx rfl (pc0 := 52) (pc' := 70) rfl (hb hby at_52) (by decide) (by decide) ?_
    show Steps p.tables e below (T1.setTop (mkF m 70 #[.val (.int p1), .val (.int p2), .val (.int p3), .val (.int y), .val (.ref c1), .val (.int (2 : Int32)), .unset] [])) _
    refine XS.aload X1.here hx rfl (hb hby at_70) rfl rfl ?_
    show Steps p.tables e below (T1.setTop (mkF m 72 #[.val (.int p1), .val (.int p2), .val (.int p3), .val (.int y), .val (.ref c1), .val (.int (2 : Int32)), .unset] [(.ref c1)])) _
    refine X1.arraylength hx Ar2.1 (State.isArrayOf_alike hZ.alike Ar2.2.1) (g := (mkF m 72 #[.val (.int p1), .val (.int p2), .val (.int p3), .val (.int y), .val (.ref c1), .val (.int (2 : Int32)), .unset] [(.ref c1)])) rfl rfl (hb hby at_72) _ ?_
    rw [len_of S2 M2]
    show Steps p.tables e below (T1.setTop (mkF m 73 #[.val (.int p1), .val (.int p2), .val (.int p3), .val (.int y), .val (.ref c1), .val (.int (2 : Int32)), .unset] [(.int (4 : Int32))])) _
    refine XS.iconst X1.here hx rfl (hb hby at_73) ?_
    show Steps p.tables e below (T1.setTop (mkF m 74 #[.val (.int p1), .val (.int p2), .val (.int p3), .val (.int y), .val (.ref c1), .val (.int (2 : Int32)), .unset] [(.int (2 : Int32)), (.int (4 : Int32))])) _
    refine XS.iload X1.here hx rfl (hb hby at_74) rfl ?_
    show Steps p.tables e below (T1.setTop (mkF m 76 #[.val (.int p1), .val (.int p2), .val (.int p3), .val (.int y), .val (.ref c1), .val (.int (2 : Int32)), .unset] [(.int (2 : Int32)), (.int (2 : Int32)), (.int (4 : Int32))])) _
    refine XS.iadd X1.here hx rfl (hb hby at_76) rfl ?_
    show Steps p.tables e below (T1.setTop (mkF m 77 #[.val (.int p1), .val (.int p2), .val (.int p3), .val (.int y), .val (.ref c1), .val (.int (2 : Int32)), .unset] [(.int ((2 : Int32) + (2 : Int32))), (.int (4 : Int32))])) _
    rw [show ((2 : Int32) + (2 : Int32)) = (4 : Int32) from by decide]
    show Steps p.tables e below (T1.setTop (mkF m 77 #[.val (.int p1), .val (.int p2), .val (.int p3), .val (.int y), .val (.ref c1), .val (.int (2 : Int32)), .unset] [(.int (4 : Int32)), (.int (4 : Int32))])) _
    refine XS.icmpYes X1.here hx rfl (pc0 := 77) (pc' := 82) rfl (hb hby at_77) rfl (teq ((by decide) : (4 : Int32) = (4 : Int32))).1 (by decide) (by decide) ?_
    show Steps p.tables e below (T1.setTop (mkF m 82 #[.val (.int p1), .val (.int p2), .val (.int p3), .val (.int y), .val (.ref c1), .val (.int (2 : Int32)), .unset] [])) _
    refine XS.aload X1.here hx rfl (hb hby at_82) rfl rfl ?_
    show Steps p.tables e below (T1.setTop (mkF m 84 #[.val (.int p1), .val (.int p2), .val (.int p3), .val (.int y), .val (.ref c1), .val (.int (2 : Int32)), .unset] [(.ref c1)])) _
    refine XS.iconst X1.here hx rfl (hb hby at_84) ?_
    show Steps p.tables e below (T1.setTop (mkF m 85 #[.val (.int p1), .val (.int p2), .val (.int p3), .val (.int y), .val (.ref c1), .val (.int (2 : Int32)), .unset] [(.int (0 : Int32)), (.ref c1)])) _
    refine X1.baloadBytes hx (j := (0 : Int32)) (v := (.int (nar .byte (p1.toInt8.toInt32)))) Ar3.1 (State.isArrayOf_alike hZ.alike Ar3.2.1) Ar3.2.2 hin3 hat3 (g := (mkF m 85 #[.val (.int p1), .val (.int p2), .val (.int p3), .val (.int y), .val (.ref c1), .val (.int (2 : Int32)), .unset] [(.int (0 : Int32)), (.ref c1)])) rfl rfl (hb hby at_85) _ ?_
    show Steps p.tables e below (T1.setTop (mkF m 86 #[.val (.int p1), .val (.int p2), .val (.int p3), .val (.int y), .val (.ref c1), .val (.int (2 : Int32)), .unset] [(.int (nar .byte (p1.toInt8.toInt32)))])) _
    refine XS.iloadN X1.here hx rfl (hb hby at_86) rfl ?_
    show Steps p.tables e below (T1.setTop (mkF m 87 #[.val (.int p1), .val (.int p2), .val (.int p3), .val (.int y), .val (.ref c1), .val (.int (2 : Int32)), .unset] [(.int p1), (.int (nar .byte (p1.toInt8.toInt32)))])) _
    refine XS.i2b X1.here hx rfl (hb hby at_87) rfl ?_
    show Steps p.tables e below (T1.setTop (mkF m 88 #[.val (.int p1), .val (.int p2), .val (.int p3), .val (.int y), .val (.ref c1), .val (.int (2 : Int32)), .unset] [(.int (p1.toInt8.toInt32)), (.int (nar .byte (p1.toInt8.toInt32)))])) _
    refine XS.icmpYes X1.here hx rfl (pc0 := 88) (pc' := 93) rfl (hb hby at_88) rfl (teq (own_bb p1 : (nar .byte (p1.toInt8.toInt32)) = (p1.toInt8.toInt32))).1 (by decide) (by decide) ?_
    show Steps p.tables e below (T1.setTop (mkF m 93 #[.val (.int p1), .val (.int p2), .val (.int p3), .val (.int y), .val (.ref c1), .val (.int (2 : Int32)), .unset] [])) _
    refine XS.iload X1.here hx rfl (hb hby at_93) rfl ?_
    show Steps p.tables e below (T1.setTop (mkF m 95 #[.val (.int p1), .val (.int p2), .val (.int p3), .val (.int y), .val (.ref c1), .val (.int (2 : Int32)), .unset] [(.int (2 : Int32))])) _
    refine XS.ifYes X1.here hx rfl (pc0 := 95) (pc' := 113) rfl (hb hby at_95) rfl ((if0 _ _).trans (feq ((by decide) : ¬ ((2 : Int32) = (0 : Int32)))).2) (by decide) (by decide) ?_
    show Steps p.tables e below (T1.setTop (mkF m 113 #[.val (.int p1), .val (.int p2), .val (.int p3), .val (.int y), .val (.ref c1), .val (.int (2 : Int32)), .unset] [])) _
    refine XS.aload X1.here hx rfl (hb hby at_113) rfl rfl ?_
    show Steps p.tables e below (T1.setTop (mkF m 115 #[.val (.int p1), .val (.int p2), .val (.int p3), .val (.int y), .val (.ref c1), .val (.int (2 : Int32)), .unset] [(.ref c1)])) _
    refine XS.iconst X1.here hx rfl (hb hby at_115) ?_
    show Steps p.tables e below (T1.setTop (mkF m 116 #[.val (.int p1), .val (.int p2), .val (.int p3), .val (.int y), .val (.ref c1), .val (.int (2 : Int32)), .unset] [(.int (1 : Int32)), (.ref c1)])) _
    refine st4 _ ?_
    show Steps p.tables e below (T4.setTop (mkF m 119 #[.val (.int p1), .val (.int p2), .val (.int p3), .val (.int y), .val (.ref c1), .val (.int (2 : Int32)), .unset] [(.int ((nar .byte ((130 : Int32).toInt8.toInt32)) &&& (255 : Int32)))])) _
    refine XS.sipush X4.here hx rfl (hb hby at_119) ?_
    show Steps p.tables e below (T4.setTop (mkF m 122 #[.val (.int p1), .val (.int p2), .val (.int p3), .val (.int y), .val (.ref c1), .val (.int (2 : Int32)), .unset] [(.int (128 : Int32)), (.int ((nar .byte ((130 : Int32).toInt8.toInt32)) &&& (255 : Int32)))])) _
    refine XS.iload X4.here hx rfl (hb hby at_122) rfl ?_
    show Steps p.tables e below (T4.setTop (mkF m 124 #[.val (.int p1), .val (.int p2), .val (.int p3), .val (.int y), .val (.ref c1), .val (.int (2 : Int32)), .unset] [(.int (2 : Int32)), (.int (128 : Int32)), (.int ((nar .byte ((130 : Int32).toInt8.toInt32)) &&& (255 : Int32)))])) _
    refine XS.ior X4.here hx rfl (hb hby at_124) rfl ?_
    show Steps p.tables e below (T4.setTop (mkF m 125 #[.val (.int p1), .val (.int p2), .val (.int p3), .val (.int y), .val (.ref c1), .val (.int (2 : Int32)), .unset] [(.int ((128 : Int32) ||| (2 : Int32))), (.int ((nar .byte ((130 : Int32).toInt8.toInt32)) &&& (255 : Int32)))])) _
    rw [show ((128 : Int32) ||| (2 : Int32)) = (130 : Int32) from by decide]
    show Steps p.tables e below (T4.setTop (mkF m 125 #[.val (.int p1), .val (.int p2), .val (.int p3), .val (.int y), .val (.ref c1), .val (.int (2 : Int32)), .unset] [(.int (130 : Int32)), (.int ((nar .byte ((130 : Int32).toInt8.toInt32)) &&& (255 : Int32)))])) _
    refine XS.icmpYes X4.here hx rfl (pc0 := 125) (pc' := 130) rfl (hb hby at_125) rfl (teq (by decide : ((nar .byte ((130 : Int32).toInt8.toInt32)) &&& (255 : Int32)) = (130 : Int32))).1 (by decide) (by decide) ?_
    show Steps p.tables e below (T4.setTop (mkF m 130 #[.val (.int p1), .val (.int p2), .val (.int p3), .val (.int y), .val (.ref c1), .val (.int (2 : Int32)), .unset] [])) _
    refine XS.iload X4.here hx rfl (hb hby at_130) rfl ?_
    show Steps p.tables e below (T4.setTop (mkF m 132 #[.val (.int p1), .val (.int p2), .val (.int p3), .val (.int y), .val (.ref c1), .val (.int (2 : Int32)), .unset] [(.int (2 : Int32))])) _
    refine XS.iconst X4.here hx rfl (hb hby at_132) ?_
    show Steps p.tables e below (T4.setTop (mkF m 133 #[.val (.int p1), .val (.int p2), .val (.int p3), .val (.int y), .val (.ref c1), .val (.int (2 : Int32)), .unset] [(.int (1 : Int32)), (.int (2 : Int32))])) _
    refine XS.icmpYes X4.here hx rfl (pc0 := 133) (pc' := 147) rfl (hb hby at_133) rfl (feq ((by decide) : ¬ ((2 : Int32) = (1 : Int32)))).2 (by decide) (by decide) ?_
    show Steps p.tables e below (T4.setTop (mkF m 147 #[.val (.int p1), .val (.int p2), .val (.int p3), .val (.int y), .val (.ref c1), .val (.int (2 : Int32)), .unset] [])) _
    refine XS.iload X4.here hx rfl (hb hby at_147) rfl ?_
    show Steps p.tables e below (T4.setTop (mkF m 149 #[.val (.int p1), .val (.int p2), .val (.int p3), .val (.int y), .val (.ref c1), .val (.int (2 : Int32)), .unset] [(.int (2 : Int32))])) _
    refine XS.iconst X4.here hx rfl (hb hby at_149) ?_
    show Steps p.tables e below (T4.setTop (mkF m 150 #[.val (.int p1), .val (.int p2), .val (.int p3), .val (.int y), .val (.ref c1), .val (.int (2 : Int32)), .unset] [(.int (2 : Int32)), (.int (2 : Int32))])) _
    refine XS.icmpNo X4.here hx rfl (hb hby at_150) rfl (teq ((by decide) : (2 : Int32) = (2 : Int32))).2 ?_
    show Steps p.tables e below (T4.setTop (mkF m 153 #[.val (.int p1), .val (.int p2), .val (.int p3), .val (.int y), .val (.ref c1), .val (.int (2 : Int32)), .unset] [])) _
    refine XS.aload X4.here hx rfl (hb hby at_153) rfl rfl ?_
    show Steps p.tables e below (T4.setTop (mkF m 155 #[.val (.int p1), .val (.int p2), .val (.int p3), .val (.int y), .val (.ref c1), .val (.int (2 : Int32)), .unset] [(.ref c1)])) _
    refine XS.iconst X4.here hx rfl (hb hby at_155) ?_
    show Steps p.tables e below (T4.setTop (mkF m 156 #[.val (.int p1), .val (.int p2), .val (.int p3), .val (.int y), .val (.ref c1), .val (.int (2 : Int32)), .unset] [(.int (2 : Int32)), (.ref c1)])) _
    refine st5 _ ?_
    show Steps p.tables e below (T5.setTop (mkF m 159 #[.val (.int p1), .val (.int p2), .val (.int p3), .val (.int y), .val (.ref c1), .val (.int (2 : Int32)), .unset] [(.int ((nar .byte (((y.toUInt32 >>> ((8 : Int32) &&& 31).toUInt32).toInt32).toInt8.toInt32)) &&& (255 : Int32)))])) _
    refine XS.bipush X5.here hx rfl (hb hby at_159) ?_
    show Steps p.tables e below (T5.setTop (mkF m 161 #[.val (.int p1), .val (.int p2), .val (.int p3), .val (.int y), .val (.ref c1), .val (.int (2 : Int32)), .unset] [(.int (8 : Int32)), (.int ((nar .byte (((y.toUInt32 >>> ((8 : Int32) &&& 31).toUInt32).toInt32).toInt8.toInt32)) &&& (255 : Int32)))])) _
    refine XS.ishl X5.here hx rfl (hb hby at_161) rfl ?_
    show Steps p.tables e below (T5.setTop (mkF m 162 #[.val (.int p1), .val (.int p2), .val (.int p3), .val (.int y), .val (.ref c1), .val (.int (2 : Int32)), .unset] [(.int (((nar .byte (((y.toUInt32 >>> ((8 : Int32) &&& 31).toUInt32).toInt32).toInt8.toInt32)) &&& (255 : Int32)) <<< ((8 : Int32) &&& 31)))])) _
    refine XS.aload X5.here hx rfl (hb hby at_162) rfl rfl ?_
    show Steps p.tables e below (T5.setTop (mkF m 164 #[.val (.int p1), .val (.int p2), .val (.int p3), .val (.int y), .val (.ref c1), .val (.int (2 : Int32)), .unset] [(.ref c1), (.int (((nar .byte (((y.toUInt32 >>> ((8 : Int32) &&& 31).toUInt32).toInt32).toInt8.toInt32)) &&& (255 : Int32)) <<< ((8 : Int32) &&& 31)))])) _
    refine XS.iconst X5.here hx rfl (hb hby at_164) ?_
    show Steps p.tables e below (T5.setTop (mkF m 165 #[.val (.int p1), .val (.int p2), .val (.int p3), .val (.int y), .val (.ref c1), .val (.int (2 : Int32)), .unset] [(.int (3 : Int32)), (.ref c1), (.int (((nar .byte (((y.toUInt32 >>> ((8 : Int32) &&& 31).toUInt32).toInt32).toInt8.toInt32)) &&& (255 : Int32)) <<< ((8 : Int32) &&& 31)))])) _
    refine st6 _ ?_
    show Steps p.tables e below (T6.setTop (mkF m 168 #[.val (.int p1), .val (.int p2), .val (.int p3), .val (.int y), .val (.ref c1), .val (.int (2 : Int32)), .unset] [(.int ((nar .byte (((y.toUInt32 >>> ((0 : Int32) &&& 31).toUInt32).toInt32).toInt8.toInt32)) &&& (255 : Int32))), (.int (((nar .byte (((y.toUInt32 >>> ((8 : Int32) &&& 31).toUInt32).toInt32).toInt8.toInt32)) &&& (255 : Int32)) <<< ((8 : Int32) &&& 31)))])) _
    refine XS.ior X6.here hx rfl (hb hby at_168) rfl ?_
    show Steps p.tables e below (T6.setTop (mkF m 169 #[.val (.int p1), .val (.int p2), .val (.int p3), .val (.int y), .val (.ref c1), .val (.int (2 : Int32)), .unset] [(.int ((((nar .byte (((y.toUInt32 >>> ((8 : Int32) &&& 31).toUInt32).toInt32).toInt8.toInt32)) &&& (255 : Int32)) <<< ((8 : Int32) &&& 31)) ||| ((nar .byte (((y.toUInt32 >>> ((0 : Int32) &&& 31).toUInt32).toInt32).toInt8.toInt32)) &&& (255 : Int32))))])) _
    refine XS.istore X6.here hx rfl (hb hby at_169) rfl (l' := #[.val (.int p1), .val (.int p2), .val (.int p3), .val (.int y), .val (.ref c1), .val (.int (2 : Int32)), .val (.int ((((nar .byte (((y.toUInt32 >>> ((8 : Int32) &&& 31).toUInt32).toInt32).toInt8.toInt32)) &&& (255 : Int32)) <<< ((8 : Int32) &&& 31)) ||| ((nar .byte (((y.toUInt32 >>> ((0 : Int32) &&& 31).toUInt32).toInt32).toInt8.toInt32)) &&& (255 : Int32))))]) rfl ?_
    show Steps p.tables e below (T6.setTop (mkF m 171 #[.val (.int p1), .val (.int p2), .val (.int p3), .val (.int y), .val (.ref c1), .val (.int (2 : Int32)), .val (.int ((((nar .byte (((y.toUInt32 >>> ((8 : Int32) &&& 31).toUInt32).toInt32).toInt8.toInt32)) &&& (255 : Int32)) <<< ((8 : Int32) &&& 31)) ||| ((nar .byte (((y.toUInt32 >>> ((0 : Int32) &&& 31).toUInt32).toInt32).toInt8.toInt32)) &&& (255 : Int32))))] [])) _
    refine XS.goto X6.here hx rfl (pc0 := 171) (pc' := 249) rfl (hb hby at_171) (by decide) (by decide) ?_
    show Steps p.tables e below (T6.setTop (mkF m 249 #[.val (.int p1), .val (.int p2), .val (.int p3), .val (.int y), .val (.ref c1), .val (.int (2 : Int32)), .val (.int ((((nar .byte (((y.toUInt32 >>> ((8 : Int32) &&& 31).toUInt32).toInt32).toInt8.toInt32)) &&& (255 : Int32)) <<< ((8 : Int32) &&& 31)) ||| ((nar .byte (((y.toUInt32 >>> ((0 : Int32) &&& 31).toUInt32).toInt32).toInt8.toInt32)) &&& (255 : Int32))))] [])) _
    refine XS.iload X6.here hx rfl (hb hby at_249) rfl ?_
    show Steps p.tables e below (T6.setTop (mkF m 251 #[.val (.int p1), .val (.int p2), .val (.int p3), .val (.int y), .val (.ref c1), .val (.int (2 : Int32)), .val (.int ((((nar .byte (((y.toUInt32 >>> ((8 : Int32) &&& 31).toUInt32).toInt32).toInt8.toInt32)) &&& (255 : Int32)) <<< ((8 : Int32) &&& 31)) ||| ((nar .byte (((y.toUInt32 >>> ((0 : Int32) &&& 31).toUInt32).toInt32).toInt8.toInt32)) &&& (255 : Int32))))] [(.int ((((nar .byte (((y.toUInt32 >>> ((8 : Int32) &&& 31).toUInt32).toInt32).toInt8.toInt32)) &&& (255 : Int32)) <<< ((8 : Int32) &&& 31)) ||| ((nar .byte (((y.toUInt32 >>> ((0 : Int32) &&& 31).toUInt32).toInt32).toInt8.toInt32)) &&& (255 : Int32))))])) _
    refine XS.iloadN X6.here hx rfl (hb hby at_251) rfl ?_
    show Steps p.tables e below (T6.setTop (mkF m 252 #[.val (.int p1), .val (.int p2), .val (.int p3), .val (.int y), .val (.ref c1), .val (.int (2 : Int32)), .val (.int ((((nar .byte (((y.toUInt32 >>> ((8 : Int32) &&& 31).toUInt32).toInt32).toInt8.toInt32)) &&& (255 : Int32)) <<< ((8 : Int32) &&& 31)) ||| ((nar .byte (((y.toUInt32 >>> ((0 : Int32) &&& 31).toUInt32).toInt32).toInt8.toInt32)) &&& (255 : Int32))))] [(.int y), (.int ((((nar .byte (((y.toUInt32 >>> ((8 : Int32) &&& 31).toUInt32).toInt32).toInt8.toInt32)) &&& (255 : Int32)) <<< ((8 : Int32) &&& 31)) ||| ((nar .byte (((y.toUInt32 >>> ((0 : Int32) &&& 31).toUInt32).toInt32).toInt8.toInt32)) &&& (255 : Int32))))])) _
    refine XS.icmpNo X6.here hx rfl (hb hby at_252) rfl (teq (own_r2 y h0y (own_lt gq3) : ((((nar .byte (((y.toUInt32 >>> ((8 : Int32) &&& 31).toUInt32).toInt32).toInt8.toInt32)) &&& (255 : Int32)) <<< ((8 : Int32) &&& 31)) ||| ((nar .byte (((y.toUInt32 >>> ((0 : Int32) &&& 31).toUInt32).toInt32).toInt8.toInt32)) &&& (255 : Int32))) = y)).2 ?_
    show Steps p.tables e below (T6.setTop (mkF m 255 #[.val (.int p1), .val (.int p2), .val (.int p3), .val (.int y), .val (.ref c1), .val (.int (2 : Int32)), .val (.int ((((nar .byte (((y.toUInt32 >>> ((8 : Int32) &&& 31).toUInt32).toInt32).toInt8.toInt32)) &&& (255 : Int32)) <<< ((8 : Int32) &&& 31)) ||| ((nar .byte (((y.toUInt32 >>> ((0 : Int32) &&& 31).toUInt32).toInt32).toInt8.toInt32)) &&& (255 : Int32))))] [])) _
    refine XS.iconst X6.here hx rfl (hb hby at_255) ?_
    show Steps p.tables e below (T6.setTop (mkF m 256 #[.val (.int p1), .val (.int p2), .val (.int p3), .val (.int y), .val (.ref c1), .val (.int (2 : Int32)), .val (.int ((((nar .byte (((y.toUInt32 >>> ((8 : Int32) &&& 31).toUInt32).toInt32).toInt8.toInt32)) &&& (255 : Int32)) <<< ((8 : Int32) &&& 31)) ||| ((nar .byte (((y.toUInt32 >>> ((0 : Int32) &&& 31).toUInt32).toInt32).toInt8.toInt32)) &&& (255 : Int32))))] [(.int (1 : Int32))])) _
    refine XS.goto X6.here hx rfl (pc0 := 256) (pc' := 260) rfl (hb hby at_256) (by decide) (by decide) ?_
    show Steps p.tables e below (T6.setTop (mkF m 260 #[.val (.int p1), .val (.int p2), .val (.int p3), .val (.int y), .val (.ref c1), .val (.int (2 : Int32)), .val (.int ((((nar .byte (((y.toUInt32 >>> ((8 : Int32) &&& 31).toUInt32).toInt32).toInt8.toInt32)) &&& (255 : Int32)) <<< ((8 : Int32) &&& 31)) ||| ((nar .byte (((y.toUInt32 >>> ((0 : Int32) &&& 31).toUInt32).toInt32).toInt8.toInt32)) &&& (255 : Int32))))] [(.int (1 : Int32))])) _
    exact retN X6 hx (t := .boolean) Bd.returns (by simp) (hb hby at_260) hr
  · show Q0 Z p1 p2 p3 h0 n0 _ T6.heap _
    rw [eh6]
    exact ⟨rfl, N6⟩
set_option maxRecDepth 65536 in
set_option maxHeartbeats 40000000 in
theorem rm0_3 (l : Launch) (Z : State) (a0 : Array Value) (hw : ∀ d ∈ tables_1, d.before a0 Z = true) (ws : List Jvm.Cond) (p1 p2 p3 y : Int32) (h0 : Heap) (n0 : Nat) (Z0 : n0 ≤ h0.size) (hy : (((p2 &&& (2147483647 : Int32)).toUInt32 >>> ((p3 &&& (31 : Int32)) &&& 31).toUInt32).toInt32) = y) (h0y : 0 ≤ y.toInt) (gq1 : ¬ (y < (128 : Int32))) (gq2 : ¬ (y < (256 : Int32))) (gq3 : ¬ (y < (65536 : Int32))) (gq4 : y < (16777216 : Int32)) (hn : ((((32 : Int32) - (Jvm.Free.JP.Integer_numberOfLeadingZeros_I.val y)) + (7 : Int32)) / (8 : Int32)) = (3 : Int32)) :
    MetFree l x (head1 (Jvm.Cond.code x code maxLocals ret :: ws) room_1) (fun a U => a = #[(.int p1), (.int p2), (.int p3)] ∧ Z.Warmed39 U.vm ∧ U.heap = h0) (fun _ _ _ _ _ => True) (fun _ U o U' => ∃ v L, o = .returned v ∧ Q0 Z p1 p2 p3 h0 n0 v U'.heap L ∧ FrameEnd U o U' L room_1.cells room_1.slots) := by
  refine MetFree.of_bodySF (plainFor_of_name pn_0) hisR ?_
  intro p e s m args below meth c s₁ Bd hml0 hP hK
  obtain ⟨rfl, hZ, hh⟩ := hP
  have hx := Bd.exec
  have hby := Bd.bytes
  have hml : c.maxLocals = 7 := hml0
  have hown : s.vm.findClass "com/example/rollcall/rollcall/DerElementHeaderPinLaw" = some m.cls := findClass_of_methodNamed Bd.named
  have hnm := (name_of_methodNamed Bd.named Bd.method).1
  have X0 : Stand p l e room_1 s m #[(.int p1), (.int p2), (.int p3)] below meth c s₁ [] 0 0 := Stand.of_body Bd
  have e0 : s₁.heap = h0 := by rw [← hh, Bd.state]; rfl
  have N0 := Fr.nil n0
  have pre0 : ∀ tz, Steps p.tables e below (s₁.setTop (mkF m 0 #[.val (.int p1), .val (.int p2), .val (.int p3), .unset, .unset, .unset, .unset] [])) tz → Steps p.tables e below (s₁.setTop (entryFrame m #[(.int p1), (.int p2), (.int p3)] maxLocals)) tz := fun tz kz => castTop (ef_0 m p1 p2 p3) kz
  obtain ⟨_, _, ⟨T1, L1, k1, n1⟩, -, X1, ⟨Lc1, hQ1, l1, y1, z1⟩, st1⟩ := Jvm.LawKit.callS X0 hx (y := (⟨"com/example/rollcall/rollcall/DerElement", "header", "(II)[B"⟩ : MethodName)) hown (mvT hZ (hw _ (List.mem_of_getElem? (i := 1) rfl))) (mvT hZ (hw _ (List.mem_of_getElem? (i := 2) rfl))) (mvT hZ (hw _ (List.mem_of_getElem? (i := 3) rfl))) (mvT hZ (hw _ (List.mem_of_getElem? (i := 4) rfl))) (by decide) (backOf (W := 0) (rmH3 l Z a0 hw [] p1 y h0 n0 Z0 gq1 hn) hZ (hw _ (List.mem_of_getElem? (i := 4) rfl)) (hw _ (List.mem_of_getElem? (i := 3) rfl)) (by decide) (by decide)) (g := (mkF m 12 #[.val (.int p1), .val (.int p2), .val (.int p3), .val (.int y), .unset, .unset, .unset] [(.int y), (.int p1)])) rfl (by rw [hml]; rfl) (argsL := [(.int p1), (.int y)]) (rest := []) (lenOf pd_0_0 rfl) rfl (by show 2 * 0 + _ ≤ _; exact Nat.le_of_eq rfl) (hb hby at_12) (fun _ _ => ⟨rfl, e0, (by decide : 0 + 1 ≤ _), (by decide : 0 + 5 ≤ _)⟩)
  dsimp only [Pt.U, Pt.locs, Pt.cells, Pt.slots] at X1 l1 y1 z1 st1 hQ1
  subst l1 y1 z1
  obtain ⟨rfl, N1q, K1, kk1, Vt1⟩ := hQ1
  have N1 := Fr.app N0 N1q
  have Z1 : n0 ≤ T1.heap.size := Nat.le_trans Z0 K1.1
  obtain ⟨c1, gc1⟩ : ∃ z, z = h0.size := ⟨_, rfl⟩
  rw [← gc1] at st1 Vt1
  obtain ⟨cl2, Ar2, q2, S2, M2, H2, G2⟩ := id Vt1
  obtain ⟨cl3, Ar3, q3, S3, M3, H3, G3⟩ := id Vt1
  have hin3 : ¬ ((0 : Int32) < 0 ∨ cl3.slots.size ≤ ((0 : Int32)).toNatClampNeg) := inb_of S3 ⟨by decide, by decide⟩
  have hat3 : cl3.slots[((0 : Int32)).toNatClampNeg]? = some (.int (nar .byte (p1.toInt8.toInt32))) := Has.at H3 hin3 rfl
  obtain ⟨_, _, ⟨T4, L4, k4, n4⟩, -, X4, ⟨Lc4, hQ4, l4, y4, z4⟩, st4⟩ := Jvm.LawKit.callS X1 hx (y := (⟨"com/example/rollcall/rollcall/DerElementHeaderPinLaw", "u", "([BI)I"⟩ : MethodName)) hown (mvT hZ (hw _ (List.mem_of_getElem? (i := 13) rfl))) (mvT hZ (hw _ (List.mem_of_getElem? (i := 14) rfl))) (mvT hZ (hw _ (List.mem_of_getElem? (i := 15) rfl))) (mvT hZ (hw _ (List.mem_of_getElem? (i := 16) rfl))) (by decide) (backOf (W := 0) (rmU l Z a0 hw [] c1 (1 : Int32) (nar .byte ((131 : Int32).toInt8.toInt32)) kk1 (5 : Int32) _ T1.heap n0 Z1 Vt1 ⟨by decide, by decide⟩ rfl) hZ (hw _ (List.mem_of_getElem? (i := 16) rfl)) (hw _ (List.mem_of_getElem? (i := 15) rfl)) (by decide) (by decide)) (g := (mkF m 116 #[.val (.int p1), .val (.int p2), .val (.int p3), .val (.int y), .val (.ref c1), .val (.int (3 : Int32)), .unset] [(.int (1 : Int32)), (.ref c1)])) rfl (by rw [hml]; rfl) (argsL := [(.ref c1), (.int (1 : Int32))]) (rest := []) (lenOf pd_0_1 rfl) rfl (by show 2 * 0 + _ ≤ _; exact Nat.le_of_eq rfl) (hb hby at_116) (fun _ _ => ⟨rfl, rfl, (by decide : 1 + 0 ≤ _), (by decide : 5 + 0 ≤ _)⟩)
  dsimp only [Pt.U, Pt.locs, Pt.cells, Pt.slots] at X4 l4 y4 z4 st4 hQ4
  subst l4 y4 z4
  obtain ⟨rfl, N4q, eh4⟩ := hQ4
  have N4 := Fr.app N1 N4q
  obtain ⟨_, _, ⟨T5, L5, k5, n5⟩, -, X5, ⟨Lc5, hQ5, l5, y5, z5⟩, st5⟩ := Jvm.LawKit.callS X4 hx (y := (⟨"com/example/rollcall/rollcall/DerElementHeaderPinLaw", "u", "([BI)I"⟩ : MethodName)) hown (mvT hZ (hw _ (List.mem_of_getElem? (i := 13) rfl))) (mvT hZ (hw _ (List.mem_of_getElem? (i := 14) rfl))) (mvT hZ (hw _ (List.mem_of_getElem? (i := 15) rfl))) (mvT hZ (hw _ (List.mem_of_getElem? (i := 16) rfl))) (by decide) (backOf (W := 0) (rmU l Z a0 hw [] c1 (2 : Int32) (nar .byte (((y.toUInt32 >>> ((16 : Int32) &&& 31).toUInt32).toInt32).toInt8.toInt32)) kk1 (5 : Int32) _ T1.heap n0 Z1 Vt1 ⟨by decide, by decide⟩ rfl) hZ (hw _ (List.mem_of_getElem? (i := 16) rfl)) (hw _ (List.mem_of_getElem? (i := 15) rfl)) (by decide) (by decide)) (g := (mkF m 183 #[.val (.int p1), .val (.int p2), .val (.int p3), .val (.int y), .val (.ref c1), .val (.int (3 : Int32)), .unset] [(.int (2 : Int32)), (.ref c1)])) rfl (by rw [hml]; rfl) (argsL := [(.ref c1), (.int (2 : Int32))]) (rest := []) (lenOf pd_0_1 rfl) rfl (by show 2 * 0 + _ ≤ _; exact Nat.le_of_eq rfl) (hb hby at_183) (fun _ _ => ⟨rfl, eh4, (by decide : 1 + 0 ≤ _), (by decide : 5 + 0 ≤ _)⟩)
  dsimp only [Pt.U, Pt.locs, Pt.cells, Pt.slots] at X5 l5 y5 z5 st5 hQ5
  subst l5 y5 z5
  obtain ⟨rfl, N5q, eh5⟩ := hQ5
  have N5 := Fr.app N4 N5q
  obtain ⟨_, _, ⟨T6, L6, k6, n6⟩, -, X6, ⟨Lc6, hQ6, l6, y6, z6⟩, st6⟩ := Jvm.LawKit.callS X5 hx (y := (⟨"com/example/rollcall/rollcall/DerElementHeaderPinLaw", "u", "([BI)I"⟩ : MethodName)) hown (mvT hZ (hw _ (List.mem_of_getElem? (i := 13) rfl))) (mvT hZ (hw _ (List.mem_of_getElem? (i := 14) rfl))) (mvT hZ (hw _ (List.mem_of_getElem? (i := 15) rfl))) (mvT hZ (hw _ (List.mem_of_getElem? (i := 16) rfl))) (by decide) (backOf (W := 1) (rmU l Z a0 hw [] c1 (3 : Int32) (nar .byte (((y.toUInt32 >>> ((8 : Int32) &&& 31).toUInt32).toInt32).toInt8.toInt32)) kk1 (5 : Int32) _ T1.heap n0 Z1 Vt1 ⟨by decide, by decide⟩ rfl) hZ (hw _ (List.mem_of_getElem? (i := 16) rfl)) (hw _ (List.mem_of_getElem? (i := 15) rfl)) (by decide) (by decide)) (g := (mkF m 192 #[.val (.int p1), .val (.int p2), .val (.int p3), .val (.int y), .val (.ref c1), .val (.int (3 : Int32)), .unset] [(.int (3 : Int32)), (.ref c1), (.int (((nar .byte (((y.toUInt32 >>> ((16 : Int32) &&& 31).toUInt32).toInt32).toInt8.toInt32)) &&& (255 : Int32)) <<< ((16 : Int32) &&& 31)))])) rfl (by rw [hml]; rfl) (argsL := [(.ref c1), (.int (3 : Int32))]) (rest := [(.int (((nar .byte (((y.toUInt32 >>> ((16 : Int32) &&& 31).toUInt32).toInt32).toInt8.toInt32)) &&& (255 : Int32)) <<< ((16 : Int32) &&& 31)))]) (lenOf pd_0_1 rfl) rfl (by show 2 * 0 + _ ≤ _; exact Nat.le_of_eq rfl) (hb hby at_192) (fun _ _ => ⟨rfl, eh5, (by decide : 1 + 0 ≤ _), (by decide : 5 + 0 ≤ _)⟩)
  dsimp only [Pt.U, Pt.locs, Pt.cells, Pt.slots] at X6 l6 y6 z6 st6 hQ6
  subst l6 y6 z6
  obtain ⟨rfl, N6q, eh6⟩ := hQ6
  have N6 := Fr.app N5 N6q
  obtain ⟨_, _, ⟨T7, L7, k7, n7⟩, -, X7, ⟨Lc7, hQ7, l7, y7, z7⟩, st7⟩ := Jvm.LawKit.callS X6 hx (y := (⟨"com/example/rollcall/rollcall/DerElementHeaderPinLaw", "u", "([BI)I"⟩ : MethodName)) hown (mvT hZ (hw _ (List.mem_of_getElem? (i := 13) rfl))) (mvT hZ (hw _ (List.mem_of_getElem? (i := 14) rfl))) (mvT hZ (hw _ (List.mem_of_getElem? (i := 15) rfl))) (mvT hZ (hw _ (List.mem_of_getElem? (i := 16) rfl))) (by decide) (backOf (W := 1) (rmU l Z a0 hw [] c1 (4 : Int32) (nar .byte (((y.toUInt32 >>> ((0 : Int32) &&& 31).toUInt32).toInt32).toInt8.toInt32)) kk1 (5 : Int32) _ T1.heap n0 Z1 Vt1 ⟨by decide, by decide⟩ rfl) hZ (hw _ (List.mem_of_getElem? (i := 16) rfl)) (hw _ (List.mem_of_getElem? (i := 15) rfl)) (by decide) (by decide)) (g := (mkF m 202 #[.val (.int p1), .val (.int p2), .val (.int p3), .val (.int y), .val (.ref c1), .val (.int (3 : Int32)), .unset] [(.int (4 : Int32)), (.ref c1), (.int ((((nar .byte (((y.toUInt32 >>> ((16 : Int32) &&& 31).toUInt32).toInt32).toInt8.toInt32)) &&& (255 : Int32)) <<< ((16 : Int32) &&& 31)) ||| (((nar .byte (((y.toUInt32 >>> ((8 : Int32) &&& 31).toUInt32).toInt32).toInt8.toInt32)) &&& (255 : Int32)) <<< ((8 : Int32) &&& 31))))])) rfl (by rw [hml]; rfl) (argsL := [(.ref c1), (.int (4 : Int32))]) (rest := [(.int ((((nar .byte (((y.toUInt32 >>> ((16 : Int32) &&& 31).toUInt32).toInt32).toInt8.toInt32)) &&& (255 : Int32)) <<< ((16 : Int32) &&& 31)) ||| (((nar .byte (((y.toUInt32 >>> ((8 : Int32) &&& 31).toUInt32).toInt32).toInt8.toInt32)) &&& (255 : Int32)) <<< ((8 : Int32) &&& 31))))]) (lenOf pd_0_1 rfl) rfl (by show 2 * 0 + _ ≤ _; exact Nat.le_of_eq rfl) (hb hby at_202) (fun _ _ => ⟨rfl, eh6, (by decide : 1 + 0 ≤ _), (by decide : 5 + 0 ≤ _)⟩)
  dsimp only [Pt.U, Pt.locs, Pt.cells, Pt.slots] at X7 l7 y7 z7 st7 hQ7
  subst l7 y7 z7
  obtain ⟨rfl, N7q, eh7⟩ := hQ7
  have N7 := Fr.app N6 N7q
  obtain ⟨fs, hr, hrun, hended, hW, hsame⟩ := X7.leave (v := some (.int (1 : Int32))) (fun h => by rw [Bd.returns] at h; cases h)
  refine ⟨_, _, pre0 _ ?_, hrun, hended, _, _, rfl, ?_, ⟨_, rfl⟩, hW, hsame.mono (by decide) (by decide)⟩
  · show Steps p.tables e below (s₁.setTop (mkF m 0 #[.val (.int p1), .val (.int p2), .val (.int p3), .unset, .unset, .unset, .unset] [])) _
    refine XS.iloadN X0.here hx rfl (hb hby at_0) rfl ?_
    show Steps p.tables e below (s₁.setTop (mkF m 1 #[.val (.int p1), .val (.int p2), .val (.int p3), .unset, .unset, .unset, .unset] [(.int p2)])) _
    refine X0.ldcInt hx hown (mvT hZ (hw _ (List.mem_of_getElem? (i := 0) rfl))) (g := (mkF m 1 #[.val (.int p1), .val (.int p2), .val (.int p3), .unset, .unset, .unset, .unset] [(.int p2)])) rfl (hb hby at_1) _ ?_
    show Steps p.tables e below (s₁.setTop (mkF m 3 #[.val (.int p1), .val (.int p2), .val (.int p3), .unset, .unset, .unset, .unset] [(.int (2147483647 : Int32)), (.int p2)])) _
    refine XS.iand X0.here hx rfl (hb hby at_3) rfl ?_
    show Steps p.tables e below (s₁.setTop (mkF m 4 #[.val (.int p1), .val (.int p2), .val (.int p3), .unset, .unset, .unset, .unset] [(.int (p2 &&& (2147483647 : Int32)))])) _
    refine XS.iloadN X0.here hx rfl (hb hby at_4) rfl ?_
    show Steps p.tables e below (s₁.setTop (mkF m 5 #[.val (.int p1), .val (.int p2), .val (.int p3), .unset, .unset, .unset, .unset] [(.int p3), (.int (p2 &&& (2147483647 : Int32)))])) _
    refine XS.bipush X0.here hx rfl (hb hby at_5) ?_
    show Steps p.tables e below (s₁.setTop (mkF m 7 #[.val (.int p1), .val (.int p2), .val (.int p3), .unset, .unset, .unset, .unset] [(.int (31 : Int32)), (.int p3), (.int (p2 &&& (2147483647 : Int32)))])) _
    refine XS.iand X0.here hx rfl (hb hby at_7) rfl ?_
    show Steps p.tables e below (s₁.setTop (mkF m 8 #[.val (.int p1), .val (.int p2), .val (.int p3), .unset, .unset, .unset, .unset] [(.int (p3 &&& (31 : Int32))), (.int (p2 &&& (2147483647 : Int32)))])) _
    refine XS.iushr X0.here hx rfl (hb hby at_8) rfl ?_
    show Steps p.tables e below (s₁.setTop (mkF m 9 #[.val (.int p1), .val (.int p2), .val (.int p3), .unset, .unset, .unset, .unset] [(.int (((p2 &&& (2147483647 : Int32)).toUInt32 >>> ((p3 &&& (31 : Int32)) &&& 31).toUInt32).toInt32))])) _
    rw [hy]
    show Steps p.tables e below (s₁.setTop (mkF m 9 #[.val (.int p1), .val (.int p2), .val (.int p3), .unset, .unset, .unset, .unset] [(.int y)])) _
    refine XS.istoreN X0.here hx rfl (hb hby at_9) rfl (l' := #[.val (.int p1), .val (.int p2), .val (.int p3), .val (.int y), .unset, .unset, .unset]) rfl ?_
    show Steps p.tables e below (s₁.setTop (mkF m 10 #[.val (.int p1), .val (.int p2), .val (.int p3), .val (.int y), .unset, .unset, .unset] [])) _
    refine XS.iloadN X0.here hx rfl (hb hby at_10) rfl ?_
    show Steps p.tables e below (s₁.setTop (mkF m 11 #[.val (.int p1), .val (.int p2), .val (.int p3), .val (.int y), .unset, .unset, .unset] [(.int p1)])) _
    refine XS.iloadN X0.here hx rfl (hb hby at_11) rfl ?_
    show Steps p.tables e below (s₁.setTop (mkF m 12 #[.val (.int p1), .val (.int p2), .val (.int p3), .val (.int y), .unset, .unset, .unset] [(.int y), (.int p1)])) _
    refine st1 _ ?_
    show Steps p.tables e below (T1.setTop (mkF m 15 #[.val (.int p1), .val (.int p2), .val (.int p3), .val (.int y), .unset, .unset, .unset] [(.ref c1)])) _
    refine XS.astore X1.here hx rfl (hb hby at_15) rfl rfl (l' := #[.val (.int p1), .val (.int p2), .val (.int p3), .val (.int y), .val (.ref c1), .unset, .unset]) rfl ?_
    show Steps p.tables e below (T1.setTop (mkF m 17 #[.val (.int p1), .val (.int p2), .val (.int p3), .val (.int y), .val (.ref c1), .unset, .unset] [])) _
    refine XS.iloadN X1.here hx rfl (hb hby at_17) rfl ?_
    show Steps p.tables e below (T1.setTop (mkF m 18 #[.val (.int p1), .val (.int p2), .val (.int p3), .val (.int y), .val (.ref c1), .unset, .unset] [(.int y)])) _
    refine XS.sipush X1.here hx rfl (hb hby at_18) ?_
    show Steps p.tables e below (T1.setTop (mkF m 21 #[.val (.int p1), .val (.int p2), .val (.int p3), .val (.int y), .val (.ref c1), .unset, .unset] [(.int (128 : Int32)), (.int y)])) _
    refine XS.icmpYes X1.here hx rfl (pc0 := 21) (pc' := 30) rfl (hb hby at_21) rfl (flt (gq1 : ¬ (y < (128 : Int32)))).2.1 (by decide) (by decide) ?_
    show Steps p.tables e below (T1.setTop (mkF m 30 #[.val (.int p1), .val (.int p2), .val (.int p3), .val (.int y), .val (.ref c1), .unset, .unset] [])) _
    refine XS.iloadN X1.here hx rfl (hb hby at_30) rfl ?_
    show Steps p.tables e below (T1.setTop (mkF m 31 #[.val (.int p1), .val (.int p2), .val (.int p3), .val (.int y), .val (.ref c1), .unset, .unset] [(.int y)])) _
    refine XS.sipush X1.here hx rfl (hb hby at_31) ?_
    show Steps p.tables e below (T1.setTop (mkF m 34 #[.val (.int p1), .val (.int p2), .val (.int p3), .val (.int y), .val (.ref c1), .unset, .unset] [(.int (256 : Int32)), (.int y)])) _
    refine XS.icmpYes X1.here hx rfl (pc0 := 34) (pc' := 43) rfl (hb hby at_34) rfl (flt (gq2 : ¬ (y < (256 : Int32)))).2.1 (by decide) (by decide) ?_
    show Steps p.tables e below (T1.setTop (mkF m 43 #[.val (.int p1), .val (.int p2), .val (.int p3), .val (.int y), .val (.ref c1), .unset, .unset] [])) _
    refine XS.iloadN X1.here hx rfl (hb hby at_43) rfl ?_
    show Steps p.tables e below (T1.setTop (mkF m 44 #[.val (.int p1), .val (.int p2), .val (.int p3), .val (.int y), .val (.ref c1), .unset, .unset] [(.int y)])) _
    refine X1.ldcInt hx hown (mvT hZ (hw _ (List.mem_of_getElem? (i := 11) rfl))) (g := (mkF m 44 #[.val (.int p1), .val (.int p2), .val (.int p3), .val (.int y), .val (.ref c1), .unset, .unset] [(.int y)])) rfl (hb hby at_44) _ ?_
    show Steps p.tables e below (T1.setTop (mkF m 46 #[.val (.int p1), .val (.int p2), .val (.int p3), .val (.int y), .val (.ref c1), .unset, .unset] [(.int (65536 : Int32)), (.int y)])) _
    refine XS.icmpYes X1.here hx rfl (pc0 := 46) (pc' := 55) rfl (hb hby at_46) rfl (flt (gq3 : ¬ (y < (65536 : Int32)))).2.1 (by decide) (by decide) ?_
    show Steps p.tables e below (T1.setTop (mkF m 55 #[.val (.int p1), .val (.int p2), .val (.int p3), .val (.int y), .val (.ref c1), .unset, .unset] [])) _
    refine XS.iloadN X1.here hx rfl (hb hby at_55) rfl ?_
    show Steps p.tables e below (T1.setTop (mkF m 56 #[.val (.int p1), .val (.int p2), .val (.int p3), .val (.int y), .val (.ref c1), .unset, .unset] [(.int y)])) _
    refine X1.ldcInt hx hown (mvT hZ (hw _ (List.mem_of_getElem? (i := 12) rfl))) (g := (mkF m 56 #[.val (.int p1), .val (.int p2), .val (.int p3), .val (.int y), .val (.ref c1), .unset, .unset] [(.int y)])) rfl (hb hby at_56) _ ?_
    show Steps p.tables e below (T1.setTop (mkF m 58 #[.val (.int p1), .val (.int p2), .val (.int p3), .val (.int y), .val (.ref c1), .unset, .unset] [(.int (16777216 : Int32)), (.int y)])) _
    refine XS.icmpNo X1.here hx rfl (hb hby at_58) rfl (tlt (gq4 : y < (16777216 : Int32))).2.1 ?_
    show Steps p.tables e below (T1.setTop (mkF m 61 #[.val (.int p1), .val (.int p2), .val (.int p3), .val (.int y), .val (.ref c1), .unset, .unset] [])) _
    refine XS.iconst X1.here hx rfl (hb hby at_61) ?_
    show Steps p.tables e below (T1.setTop (mkF m 62 #[.val (.int p1), .val (.int p2), .val (.int p3), .val (.int y), .val (.ref c1), .unset, .unset] [(.int (3 : Int32))])) _
    refine XS.istore X1.here hx rfl (hb hby at_62) rfl (l' := #[.val (.int p1), .val (.int p2), .val (.int p3), .val (.int y), .val (.ref c1), .val (.int (3 : Int32)), .unset]) rfl ?_
    show Steps p.tables e below (T1.setTop (mkF m 64 #[.val (.int p1), .val (.int p2), .val (.int p3), .val (.int y), .val (.ref c1), .val (.int (3 : Int32)), .unset] [])) _
    refine XS.goto X1.here hx rfl (pc0 := 64) (pc' := 70) rfl (hb hby at_64) (by decide) (by decide) ?_
    show Steps p.tables e below (T1.setTop (mkF m 70 #[.val (.int p1), .val (.int p2), .val (.int p3), .val (.int y), .val (.ref c1), .val (.int (3 : Int32)), .unset] [])) _
    refine XS.aload X1.here hx rfl (hb hby at_70) rfl rfl ?_
    show Steps p.tables e below (T1.setTop (mkF m 72 #[.val (.int p1), .val (.int p2), .val (.int p3), .val (.int y), .val (.ref c1), .val (.int (3 : Int32)), .unset] [(.ref c1)])) _
    refine X1.arraylength hx Ar2.1 (State.isArrayOf_alike hZ.alike Ar2.2.1) (g := (mkF m 72 #[.val (.int p1), .val (.int p2), .val (.int p3), .val (.int y), .val (.ref c1), .val (.int (3 : Int32)), .unset] [(.ref c1)])) rfl rfl (hb hby at_72) _ ?_
    rw [len_of S2 M2]
    show Steps p.tables e below (T1.setTop (mkF m 73 #[.val (.int p1), .val (.int p2), .val (.int p3), .val (.int y), .val (.ref c1), .val (.int (3 : Int32)), .unset] [(.int (5 : Int32))])) _
    refine XS.iconst X1.here hx rfl (hb hby at_73) ?_
    show Steps p.tables e below (T1.setTop (mkF m 74 #[.val (.int p1), .val (.int p2), .val (.int p3), .val (.int y), .val (.ref c1), .val (.int (3 : Int32)), .unset] [(.int (2 : Int32)), (.int (5 : Int32))])) _
    refine XS.iload X1.here hx rfl (hb hby at_74) rfl ?_
    show Steps p.tables e below (T1.setTop (mkF m 76 #[.val (.int p1), .val (.int p2), .val (.int p3), .val (.int y), .val (.ref c1), .val (.int (3 : Int32)), .unset] [(.int (3 : Int32)), (.int (2 : Int32)), (.int (5 : Int32))])) _
    refine XS.iadd X1.here hx rfl (hb hby at_76) rfl ?_
    show Steps p.tables e below (T1.setTop (mkF m 77 #[.val (.int p1), .val (.int p2), .val (.int p3), .val (.int y), .val (.ref c1), .val (.int (3 : Int32)), .unset] [(.int ((2 : Int32) + (3 : Int32))), (.int (5 : Int32))])) _
    rw [show ((2 : Int32) + (3 : Int32)) = (5 : Int32) from by decide]
    show Steps p.tables e below (T1.setTop (mkF m 77 #[.val (.int p1), .val (.int p2), .val (.int p3), .val (.int y), .val (.ref c1), .val (.int (3 : Int32)), .unset] [(.int (5 : Int32)), (.int (5 : Int32))])) _
    refine XS.icmpYes X1.here hx rfl (pc0 := 77) (pc' := 82) rfl (hb hby at_77) rfl (teq ((by decide) : (5 : Int32) = (5 : Int32))).1 (by decide) (by decide) ?_
    show Steps p.tables e below (T1.setTop (mkF m 82 #[.val (.int p1), .val (.int p2), .val (.int p3), .val (.int y), .val (.ref c1), .val (.int (3 : Int32)), .unset] [])) _
    refine XS.aload X1.here hx rfl (hb hby at_82) rfl rfl ?_
    show Steps p.tables e below (T1.setTop (mkF m 84 #[.val (.int p1), .val (.int p2), .val (.int p3), .val (.int y), .val (.ref c1), .val (.int (3 : Int32)), .unset] [(.ref c1)])) _
    refine XS.iconst X1.here hx rfl (hb hby at_84) ?_
    show Steps p.tables e below (T1.setTop (mkF m 85 #[.val (.int p1), .val (.int p2), .val (.int p3), .val (.int y), .val (.ref c1), .val (.int (3 : Int32)), .unset] [(.int (0 : Int32)), (.ref c1)])) _
    refine X1.baloadBytes hx (j := (0 : Int32)) (v := (.int (nar .byte (p1.toInt8.toInt32)))) Ar3.1 (State.isArrayOf_alike hZ.alike Ar3.2.1) Ar3.2.2 hin3 hat3 (g := (mkF m 85 #[.val (.int p1), .val (.int p2), .val (.int p3), .val (.int y), .val (.ref c1), .val (.int (3 : Int32)), .unset] [(.int (0 : Int32)), (.ref c1)])) rfl rfl (hb hby at_85) _ ?_
    show Steps p.tables e below (T1.setTop (mkF m 86 #[.val (.int p1), .val (.int p2), .val (.int p3), .val (.int y), .val (.ref c1), .val (.int (3 : Int32)), .unset] [(.int (nar .byte (p1.toInt8.toInt32)))])) _
    refine XS.iloadN X1.here hx rfl (hb hby at_86) rfl ?_
    show Steps p.tables e below (T1.setTop (mkF m 87 #[.val (.int p1), .val (.int p2), .val (.int p3), .val (.int y), .val (.ref c1), .val (.int (3 : Int32)), .unset] [(.int p1), (.int (nar .byte (p1.toInt8.toInt32)))])) _
    refine XS.i2b X1.here hx rfl (hb hby at_87) rfl ?_
    show Steps p.tables e below (T1.setTop (mkF m 88 #[.val (.int p1), .val (.int p2), .val (.int p3), .val (.int y), .val (.ref c1), .val (.int (3 : Int32)), .unset] [(.int (p1.toInt8.toInt32)), (.int (nar .byte (p1.toInt8.toInt32)))])) _
    refine XS.icmpYes X1.here hx rfl (pc0 := 88) (pc' := 93) rfl (hb hby at_88) rfl (teq (own_bb p1 : (nar .byte (p1.toInt8.toInt32)) = (p1.toInt8.toInt32))).1 (by decide) (by decide) ?_
    show Steps p.tables e below (T1.setTop (mkF m 93 #[.val (.int p1), .val (.int p2), .val (.int p3), .val (.int y), .val (.ref c1), .val (.int (3 : Int32)), .unset] [])) _
    refine XS.iload X1.here hx rfl (hb hby at_93) rfl ?_
    show Steps p.tables e below (T1.setTop (mkF m 95 #[.val (.int p1), .val (.int p2), .val (.int p3), .val (.int y), .val (.ref c1), .val (.int (3 : Int32)), .unset] [(.int (3 : Int32))])) _
    refine XS.ifYes X1.here hx rfl (pc0 := 95) (pc' := 113) rfl (hb hby at_95) rfl ((if0 _ _).trans (feq ((by decide) : ¬ ((3 : Int32) = (0 : Int32)))).2) (by decide) (by decide) ?_
    show Steps p.tables e below (T1.setTop (mkF m 113 #[.val (.int p1), .val (.int p2), .val (.int p3), .val (.int y), .val (.ref c1), .val (.int (3 : Int32)), .unset] [])) _
    refine XS.aload X1.here hx rfl (hb hby at_113) rfl rfl ?_
    show Steps p.tables e below (T1.setTop (mkF m 115 #[.val (.int p1), .val (.int p2), .val (.int p3), .val (.int y), .val (.ref c1), .val (.int (3 : Int32)), .unset] [(.ref c1)])) _
    refine XS.iconst X1.here hx rfl (hb hby at_115) ?_
    show Steps p.tables e below (T1.setTop (mkF m 116 #[.val (.int p1), .val (.int p2), .val (.int p3), .val (.int y), .val (.ref c1), .val (.int (3 : Int32)), .unset] [(.int (1 : Int32)), (.ref c1)])) _
    refine st4 _ ?_
    show Steps p.tables e below (T4.setTop (mkF m 119 #[.val (.int p1), .val (.int p2), .val (.int p3), .val (.int y), .val (.ref c1), .val (.int (3 : Int32)), .unset] [(.int ((nar .byte ((131 : Int32).toInt8.toInt32)) &&& (255 : Int32)))])) _
    refine XS.sipush X4.here hx rfl (hb hby at_119) ?_
    show Steps p.tables e below (T4.setTop (mkF m 122 #[.val (.int p1), .val (.int p2), .val (.int p3), .val (.int y), .val (.ref c1), .val (.int (3 : Int32)), .unset] [(.int (128 : Int32)), (.int ((nar .byte ((131 : Int32).toInt8.toInt32)) &&& (255 : Int32)))])) _
    refine XS.iload X4.here hx rfl (hb hby at_122) rfl ?_
    show Steps p.tables e below (T4.setTop (mkF m 124 #[.val (.int p1), .val (.int p2), .val (.int p3), .val (.int y), .val (.ref c1), .val (.int (3 : Int32)), .unset] [(.int (3 : Int32)), (.int (128 : Int32)), (.int ((nar .byte ((131 : Int32).toInt8.toInt32)) &&& (255 : Int32)))])) _
    refine XS.ior X4.here hx rfl (hb hby at_124) rfl ?_
    show Steps p.tables e below (T4.setTop (mkF m 125 #[.val (.int p1), .val (.int p2), .val (.int p3), .val (.int y), .val (.ref c1), .val (.int (3 : Int32)), .unset] [(.int ((128 : Int32) ||| (3 : Int32))), (.int ((nar .byte ((131 : Int32).toInt8.toInt32)) &&& (255 : Int32)))])) _
    rw [show ((128 : Int32) ||| (3 : Int32)) = (131 : Int32) from by decide]
    show Steps p.tables e below (T4.setTop (mkF m 125 #[.val (.int p1), .val (.int p2), .val (.int p3), .val (.int y), .val (.ref c1), .val (.int (3 : Int32)), .unset] [(.int (131 : Int32)), (.int ((nar .byte ((131 : Int32).toInt8.toInt32)) &&& (255 : Int32)))])) _
    refine XS.icmpYes X4.here hx rfl (pc0 := 125) (pc' := 130) rfl (hb hby at_125) rfl (teq (by decide : ((nar .byte ((131 : Int32).toInt8.toInt32)) &&& (255 : Int32)) = (131 : Int32))).1 (by decide) (by decide) ?_
    show Steps p.tables e below (T4.setTop (mkF m 130 #[.val (.int p1), .val (.int p2), .val (.int p3), .val (.int y), .val (.ref c1), .val (.int (3 : Int32)), .unset] [])) _
    refine XS.iload X4.here hx rfl (hb hby at_130) rfl ?_
    show Steps p.tables e below (T4.setTop (mkF m 132 #[.val (.int p1), .val (.int p2), .val (.int p3), .val (.int y), .val (.ref c1), .val (.int (3 : Int32)), .unset] [(.int (3 : Int32))])) _
    refine XS.iconst X4.here hx rfl (hb hby at_132) ?_
    show Steps p.tables e below (T4.setTop (mkF m 133 #[.val (.int p1), .val (.int p2), .val (.int p3), .val (.int y), .val (.ref c1), .val (.int (3 : Int32)), .unset] [(.int (1 : Int32)), (.int (3 : Int32))])) _
    refine XS.icmpYes X4.here hx rfl (pc0 := 133) (pc' := 147) rfl (hb hby at_133) rfl (feq ((by decide) : ¬ ((3 : Int32) = (1 : Int32)))).2 (by decide) (by decide) ?_
    show Steps p.tables e below (T4.setTop (mkF m 147 #[.val (.int p1), .val (.int p2), .val (.int p3), .val (.int y), .val (.ref c1), .val (.int (3 : Int32)), .unset] [])) _
    refine XS.iload X4.here hx rfl (hb hby at_147) rfl ?_
    show Steps p.tables e below (T4.setTop (mkF m 149 #[.val (.int p1), .val (.int p2), .val (.int p3), .val (.int y), .val (.ref c1), .val (.int (3 : Int32)), .unset] [(.int (3 : Int32))])) _
    refine XS.iconst X4.here hx rfl (hb hby at_149) ?_
    show Steps p.tables e below (T4.setTop (mkF m 150 #[.val (.int p1), .val (.int p2), .val (.int p3), .val (.int y), .val (.ref c1), .val (.int (3 : Int32)), .unset] [(.int (2 : Int32)), (.int (3 : Int32))])) _
    refine XS.icmpYes X4.here hx rfl (pc0 := 150) (pc' := 174) rfl (hb hby at_150) rfl (feq ((by decide) : ¬ ((3 : Int32) = (2 : Int32)))).2 (by decide) (by decide) ?_
    show Steps p.tables e below (T4.setTop (mkF m 174 #[.val (.int p1), .val (.int p2), .val (.int p3), .val (.int y), .val (.ref c1), .val (.int (3 : Int32)), .unset] [])) _
    refine XS.iload X4.here hx rfl (hb hby at_174) rfl ?_
    show Steps p.tables e below (T4.setTop (mkF m 176 #[.val (.int p1), .val (.int p2), .val (.int p3), .val (.int y), .val (.ref c1), .val (.int (3 : Int32)), .unset] [(.int (3 : Int32))])) _
    refine XS.iconst X4.here hx rfl (hb hby at_176) ?_
    show Steps p.tables e below (T4.setTop (mkF m 177 #[.val (.int p1), .val (.int p2), .val (.int p3), .val (.int y), .val (.ref c1), .val (.int (3 : Int32)), .unset] [(.int (3 : Int32)), (.int (3 : Int32))])) _
    refine XS.icmpNo X4.here hx rfl (hb hby at_177) rfl (teq ((by decide) : (3 : Int32) = (3 : Int32))).2 ?_
    show Steps p.tables e below (T4.setTop (mkF m 180 #[.val (.int p1), .val (.int p2), .val (.int p3), .val (.int y), .val (.ref c1), .val (.int (3 : Int32)), .unset] [])) _
    refine XS.aload X4.here hx rfl (hb hby at_180) rfl rfl ?_
    show Steps p.tables e below (T4.setTop (mkF m 182 #[.val (.int p1), .val (.int p2), .val (.int p3), .val (.int y), .val (.ref c1), .val (.int (3 : Int32)), .unset] [(.ref c1)])) _
    refine XS.iconst X4.here hx rfl (hb hby at_182) ?_
    show Steps p.tables e below (T4.setTop (mkF m 183 #[.val (.int p1), .val (.int p2), .val (.int p3), .val (.int y), .val (.ref c1), .val (.int (3 : Int32)), .unset] [(.int (2 : Int32)), (.ref c1)])) _
    refine st5 _ ?_
    show Steps p.tables e below (T5.setTop (mkF m 186 #[.val (.int p1), .val (.int p2), .val (.int p3), .val (.int y), .val (.ref c1), .val (.int (3 : Int32)), .unset] [(.int ((nar .byte (((y.toUInt32 >>> ((16 : Int32) &&& 31).toUInt32).toInt32).toInt8.toInt32)) &&& (255 : Int32)))])) _
    refine XS.bipush X5.here hx rfl (hb hby at_186) ?_
    show Steps p.tables e below (T5.setTop (mkF m 188 #[.val (.int p1), .val (.int p2), .val (.int p3), .val (.int y), .val (.ref c1), .val (.int (3 : Int32)), .unset] [(.int (16 : Int32)), (.int ((nar .byte (((y.toUInt32 >>> ((16 : Int32) &&& 31).toUInt32).toInt32).toInt8.toInt32)) &&& (255 : Int32)))])) _
    refine XS.ishl X5.here hx rfl (hb hby at_188) rfl ?_
    show Steps p.tables e below (T5.setTop (mkF m 189 #[.val (.int p1), .val (.int p2), .val (.int p3), .val (.int y), .val (.ref c1), .val (.int (3 : Int32)), .unset] [(.int (((nar .byte (((y.toUInt32 >>> ((16 : Int32) &&& 31).toUInt32).toInt32).toInt8.toInt32)) &&& (255 : Int32)) <<< ((16 : Int32) &&& 31)))])) _
    refine XS.aload X5.here hx rfl (hb hby at_189) rfl rfl ?_
    show Steps p.tables e below (T5.setTop (mkF m 191 #[.val (.int p1), .val (.int p2), .val (.int p3), .val (.int y), .val (.ref c1), .val (.int (3 : Int32)), .unset] [(.ref c1), (.int (((nar .byte (((y.toUInt32 >>> ((16 : Int32) &&& 31).toUInt32).toInt32).toInt8.toInt32)) &&& (255 : Int32)) <<< ((16 : Int32) &&& 31)))])) _
    refine XS.iconst X5.here hx rfl (hb hby at_191) ?_
    show Steps p.tables e below (T5.setTop (mkF m 192 #[.val (.int p1), .val (.int p2), .val (.int p3), .val (.int y), .val (.ref c1), .val (.int (3 : Int32)), .unset] [(.int (3 : Int32)), (.ref c1), (.int (((nar .byte (((y.toUInt32 >>> ((16 : Int32) &&& 31).toUInt32).toInt32).toInt8.toInt32)) &&& (255 : Int32)) <<< ((16 : Int32) &&& 31)))])) _
    refine st6 _ ?_
    show Steps p.tables e below (T6.setTop (mkF m 195 #[.val (.int p1), .val (.int p2), .val (.int p3), .val (.int y), .val (.ref c1), .val (.int (3 : Int32)), .unset] [(.int ((nar .byte (((y.toUInt32 >>> ((8 : Int32) &&& 31).toUInt32).toInt32).toInt8.toInt32)) &&& (255 : Int32))), (.int (((nar .byte (((y.toUInt32 >>> ((16 : Int32) &&& 31).toUInt32).toInt32).toInt8.toInt32)) &&& (255 : Int32)) <<< ((16 : Int32) &&& 31)))])) _
    refine XS.bipush X6.here hx rfl (hb hby at_195) ?_
    show Steps p.tables e below (T6.setTop (mkF m 197 #[.val (.int p1), .val (.int p2), .val (.int p3), .val (.int y), .val (.ref c1), .val (.int (3 : Int32)), .unset] [(.int (8 : Int32)), (.int ((nar .byte (((y.toUInt32 >>> ((8 : Int32) &&& 31).toUInt32).toInt32).toInt8.toInt32)) &&& (255 : Int32))), (.int (((nar .byte (((y.toUInt32 >>> ((16 : Int32) &&& 31).toUInt32).toInt32).toInt8.toInt32)) &&& (255 : Int32)) <<< ((16 : Int32) &&& 31)))])) _
    refine XS.ishl X6.here hx rfl (hb hby at_197) rfl ?_
    show Steps p.tables e below (T6.setTop (mkF m 198 #[.val (.int p1), .val (.int p2), .val (.int p3), .val (.int y), .val (.ref c1), .val (.int (3 : Int32)), .unset] [(.int (((nar .byte (((y.toUInt32 >>> ((8 : Int32) &&& 31).toUInt32).toInt32).toInt8.toInt32)) &&& (255 : Int32)) <<< ((8 : Int32) &&& 31))), (.int (((nar .byte (((y.toUInt32 >>> ((16 : Int32) &&& 31).toUInt32).toInt32).toInt8.toInt32)) &&& (255 : Int32)) <<< ((16 : Int32) &&& 31)))])) _
    refine XS.ior X6.here hx rfl (hb hby at_198) rfl ?_
    show Steps p.tables e below (T6.setTop (mkF m 199 #[.val (.int p1), .val (.int p2), .val (.int p3), .val (.int y), .val (.ref c1), .val (.int (3 : Int32)), .unset] [(.int ((((nar .byte (((y.toUInt32 >>> ((16 : Int32) &&& 31).toUInt32).toInt32).toInt8.toInt32)) &&& (255 : Int32)) <<< ((16 : Int32) &&& 31)) ||| (((nar .byte (((y.toUInt32 >>> ((8 : Int32) &&& 31).toUInt32).toInt32).toInt8.toInt32)) &&& (255 : Int32)) <<< ((8 : Int32) &&& 31))))])) _
    refine XS.aload X6.here hx rfl (hb hby at_199) rfl rfl ?_
    show Steps p.tables e below (T6.setTop (mkF m 201 #[.val (.int p1), .val (.int p2), .val (.int p3), .val (.int y), .val (.ref c1), .val (.int (3 : Int32)), .unset] [(.ref c1), (.int ((((nar .byte (((y.toUInt32 >>> ((16 : Int32) &&& 31).toUInt32).toInt32).toInt8.toInt32)) &&& (255 : Int32)) <<< ((16 : Int32) &&& 31)) ||| (((nar .byte (((y.toUInt32 >>> ((8 : Int32) &&& 31).toUInt32).toInt32).toInt8.toInt32)) &&& (255 : Int32)) <<< ((8 : Int32) &&& 31))))])) _
    refine XS.iconst X6.here hx rfl (hb hby at_201) ?_
    show Steps p.tables e below (T6.setTop (mkF m 202 #[.val (.int p1), .val (.int p2), .val (.int p3), .val (.int y), .val (.ref c1), .val (.int (3 : Int32)), .unset] [(.int (4 : Int32)), (.ref c1), (.int ((((nar .byte (((y.toUInt32 >>> ((16 : Int32) &&& 31).toUInt32).toInt32).toInt8.toInt32)) &&& (255 : Int32)) <<< ((16 : Int32) &&& 31)) ||| (((nar .byte (((y.toUInt32 >>> ((8 : Int32) &&& 31).toUInt32).toInt32).toInt8.toInt32)) &&& (255 : Int32)) <<< ((8 : Int32) &&& 31))))])) _
    refine st7 _ ?_
    show Steps p.tables e below (T7.setTop (mkF m 205 #[.val (.int p1), .val (.int p2), .val (.int p3), .val (.int y), .val (.ref c1), .val (.int (3 : Int32)), .unset] [(.int ((nar .byte (((y.toUInt32 >>> ((0 : Int32) &&& 31).toUInt32).toInt32).toInt8.toInt32)) &&& (255 : Int32))), (.int ((((nar .byte (((y.toUInt32 >>> ((16 : Int32) &&& 31).toUInt32).toInt32).toInt8.toInt32)) &&& (255 : Int32)) <<< ((16 : Int32) &&& 31)) ||| (((nar .byte (((y.toUInt32 >>> ((8 : Int32) &&& 31).toUInt32).toInt32).toInt8.toInt32)) &&& (255 : Int32)) <<< ((8 : Int32) &&& 31))))])) _
    refine XS.ior X7.here hx rfl (hb hby at_205) rfl ?_
    show Steps p.tables e below (T7.setTop (mkF m 206 #[.val (.int p1), .val (.int p2), .val (.int p3), .val (.int y), .val (.ref c1), .val (.int (3 : Int32)), .unset] [(.int (((((nar .byte (((y.toUInt32 >>> ((16 : Int32) &&& 31).toUInt32).toInt32).toInt8.toInt32)) &&& (255 : Int32)) <<< ((16 : Int32) &&& 31)) ||| (((nar .byte (((y.toUInt32 >>> ((8 : Int32) &&& 31).toUInt32).toInt32).toInt8.toInt32)) &&& (255 : Int32)) <<< ((8 : Int32) &&& 31))) ||| ((nar .byte (((y.toUInt32 >>> ((0 : Int32) &&& 31).toUInt32).toInt32).toInt8.toInt32)) &&& (255 : Int32))))])) _
    refine XS.istore X7.here hx rfl (hb hby at_206) rfl (l' := #[.val (.int p1), .val (.int p2), .val (.int p3), .val (.int y), .val (.ref c1), .val (.int (3 : Int32)), .val (.int (((((nar .byte (((y.toUInt32 >>> ((16 : Int32) &&& 31).toUInt32).toInt32).toInt8.toInt32)) &&& (255 : Int32)) <<< ((16 : Int32) &&& 31)) ||| (((nar .byte (((y.toUInt32 >>> ((8 : Int32) &&& 31).toUInt32).toInt32).toInt8.toInt32)) &&& (255 : Int32)) <<< ((8 : Int32) &&& 31))) ||| ((nar .byte (((y.toUInt32 >>> ((0 : Int32) &&& 31).toUInt32).toInt32).toInt8.toInt32)) &&& (255 : Int32))))]) rfl ?_
    show Steps p.tables e below (T7.setTop (mkF m 208 #[.val (.int p1), .val (.int p2), .val (.int p3), .val (.int y), .val (.ref c1), .val (.int (3 : Int32)), .val (.int (((((nar .byte (((y.toUInt32 >>> ((16 : Int32) &&& 31).toUInt32).toInt32).toInt8.toInt32)) &&& (255 : Int32)) <<< ((16 : Int32) &&& 31)) ||| (((nar .byte (((y.toUInt32 >>> ((8 : Int32) &&& 31).toUInt32).toInt32).toInt8.toInt32)) &&& (255 : Int32)) <<< ((8 : Int32) &&& 31))) ||| ((nar .byte (((y.toUInt32 >>> ((0 : Int32) &&& 31).toUInt32).toInt32).toInt8.toInt32)) &&& (255 : Int32))))] [])) _
    refine XS.goto X7.here hx rfl (pc0 := 208) (pc' := 249) rfl (hb hby at_208) (by decide) (by decide) ?_
    show Steps p.tables e below (T7.setTop (mkF m 249 #[.val (.int p1), .val (.int p2), .val (.int p3), .val (.int y), .val (.ref c1), .val (.int (3 : Int32)), .val (.int (((((nar .byte (((y.toUInt32 >>> ((16 : Int32) &&& 31).toUInt32).toInt32).toInt8.toInt32)) &&& (255 : Int32)) <<< ((16 : Int32) &&& 31)) ||| (((nar .byte (((y.toUInt32 >>> ((8 : Int32) &&& 31).toUInt32).toInt32).toInt8.toInt32)) &&& (255 : Int32)) <<< ((8 : Int32) &&& 31))) ||| ((nar .byte (((y.toUInt32 >>> ((0 : Int32) &&& 31).toUInt32).toInt32).toInt8.toInt32)) &&& (255 : Int32))))] [])) _
    refine XS.iload X7.here hx rfl (hb hby at_249) rfl ?_
    show Steps p.tables e below (T7.setTop (mkF m 251 #[.val (.int p1), .val (.int p2), .val (.int p3), .val (.int y), .val (.ref c1), .val (.int (3 : Int32)), .val (.int (((((nar .byte (((y.toUInt32 >>> ((16 : Int32) &&& 31).toUInt32).toInt32).toInt8.toInt32)) &&& (255 : Int32)) <<< ((16 : Int32) &&& 31)) ||| (((nar .byte (((y.toUInt32 >>> ((8 : Int32) &&& 31).toUInt32).toInt32).toInt8.toInt32)) &&& (255 : Int32)) <<< ((8 : Int32) &&& 31))) ||| ((nar .byte (((y.toUInt32 >>> ((0 : Int32) &&& 31).toUInt32).toInt32).toInt8.toInt32)) &&& (255 : Int32))))] [(.int (((((nar .byte (((y.toUInt32 >>> ((16 : Int32) &&& 31).toUInt32).toInt32).toInt8.toInt32)) &&& (255 : Int32)) <<< ((16 : Int32) &&& 31)) ||| (((nar .byte (((y.toUInt32 >>> ((8 : Int32) &&& 31).toUInt32).toInt32).toInt8.toInt32)) &&& (255 : Int32)) <<< ((8 : Int32) &&& 31))) ||| ((nar .byte (((y.toUInt32 >>> ((0 : Int32) &&& 31).toUInt32).toInt32).toInt8.toInt32)) &&& (255 : Int32))))])) _
    refine XS.iloadN X7.here hx rfl (hb hby at_251) rfl ?_
    show Steps p.tables e below (T7.setTop (mkF m 252 #[.val (.int p1), .val (.int p2), .val (.int p3), .val (.int y), .val (.ref c1), .val (.int (3 : Int32)), .val (.int (((((nar .byte (((y.toUInt32 >>> ((16 : Int32) &&& 31).toUInt32).toInt32).toInt8.toInt32)) &&& (255 : Int32)) <<< ((16 : Int32) &&& 31)) ||| (((nar .byte (((y.toUInt32 >>> ((8 : Int32) &&& 31).toUInt32).toInt32).toInt8.toInt32)) &&& (255 : Int32)) <<< ((8 : Int32) &&& 31))) ||| ((nar .byte (((y.toUInt32 >>> ((0 : Int32) &&& 31).toUInt32).toInt32).toInt8.toInt32)) &&& (255 : Int32))))] [(.int y), (.int (((((nar .byte (((y.toUInt32 >>> ((16 : Int32) &&& 31).toUInt32).toInt32).toInt8.toInt32)) &&& (255 : Int32)) <<< ((16 : Int32) &&& 31)) ||| (((nar .byte (((y.toUInt32 >>> ((8 : Int32) &&& 31).toUInt32).toInt32).toInt8.toInt32)) &&& (255 : Int32)) <<< ((8 : Int32) &&& 31))) ||| ((nar .byte (((y.toUInt32 >>> ((0 : Int32) &&& 31).toUInt32).toInt32).toInt8.toInt32)) &&& (255 : Int32))))])) _
    refine XS.icmpNo X7.here hx rfl (hb hby at_252) rfl (teq (own_r3 y h0y (own_lt gq4) : (((((nar .byte (((y.toUInt32 >>> ((16 : Int32) &&& 31).toUInt32).toInt32).toInt8.toInt32)) &&& (255 : Int32)) <<< ((16 : Int32) &&& 31)) ||| (((nar .byte (((y.toUInt32 >>> ((8 : Int32) &&& 31).toUInt32).toInt32).toInt8.toInt32)) &&& (255 : Int32)) <<< ((8 : Int32) &&& 31))) ||| ((nar .byte (((y.toUInt32 >>> ((0 : Int32) &&& 31).toUInt32).toInt32).toInt8.toInt32)) &&& (255 : Int32))) = y)).2 ?_
    show Steps p.tables e below (T7.setTop (mkF m 255 #[.val (.int p1), .val (.int p2), .val (.int p3), .val (.int y), .val (.ref c1), .val (.int (3 : Int32)), .val (.int (((((nar .byte (((y.toUInt32 >>> ((16 : Int32) &&& 31).toUInt32).toInt32).toInt8.toInt32)) &&& (255 : Int32)) <<< ((16 : Int32) &&& 31)) ||| (((nar .byte (((y.toUInt32 >>> ((8 : Int32) &&& 31).toUInt32).toInt32).toInt8.toInt32)) &&& (255 : Int32)) <<< ((8 : Int32) &&& 31))) ||| ((nar .byte (((y.toUInt32 >>> ((0 : Int32) &&& 31).toUInt32).toInt32).toInt8.toInt32)) &&& (255 : Int32))))] [])) _
    refine XS.iconst X7.here hx rfl (hb hby at_255) ?_
    show Steps p.tables e below (T7.setTop (mkF m 256 #[.val (.int p1), .val (.int p2), .val (.int p3), .val (.int y), .val (.ref c1), .val (.int (3 : Int32)), .val (.int (((((nar .byte (((y.toUInt32 >>> ((16 : Int32) &&& 31).toUInt32).toInt32).toInt8.toInt32)) &&& (255 : Int32)) <<< ((16 : Int32) &&& 31)) ||| (((nar .byte (((y.toUInt32 >>> ((8 : Int32) &&& 31).toUInt32).toInt32).toInt8.toInt32)) &&& (255 : Int32)) <<< ((8 : Int32) &&& 31))) ||| ((nar .byte (((y.toUInt32 >>> ((0 : Int32) &&& 31).toUInt32).toInt32).toInt8.toInt32)) &&& (255 : Int32))))] [(.int (1 : Int32))])) _
    refine XS.goto X7.here hx rfl (pc0 := 256) (pc' := 260) rfl (hb hby at_256) (by decide) (by decide) ?_
    show Steps p.tables e below (T7.setTop (mkF m 260 #[.val (.int p1), .val (.int p2), .val (.int p3), .val (.int y), .val (.ref c1), .val (.int (3 : Int32)), .val (.int (((((nar .byte (((y.toUInt32 >>> ((16 : Int32) &&& 31).toUInt32).toInt32).toInt8.toInt32)) &&& (255 : Int32)) <<< ((16 : Int32) &&& 31)) ||| (((nar .byte (((y.toUInt32 >>> ((8 : Int32) &&& 31).toUInt32).toInt32).toInt8.toInt32)) &&& (255 : Int32)) <<< ((8 : Int32) &&& 31))) ||| ((nar .byte (((y.toUInt32 >>> ((0 : Int32) &&& 31).toUInt32).toInt32).toInt8.toInt32)) &&& (255 : Int32))))] [(.int (1 : Int32))])) _
    exact retN X7 hx (t := .boolean) Bd.returns (by simp) (hb hby at_260) hr
  · show Q0 Z p1 p2 p3 h0 n0 _ T7.heap _
    rw [eh7]
    exact ⟨rfl, N7⟩
set_option maxRecDepth 65536 in
set_option maxHeartbeats 40000000 in
theorem rm0_4 (l : Launch) (Z : State) (a0 : Array Value) (hw : ∀ d ∈ tables_1, d.before a0 Z = true) (ws : List Jvm.Cond) (p1 p2 p3 y : Int32) (h0 : Heap) (n0 : Nat) (Z0 : n0 ≤ h0.size) (hy : (((p2 &&& (2147483647 : Int32)).toUInt32 >>> ((p3 &&& (31 : Int32)) &&& 31).toUInt32).toInt32) = y) (h0y : 0 ≤ y.toInt) (gq1 : ¬ (y < (128 : Int32))) (gq2 : ¬ (y < (256 : Int32))) (gq3 : ¬ (y < (65536 : Int32))) (gq4 : ¬ (y < (16777216 : Int32))) (hn : ((((32 : Int32) - (Jvm.Free.JP.Integer_numberOfLeadingZeros_I.val y)) + (7 : Int32)) / (8 : Int32)) = (4 : Int32)) :
    MetFree l x (head1 (Jvm.Cond.code x code maxLocals ret :: ws) room_1) (fun a U => a = #[(.int p1), (.int p2), (.int p3)] ∧ Z.Warmed39 U.vm ∧ U.heap = h0) (fun _ _ _ _ _ => True) (fun _ U o U' => ∃ v L, o = .returned v ∧ Q0 Z p1 p2 p3 h0 n0 v U'.heap L ∧ FrameEnd U o U' L room_1.cells room_1.slots) := by
  refine MetFree.of_bodySF (plainFor_of_name pn_0) hisR ?_
  intro p e s m args below meth c s₁ Bd hml0 hP hK
  obtain ⟨rfl, hZ, hh⟩ := hP
  have hx := Bd.exec
  have hby := Bd.bytes
  have hml : c.maxLocals = 7 := hml0
  have hown : s.vm.findClass "com/example/rollcall/rollcall/DerElementHeaderPinLaw" = some m.cls := findClass_of_methodNamed Bd.named
  have hnm := (name_of_methodNamed Bd.named Bd.method).1
  have X0 : Stand p l e room_1 s m #[(.int p1), (.int p2), (.int p3)] below meth c s₁ [] 0 0 := Stand.of_body Bd
  have e0 : s₁.heap = h0 := by rw [← hh, Bd.state]; rfl
  have N0 := Fr.nil n0
  have pre0 : ∀ tz, Steps p.tables e below (s₁.setTop (mkF m 0 #[.val (.int p1), .val (.int p2), .val (.int p3), .unset, .unset, .unset, .unset] [])) tz → Steps p.tables e below (s₁.setTop (entryFrame m #[(.int p1), (.int p2), (.int p3)] maxLocals)) tz := fun tz kz => castTop (ef_0 m p1 p2 p3) kz
  obtain ⟨_, _, ⟨T1, L1, k1, n1⟩, -, X1, ⟨Lc1, hQ1, l1, y1, z1⟩, st1⟩ := Jvm.LawKit.callS X0 hx (y := (⟨"com/example/rollcall/rollcall/DerElement", "header", "(II)[B"⟩ : MethodName)) hown (mvT hZ (hw _ (List.mem_of_getElem? (i := 1) rfl))) (mvT hZ (hw _ (List.mem_of_getElem? (i := 2) rfl))) (mvT hZ (hw _ (List.mem_of_getElem? (i := 3) rfl))) (mvT hZ (hw _ (List.mem_of_getElem? (i := 4) rfl))) (by decide) (backOf (W := 0) (rmH4 l Z a0 hw [] p1 y h0 n0 Z0 gq1 hn) hZ (hw _ (List.mem_of_getElem? (i := 4) rfl)) (hw _ (List.mem_of_getElem? (i := 3) rfl)) (by decide) (by decide)) (g := (mkF m 12 #[.val (.int p1), .val (.int p2), .val (.int p3), .val (.int y), .unset, .unset, .unset] [(.int y), (.int p1)])) rfl (by rw [hml]; rfl) (argsL := [(.int p1), (.int y)]) (rest := []) (lenOf pd_0_0 rfl) rfl (by show 2 * 0 + _ ≤ _; exact Nat.le_of_eq rfl) (hb hby at_12) (fun _ _ => ⟨rfl, e0, (by decide : 0 + 1 ≤ _), (by decide : 0 + 6 ≤ _)⟩)
  dsimp only [Pt.U, Pt.locs, Pt.cells, Pt.slots] at X1 l1 y1 z1 st1 hQ1
  subst l1 y1 z1
  obtain ⟨rfl, N1q, K1, kk1, Vt1⟩ := hQ1
  have N1 := Fr.app N0 N1q
  have Z1 : n0 ≤ T1.heap.size := Nat.le_trans Z0 K1.1
  obtain ⟨c1, gc1⟩ : ∃ z, z = h0.size := ⟨_, rfl⟩
  rw [← gc1] at st1 Vt1
  obtain ⟨cl2, Ar2, q2, S2, M2, H2, G2⟩ := id Vt1
  obtain ⟨cl3, Ar3, q3, S3, M3, H3, G3⟩ := id Vt1
  have hin3 : ¬ ((0 : Int32) < 0 ∨ cl3.slots.size ≤ ((0 : Int32)).toNatClampNeg) := inb_of S3 ⟨by decide, by decide⟩
  have hat3 : cl3.slots[((0 : Int32)).toNatClampNeg]? = some (.int (nar .byte (p1.toInt8.toInt32))) := Has.at H3 hin3 rfl
  obtain ⟨_, _, ⟨T4, L4, k4, n4⟩, -, X4, ⟨Lc4, hQ4, l4, y4, z4⟩, st4⟩ := Jvm.LawKit.callS X1 hx (y := (⟨"com/example/rollcall/rollcall/DerElementHeaderPinLaw", "u", "([BI)I"⟩ : MethodName)) hown (mvT hZ (hw _ (List.mem_of_getElem? (i := 13) rfl))) (mvT hZ (hw _ (List.mem_of_getElem? (i := 14) rfl))) (mvT hZ (hw _ (List.mem_of_getElem? (i := 15) rfl))) (mvT hZ (hw _ (List.mem_of_getElem? (i := 16) rfl))) (by decide) (backOf (W := 0) (rmU l Z a0 hw [] c1 (1 : Int32) (nar .byte ((132 : Int32).toInt8.toInt32)) kk1 (6 : Int32) _ T1.heap n0 Z1 Vt1 ⟨by decide, by decide⟩ rfl) hZ (hw _ (List.mem_of_getElem? (i := 16) rfl)) (hw _ (List.mem_of_getElem? (i := 15) rfl)) (by decide) (by decide)) (g := (mkF m 116 #[.val (.int p1), .val (.int p2), .val (.int p3), .val (.int y), .val (.ref c1), .val (.int (4 : Int32)), .unset] [(.int (1 : Int32)), (.ref c1)])) rfl (by rw [hml]; rfl) (argsL := [(.ref c1), (.int (1 : Int32))]) (rest := []) (lenOf pd_0_1 rfl) rfl (by show 2 * 0 + _ ≤ _; exact Nat.le_of_eq rfl) (hb hby at_116) (fun _ _ => ⟨rfl, rfl, (by decide : 1 + 0 ≤ _), (by decide : 6 + 0 ≤ _)⟩)
  dsimp only [Pt.U, Pt.locs, Pt.cells, Pt.slots] at X4 l4 y4 z4 st4 hQ4
  subst l4 y4 z4
  obtain ⟨rfl, N4q, eh4⟩ := hQ4
  have N4 := Fr.app N1 N4q
  obtain ⟨_, _, ⟨T5, L5, k5, n5⟩, -, X5, ⟨Lc5, hQ5, l5, y5, z5⟩, st5⟩ := Jvm.LawKit.callS X4 hx (y := (⟨"com/example/rollcall/rollcall/DerElementHeaderPinLaw", "u", "([BI)I"⟩ : MethodName)) hown (mvT hZ (hw _ (List.mem_of_getElem? (i := 13) rfl))) (mvT hZ (hw _ (List.mem_of_getElem? (i := 14) rfl))) (mvT hZ (hw _ (List.mem_of_getElem? (i := 15) rfl))) (mvT hZ (hw _ (List.mem_of_getElem? (i := 16) rfl))) (by decide) (backOf (W := 0) (rmU l Z a0 hw [] c1 (2 : Int32) (nar .byte (((y.toUInt32 >>> ((24 : Int32) &&& 31).toUInt32).toInt32).toInt8.toInt32)) kk1 (6 : Int32) _ T1.heap n0 Z1 Vt1 ⟨by decide, by decide⟩ rfl) hZ (hw _ (List.mem_of_getElem? (i := 16) rfl)) (hw _ (List.mem_of_getElem? (i := 15) rfl)) (by decide) (by decide)) (g := (mkF m 214 #[.val (.int p1), .val (.int p2), .val (.int p3), .val (.int y), .val (.ref c1), .val (.int (4 : Int32)), .unset] [(.int (2 : Int32)), (.ref c1)])) rfl (by rw [hml]; rfl) (argsL := [(.ref c1), (.int (2 : Int32))]) (rest := []) (lenOf pd_0_1 rfl) rfl (by show 2 * 0 + _ ≤ _; exact Nat.le_of_eq rfl) (hb hby at_214) (fun _ _ => ⟨rfl, eh4, (by decide : 1 + 0 ≤ _), (by decide : 6 + 0 ≤ _)⟩)
  dsimp only [Pt.U, Pt.locs, Pt.cells, Pt.slots] at X5 l5 y5 z5 st5 hQ5
  subst l5 y5 z5
  obtain ⟨rfl, N5q, eh5⟩ := hQ5
  have N5 := Fr.app N4 N5q
  obtain ⟨_, _, ⟨T6, L6, k6, n6⟩, -, X6, ⟨Lc6, hQ6, l6, y6, z6⟩, st6⟩ := Jvm.LawKit.callS X5 hx (y := (⟨"com/example/rollcall/rollcall/DerElementHeaderPinLaw", "u", "([BI)I"⟩ : MethodName)) hown (mvT hZ (hw _ (List.mem_of_getElem? (i := 13) rfl))) (mvT hZ (hw _ (List.mem_of_getElem? (i := 14) rfl))) (mvT hZ (hw _ (List.mem_of_getElem? (i := 15) rfl))) (mvT hZ (hw _ (List.mem_of_getElem? (i := 16) rfl))) (by decide) (backOf (W := 1) (rmU l Z a0 hw [] c1 (3 : Int32) (nar .byte (((y.toUInt32 >>> ((16 : Int32) &&& 31).toUInt32).toInt32).toInt8.toInt32)) kk1 (6 : Int32) _ T1.heap n0 Z1 Vt1 ⟨by decide, by decide⟩ rfl) hZ (hw _ (List.mem_of_getElem? (i := 16) rfl)) (hw _ (List.mem_of_getElem? (i := 15) rfl)) (by decide) (by decide)) (g := (mkF m 223 #[.val (.int p1), .val (.int p2), .val (.int p3), .val (.int y), .val (.ref c1), .val (.int (4 : Int32)), .unset] [(.int (3 : Int32)), (.ref c1), (.int (((nar .byte (((y.toUInt32 >>> ((24 : Int32) &&& 31).toUInt32).toInt32).toInt8.toInt32)) &&& (255 : Int32)) <<< ((24 : Int32) &&& 31)))])) rfl (by rw [hml]; rfl) (argsL := [(.ref c1), (.int (3 : Int32))]) (rest := [(.int (((nar .byte (((y.toUInt32 >>> ((24 : Int32) &&& 31).toUInt32).toInt32).toInt8.toInt32)) &&& (255 : Int32)) <<< ((24 : Int32) &&& 31)))]) (lenOf pd_0_1 rfl) rfl (by show 2 * 0 + _ ≤ _; exact Nat.le_of_eq rfl) (hb hby at_223) (fun _ _ => ⟨rfl, eh5, (by decide : 1 + 0 ≤ _), (by decide : 6 + 0 ≤ _)⟩)
  dsimp only [Pt.U, Pt.locs, Pt.cells, Pt.slots] at X6 l6 y6 z6 st6 hQ6
  subst l6 y6 z6
  obtain ⟨rfl, N6q, eh6⟩ := hQ6
  have N6 := Fr.app N5 N6q
  obtain ⟨_, _, ⟨T7, L7, k7, n7⟩, -, X7, ⟨Lc7, hQ7, l7, y7, z7⟩, st7⟩ := Jvm.LawKit.callS X6 hx (y := (⟨"com/example/rollcall/rollcall/DerElementHeaderPinLaw", "u", "([BI)I"⟩ : MethodName)) hown (mvT hZ (hw _ (List.mem_of_getElem? (i := 13) rfl))) (mvT hZ (hw _ (List.mem_of_getElem? (i := 14) rfl))) (mvT hZ (hw _ (List.mem_of_getElem? (i := 15) rfl))) (mvT hZ (hw _ (List.mem_of_getElem? (i := 16) rfl))) (by decide) (backOf (W := 1) (rmU l Z a0 hw [] c1 (4 : Int32) (nar .byte (((y.toUInt32 >>> ((8 : Int32) &&& 31).toUInt32).toInt32).toInt8.toInt32)) kk1 (6 : Int32) _ T1.heap n0 Z1 Vt1 ⟨by decide, by decide⟩ rfl) hZ (hw _ (List.mem_of_getElem? (i := 16) rfl)) (hw _ (List.mem_of_getElem? (i := 15) rfl)) (by decide) (by decide)) (g := (mkF m 233 #[.val (.int p1), .val (.int p2), .val (.int p3), .val (.int y), .val (.ref c1), .val (.int (4 : Int32)), .unset] [(.int (4 : Int32)), (.ref c1), (.int ((((nar .byte (((y.toUInt32 >>> ((24 : Int32) &&& 31).toUInt32).toInt32).toInt8.toInt32)) &&& (255 : Int32)) <<< ((24 : Int32) &&& 31)) ||| (((nar .byte (((y.toUInt32 >>> ((16 : Int32) &&& 31).toUInt32).toInt32).toInt8.toInt32)) &&& (255 : Int32)) <<< ((16 : Int32) &&& 31))))])) rfl (by rw [hml]; rfl) (argsL := [(.ref c1), (.int (4 : Int32))]) (rest := [(.int ((((nar .byte (((y.toUInt32 >>> ((24 : Int32) &&& 31).toUInt32).toInt32).toInt8.toInt32)) &&& (255 : Int32)) <<< ((24 : Int32) &&& 31)) ||| (((nar .byte (((y.toUInt32 >>> ((16 : Int32) &&& 31).toUInt32).toInt32).toInt8.toInt32)) &&& (255 : Int32)) <<< ((16 : Int32) &&& 31))))]) (lenOf pd_0_1 rfl) rfl (by show 2 * 0 + _ ≤ _; exact Nat.le_of_eq rfl) (hb hby at_233) (fun _ _ => ⟨rfl, eh6, (by decide : 1 + 0 ≤ _), (by decide : 6 + 0 ≤ _)⟩)
  dsimp only [Pt.U, Pt.locs, Pt.cells, Pt.slots] at X7 l7 y7 z7 st7 hQ7
  subst l7 y7 z7
  obtain ⟨rfl, N7q, eh7⟩ := hQ7
  have N7 := Fr.app N6 N7q
  obtain ⟨_, _, ⟨T8, L8, k8, n8⟩, -, X8, ⟨Lc8, hQ8, l8, y8, z8⟩, st8⟩ := Jvm.LawKit.callS X7 hx (y := (⟨"com/example/rollcall/rollcall/DerElementHeaderPinLaw", "u", "([BI)I"⟩ : MethodName)) hown (mvT hZ (hw _ (List.mem_of_getElem? (i := 13) rfl))) (mvT hZ (hw _ (List.mem_of_getElem? (i := 14) rfl))) (mvT hZ (hw _ (List.mem_of_getElem? (i := 15) rfl))) (mvT hZ (hw _ (List.mem_of_getElem? (i := 16) rfl))) (by decide) (backOf (W := 1) (rmU l Z a0 hw [] c1 (5 : Int32) (nar .byte (((y.toUInt32 >>> ((0 : Int32) &&& 31).toUInt32).toInt32).toInt8.toInt32)) kk1 (6 : Int32) _ T1.heap n0 Z1 Vt1 ⟨by decide, by decide⟩ rfl) hZ (hw _ (List.mem_of_getElem? (i := 16) rfl)) (hw _ (List.mem_of_getElem? (i := 15) rfl)) (by decide) (by decide)) (g := (mkF m 243 #[.val (.int p1), .val (.int p2), .val (.int p3), .val (.int y), .val (.ref c1), .val (.int (4 : Int32)), .unset] [(.int (5 : Int32)), (.ref c1), (.int (((((nar .byte (((y.toUInt32 >>> ((24 : Int32) &&& 31).toUInt32).toInt32).toInt8.toInt32)) &&& (255 : Int32)) <<< ((24 : Int32) &&& 31)) ||| (((nar .byte (((y.toUInt32 >>> ((16 : Int32) &&& 31).toUInt32).toInt32).toInt8.toInt32)) &&& (255 : Int32)) <<< ((16 : Int32) &&& 31))) ||| (((nar .byte (((y.toUInt32 >>> ((8 : Int32) &&& 31).toUInt32).toInt32).toInt8.toInt32)) &&& (255 : Int32)) <<< ((8 : Int32) &&& 31))))])) rfl (by rw [hml]; rfl) (argsL := [(.ref c1), (.int (5 : Int32))]) (rest := [(.int (((((nar .byte (((y.toUInt32 >>> ((24 : Int32) &&& 31).toUInt32).toInt32).toInt8.toInt32)) &&& (255 : Int32)) <<< ((24 : Int32) &&& 31)) ||| (((nar .byte (((y.toUInt32 >>> ((16 : Int32) &&& 31).toUInt32).toInt32).toInt8.toInt32)) &&& (255 : Int32)) <<< ((16 : Int32) &&& 31))) ||| (((nar .byte (((y.toUInt32 >>> ((8 : Int32) &&& 31).toUInt32).toInt32).toInt8.toInt32)) &&& (255 : Int32)) <<< ((8 : Int32) &&& 31))))]) (lenOf pd_0_1 rfl) rfl (by show 2 * 0 + _ ≤ _; exact Nat.le_of_eq rfl) (hb hby at_243) (fun _ _ => ⟨rfl, eh7, (by decide : 1 + 0 ≤ _), (by decide : 6 + 0 ≤ _)⟩)
  dsimp only [Pt.U, Pt.locs, Pt.cells, Pt.slots] at X8 l8 y8 z8 st8 hQ8
  subst l8 y8 z8
  obtain ⟨rfl, N8q, eh8⟩ := hQ8
  have N8 := Fr.app N7 N8q
  obtain ⟨fs, hr, hrun, hended, hW, hsame⟩ := X8.leave (v := some (.int (1 : Int32))) (fun h => by rw [Bd.returns] at h; cases h)
  refine ⟨_, _, pre0 _ ?_, hrun, hended, _, _, rfl, ?_, ⟨_, rfl⟩, hW, hsame.mono (by decide) (by decide)⟩
  · show Steps p.tables e below (s₁.setTop (mkF m 0 #[.val (.int p1), .val (.int p2), .val (.int p3), .unset, .unset, .unset, .unset] [])) _
    refine XS.iloadN X0.here hx rfl (hb hby at_0) rfl ?_
    show Steps p.tables e below (s₁.setTop (mkF m 1 #[.val (.int p1), .val (.int p2), .val (.int p3), .unset, .unset, .unset, .unset] [(.int p2)])) _
    refine X0.ldcInt hx hown (mvT hZ (hw _ (List.mem_of_getElem? (i := 0) rfl))) (g := (mkF m 1 #[.val (.int p1), .val (.int p2), .val (.int p3), .unset, .unset, .unset, .unset] [(.int p2)])) rfl (hb hby at_1) _ ?_
    show Steps p.tables e below (s₁.setTop (mkF m 3 #[.val (.int p1), .val (.int p2), .val (.int p3), .unset, .unset, .unset, .unset] [(.int (2147483647 : Int32)), (.int p2)])) _
    refine XS.iand X0.here hx rfl (hb hby at_3) rfl ?_
    show Steps p.tables e below (s₁.setTop (mkF m 4 #[.val (.int p1), .val (.int p2), .val (.int p3), .unset, .unset, .unset, .unset] [(.int (p2 &&& (2147483647 : Int32)))])) _
    refine XS.iloadN X0.here hx rfl (hb hby at_4) rfl ?_
    show Steps p.tables e below (s₁.setTop (mkF m 5 #[.val (.int p1), .val (.int p2), .val (.int p3), .unset, .unset, .unset, .unset] [(.int p3), (.int (p2 &&& (2147483647 : Int32)))])) _
    refine XS.bipush X0.here hx rfl (hb hby at_5) ?_
    show Steps p.tables e below (s₁.setTop (mkF m 7 #[.val (.int p1), .val (.int p2), .val (.int p3), .unset, .unset, .unset, .unset] [(.int (31 : Int32)), (.int p3), (.int (p2 &&& (2147483647 : Int32)))])) _
    refine XS.iand X0.here hx rfl (hb hby at_7) rfl ?_
    show Steps p.tables e below (s₁.setTop (mkF m 8 #[.val (.int p1), .val (.int p2), .val (.int p3), .unset, .unset, .unset, .unset] [(.int (p3 &&& (31 : Int32))), (.int (p2 &&& (2147483647 : Int32)))])) _
    refine XS.iushr X0.here hx rfl (hb hby at_8) rfl ?_
    show Steps p.tables e below (s₁.setTop (mkF m 9 #[.val (.int p1), .val (.int p2), .val (.int p3), .unset, .unset, .unset, .unset] [(.int (((p2 &&& (2147483647 : Int32)).toUInt32 >>> ((p3 &&& (31 : Int32)) &&& 31).toUInt32).toInt32))])) _
    rw [hy]
    show Steps p.tables e below (s₁.setTop (mkF m 9 #[.val (.int p1), .val (.int p2), .val (.int p3), .unset, .unset, .unset, .unset] [(.int y)])) _
    refine XS.istoreN X0.here hx rfl (hb hby at_9) rfl (l' := #[.val (.int p1), .val (.int p2), .val (.int p3), .val (.int y), .unset, .unset, .unset]) rfl ?_
    show Steps p.tables e below (s₁.setTop (mkF m 10 #[.val (.int p1), .val (.int p2), .val (.int p3), .val (.int y), .unset, .unset, .unset] [])) _
    refine XS.iloadN X0.here hx rfl (hb hby at_10) rfl ?_
    show Steps p.tables e below (s₁.setTop (mkF m 11 #[.val (.int p1), .val (.int p2), .val (.int p3), .val (.int y), .unset, .unset, .unset] [(.int p1)])) _
    refine XS.iloadN X0.here hx rfl (hb hby at_11) rfl ?_
    show Steps p.tables e below (s₁.setTop (mkF m 12 #[.val (.int p1), .val (.int p2), .val (.int p3), .val (.int y), .unset, .unset, .unset] [(.int y), (.int p1)])) _
    refine st1 _ ?_
    show Steps p.tables e below (T1.setTop (mkF m 15 #[.val (.int p1), .val (.int p2), .val (.int p3), .val (.int y), .unset, .unset, .unset] [(.ref c1)])) _
    refine XS.astore X1.here hx rfl (hb hby at_15) rfl rfl (l' := #[.val (.int p1), .val (.int p2), .val (.int p3), .val (.int y), .val (.ref c1), .unset, .unset]) rfl ?_
    show Steps p.tables e below (T1.setTop (mkF m 17 #[.val (.int p1), .val (.int p2), .val (.int p3), .val (.int y), .val (.ref c1), .unset, .unset] [])) _
    refine XS.iloadN X1.here hx rfl (hb hby at_17) rfl ?_
    show Steps p.tables e below (T1.setTop (mkF m 18 #[.val (.int p1), .val (.int p2), .val (.int p3), .val (.int y), .val (.ref c1), .unset, .unset] [(.int y)])) _
    refine XS.sipush X1.here hx rfl (hb hby at_18) ?_
    show Steps p.tables e below (T1.setTop (mkF m 21 #[.val (.int p1), .val (.int p2), .val (.int p3), .val (.int y), .val (.ref c1), .unset, .unset] [(.int (128 : Int32)), (.int y)])) _
    refine XS.icmpYes X1.here hx rfl (pc0 := 21) (pc' := 30) rfl (hb hby at_21) rfl (flt (gq1 : ¬ (y < (128 : Int32)))).2.1 (by decide) (by decide) ?_
    show Steps p.tables e below (T1.setTop (mkF m 30 #[.val (.int p1), .val (.int p2), .val (.int p3), .val (.int y), .val (.ref c1), .unset, .unset] [])) _
    refine XS.iloadN X1.here hx rfl (hb hby at_30) rfl ?_
    show Steps p.tables e below (T1.setTop (mkF m 31 #[.val (.int p1), .val (.int p2), .val (.int p3), .val (.int y), .val (.ref c1), .unset, .unset] [(.int y)])) _
    refine XS.sipush X1.here hx rfl (hb hby at_31) ?_
    show Steps p.tables e below (T1.setTop (mkF m 34 #[.val (.int p1), .val (.int p2), .val (.int p3), .val (.int y), .val (.ref c1), .unset, .unset] [(.int (256 : Int32)), (.int y)])) _
    refine XS.icmpYes X1.here hx rfl (pc0 := 34) (pc' := 43) rfl (hb hby at_34) rfl (flt (gq2 : ¬ (y < (256 : Int32)))).2.1 (by decide) (by decide) ?_
    show Steps p.tables e below (T1.setTop (mkF m 43 #[.val (.int p1), .val (.int p2), .val (.int p3), .val (.int y), .val (.ref c1), .unset, .unset] [])) _
    refine XS.iloadN X1.here hx rfl (hb hby at_43) rfl ?_
    show Steps p.tables e below (T1.setTop (mkF m 44 #[.val (.int p1), .val (.int p2), .val (.int p3), .val (.int y), .val (.ref c1), .unset, .unset] [(.int y)])) _
    refine X1.ldcInt hx hown (mvT hZ (hw _ (List.mem_of_getElem? (i := 11) rfl))) (g := (mkF m 44 #[.val (.int p1), .val (.int p2), .val (.int p3), .val (.int y), .val (.ref c1), .unset, .unset] [(.int y)])) rfl (hb hby at_44) _ ?_
    show Steps p.tables e below (T1.setTop (mkF m 46 #[.val (.int p1), .val (.int p2), .val (.int p3), .val (.int y), .val (.ref c1), .unset, .unset] [(.int (65536 : Int32)), (.int y)])) _
    refine XS.icmpYes X1.here hx rfl (pc0 := 46) (pc' := 55) rfl (hb hby at_46) rfl (flt (gq3 : ¬ (y < (65536 : Int32)))).2.1 (by decide) (by decide) ?_
    show Steps p.tables e below (T1.setTop (mkF m 55 #[.val (.int p1), .val (.int p2), .val (.int p3), .val (.int y), .val (.ref c1), .unset, .unset] [])) _
    refine XS.iloadN X1.here hx rfl (hb hby at_55) rfl ?_
    show Steps p.tables e below (T1.setTop (mkF m 56 #[.val (.int p1), .val (.int p2), .val (.int p3), .val (.int y), .val (.ref c1), .unset, .unset] [(.int y)])) _
    refine X1.ldcInt hx hown (mvT hZ (hw _ (List.mem_of_getElem? (i := 12) rfl))) (g := (mkF m 56 #[.val (.int p1), .val (.int p2), .val (.int p3), .val (.int y), .val (.ref c1), .unset, .unset] [(.int y)])) rfl (hb hby at_56) _ ?_
    show Steps p.tables e below (T1.setTop (mkF m 58 #[.val (.int p1), .val (.int p2), .val (.int p3), .val (.int y), .val (.ref c1), .unset, .unset] [(.int (16777216 : Int32)), (.int y)])) _
    refine XS.icmpYes X1.here hx rfl (pc0 := 58) (pc' := 67) rfl (hb hby at_58) rfl (flt (gq4 : ¬ (y < (16777216 : Int32)))).2.1 (by decide) (by decide) ?_
    show Steps p.tables e below (T1.setTop (mkF m 67 #[.val (.int p1), .val (.int p2), .val (.int p3), .val (.int y), .val (.ref c1), .unset, .unset] [])) _
    refine XS.iconst X1.here hx rfl (hb hby at_67) ?_
    show Steps p.tables e below (T1.setTop (mkF m 68 #[.val (.int p1), .val (.int p2), .val (.int p3), .val (.int y), .val (.ref c1), .unset, .unset] [(.int (4 : Int32))])) _
    refine XS.istore X1.here hx rfl (hb hby at_68) rfl (l' := #[.val (.int p1), .val (.int p2), .val (.int p3), .val (.int y), .val (.ref c1), .val (.int (4 : Int32)), .unset]) rfl ?_
    show Steps p.tables e below (T1.setTop (mkF m 70 #[.val (.int p1), .val (.int p2), .val (.int p3), .val (.int y), .val (.ref c1), .val (.int (4 : Int32)), .unset] [])) _
    refine XS.aload X1.here hx rfl (hb hby at_70) rfl rfl ?_
    show Steps p.tables e below (T1.setTop (mkF m 72 #[.val (.int p1), .val (.int p2), .val (.int p3), .val (.int y), .val (.ref c1), .val (.int (4 : Int32)), .unset] [(.ref c1)])) _
    refine X1.arraylength hx Ar2.1 (State.isArrayOf_alike hZ.alike Ar2.2.1) (g := (mkF m 72 #[.val (.int p1), .val (.int p2), .val (.int p3), .val (.int y), .val (.ref c1), .val (.int (4 : Int32)), .unset] [(.ref c1)])) rfl rfl (hb hby at_72) _ ?_
    rw [len_of S2 M2]
    show Steps p.tables e below (T1.setTop (mkF m 73 #[.val (.int p1), .val (.int p2), .val (.int p3), .val (.int y), .val (.ref c1), .val (.int (4 : Int32)), .unset] [(.int (6 : Int32))])) _
    refine XS.iconst X1.here hx rfl (hb hby at_73) ?_
    show Steps p.tables e below (T1.setTop (mkF m 74 #[.val (.int p1), .val (.int p2), .val (.int p3), .val (.int y), .val (.ref c1), .val (.int (4 : Int32)), .unset] [(.int (2 : Int32)), (.int (6 : Int32))])) _
    refine XS.iload X1.here hx rfl (hb hby at_74) rfl ?_
    show Steps p.tables e below (T1.setTop (mkF m 76 #[.val (.int p1), .val (.int p2), .val (.int p3), .val (.int y), .val (.ref c1), .val (.int (4 : Int32)), .unset] [(.int (4 : Int32)), (.int (2 : Int32)), (.int (6 : Int32))])) _
    refine XS.iadd X1.here hx rfl (hb hby at_76) rfl ?_
    show Steps p.tables e below (T1.setTop (mkF m 77 #[.val (.int p1), .val (.int p2), .val (.int p3), .val (.int y), .val (.ref c1), .val (.int (4 : Int32)), .unset] [(.int ((2 : Int32) + (4 : Int32))), (.int (6 : Int32))])) _
    rw [show ((2 : Int32) + (4 : Int32)) = (6 : Int32) from by decide]
    show Steps p.tables e below (T1.setTop (mkF m 77 #[.val (.int p1), .val (.int p2), .val (.int p3), .val (.int y), .val (.ref c1), .val (.int (4 : Int32)), .unset] [(.int (6 : Int32)), (.int (6 : Int32))])) _
    refine XS.icmpYes X1.here hx rfl (pc0 := 77) (pc' := 82) rfl (hb hby at_77) rfl (teq ((by decide) : (6 : Int32) = (6 : Int32))).1 (by decide) (by decide) ?_
    show Steps p.tables e below (T1.setTop (mkF m 82 #[.val (.int p1), .val (.int p2), .val (.int p3), .val (.int y), .val (.ref c1), .val (.int (4 : Int32)), .unset] [])) _
    refine XS.aload X1.here hx rfl (hb hby at_82) rfl rfl ?_
    show Steps p.tables e below (T1.setTop (mkF m 84 #[.val (.int p1), .val (.int p2), .val (.int p3), .val (.int y), .val (.ref c1), .val (.int (4 : Int32)), .unset] [(.ref c1)])) _
    refine XS.iconst X1.here hx rfl (hb hby at_84) ?_
    show Steps p.tables e below (T1.setTop (mkF m 85 #[.val (.int p1), .val (.int p2), .val (.int p3), .val (.int y), .val (.ref c1), .val (.int (4 : Int32)), .unset] [(.int (0 : Int32)), (.ref c1)])) _
    refine X1.baloadBytes hx (j := (0 : Int32)) (v := (.int (nar .byte (p1.toInt8.toInt32)))) Ar3.1 (State.isArrayOf_alike hZ.alike Ar3.2.1) Ar3.2.2 hin3 hat3 (g := (mkF m 85 #[.val (.int p1), .val (.int p2), .val (.int p3), .val (.int y), .val (.ref c1), .val (.int (4 : Int32)), .unset] [(.int (0 : Int32)), (.ref c1)])) rfl rfl (hb hby at_85) _ ?_
    show Steps p.tables e below (T1.setTop (mkF m 86 #[.val (.int p1), .val (.int p2), .val (.int p3), .val (.int y), .val (.ref c1), .val (.int (4 : Int32)), .unset] [(.int (nar .byte (p1.toInt8.toInt32)))])) _
    refine XS.iloadN X1.here hx rfl (hb hby at_86) rfl ?_
    show Steps p.tables e below (T1.setTop (mkF m 87 #[.val (.int p1), .val (.int p2), .val (.int p3), .val (.int y), .val (.ref c1), .val (.int (4 : Int32)), .unset] [(.int p1), (.int (nar .byte (p1.toInt8.toInt32)))])) _
    refine XS.i2b X1.here hx rfl (hb hby at_87) rfl ?_
    show Steps p.tables e below (T1.setTop (mkF m 88 #[.val (.int p1), .val (.int p2), .val (.int p3), .val (.int y), .val (.ref c1), .val (.int (4 : Int32)), .unset] [(.int (p1.toInt8.toInt32)), (.int (nar .byte (p1.toInt8.toInt32)))])) _
    refine XS.icmpYes X1.here hx rfl (pc0 := 88) (pc' := 93) rfl (hb hby at_88) rfl (teq (own_bb p1 : (nar .byte (p1.toInt8.toInt32)) = (p1.toInt8.toInt32))).1 (by decide) (by decide) ?_
    show Steps p.tables e below (T1.setTop (mkF m 93 #[.val (.int p1), .val (.int p2), .val (.int p3), .val (.int y), .val (.ref c1), .val (.int (4 : Int32)), .unset] [])) _
    refine XS.iload X1.here hx rfl (hb hby at_93) rfl ?_
    show Steps p.tables e below (T1.setTop (mkF m 95 #[.val (.int p1), .val (.int p2), .val (.int p3), .val (.int y), .val (.ref c1), .val (.int (4 : Int32)), .unset] [(.int (4 : Int32))])) _
    refine XS.ifYes X1.here hx rfl (pc0 := 95) (pc' := 113) rfl (hb hby at_95) rfl ((if0 _ _).trans (feq ((by decide) : ¬ ((4 : Int32) = (0 : Int32)))).2) (by decide) (by decide) ?_
    show Steps p.tables e below (T1.setTop (mkF m 113 #[.val (.int p1), .val (.int p2), .val (.int p3), .val (.int y), .val (.ref c1), .val (.int (4 : Int32)), .unset] [])) _
    refine XS.aload X1.here hx rfl (hb hby at_113) rfl rfl ?_
    show Steps p.tables e below (T1.setTop (mkF m 115 #[.val (.int p1), .val (.int p2), .val (.int p3), .val (.int y), .val (.ref c1), .val (.int (4 : Int32)), .unset] [(.ref c1)])) _
    refine XS.iconst X1.here hx rfl (hb hby at_115) ?_
    show Steps p.tables e below (T1.setTop (mkF m 116 #[.val (.int p1), .val (.int p2), .val (.int p3), .val (.int y), .val (.ref c1), .val (.int (4 : Int32)), .unset] [(.int (1 : Int32)), (.ref c1)])) _
    refine st4 _ ?_
    show Steps p.tables e below (T4.setTop (mkF m 119 #[.val (.int p1), .val (.int p2), .val (.int p3), .val (.int y), .val (.ref c1), .val (.int (4 : Int32)), .unset] [(.int ((nar .byte ((132 : Int32).toInt8.toInt32)) &&& (255 : Int32)))])) _
    refine XS.sipush X4.here hx rfl (hb hby at_119) ?_
    show Steps p.tables e below (T4.setTop (mkF m 122 #[.val (.int p1), .val (.int p2), .val (.int p3), .val (.int y), .val (.ref c1), .val (.int (4 : Int32)), .unset] [(.int (128 : Int32)), (.int ((nar .byte ((132 : Int32).toInt8.toInt32)) &&& (255 : Int32)))])) _
    refine XS.iload X4.here hx rfl (hb hby at_122) rfl ?_
    show Steps p.tables e below (T4.setTop (mkF m 124 #[.val (.int p1), .val (.int p2), .val (.int p3), .val (.int y), .val (.ref c1), .val (.int (4 : Int32)), .unset] [(.int (4 : Int32)), (.int (128 : Int32)), (.int ((nar .byte ((132 : Int32).toInt8.toInt32)) &&& (255 : Int32)))])) _
    refine XS.ior X4.here hx rfl (hb hby at_124) rfl ?_
    show Steps p.tables e below (T4.setTop (mkF m 125 #[.val (.int p1), .val (.int p2), .val (.int p3), .val (.int y), .val (.ref c1), .val (.int (4 : Int32)), .unset] [(.int ((128 : Int32) ||| (4 : Int32))), (.int ((nar .byte ((132 : Int32).toInt8.toInt32)) &&& (255 : Int32)))])) _
    rw [show ((128 : Int32) ||| (4 : Int32)) = (132 : Int32) from by decide]
    show Steps p.tables e below (T4.setTop (mkF m 125 #[.val (.int p1), .val (.int p2), .val (.int p3), .val (.int y), .val (.ref c1), .val (.int (4 : Int32)), .unset] [(.int (132 : Int32)), (.int ((nar .byte ((132 : Int32).toInt8.toInt32)) &&& (255 : Int32)))])) _
    refine XS.icmpYes X4.here hx rfl (pc0 := 125) (pc' := 130) rfl (hb hby at_125) rfl (teq (by decide : ((nar .byte ((132 : Int32).toInt8.toInt32)) &&& (255 : Int32)) = (132 : Int32))).1 (by decide) (by decide) ?_
    show Steps p.tables e below (T4.setTop (mkF m 130 #[.val (.int p1), .val (.int p2), .val (.int p3), .val (.int y), .val (.ref c1), .val (.int (4 : Int32)), .unset] [])) _
    refine XS.iload X4.here hx rfl (hb hby at_130) rfl ?_
    show Steps p.tables e below (T4.setTop (mkF m 132 #[.val (.int p1), .val (.int p2), .val (.int p3), .val (.int y), .val (.ref c1), .val (.int (4 : Int32)), .unset] [(.int (4 : Int32))])) _
    refine XS.iconst X4.here hx rfl (hb hby at_132) ?_
    show Steps p.tables e below (T4.setTop (mkF m 133 #[.val (.int p1), .val (.int p2), .val (.int p3), .val (.int y), .val (.ref c1), .val (.int (4 : Int32)), .unset] [(.int (1 : Int32)), (.int (4 : Int32))])) _
    refine XS.icmpYes X4.here hx rfl (pc0 := 133) (pc' := 147) rfl (hb hby at_133) rfl (feq ((by decide) : ¬ ((4 : Int32) = (1 : Int32)))).2 (by decide) (by decide) ?_
    show Steps p.tables e below (T4.setTop (mkF m 147 #[.val (.int p1), .val (.int p2), .val (.int p3), .val (.int y), .val (.ref c1), .val (.int (4 : Int32)), .unset] [])) _
    refine XS.iload X4.here hx rfl (hb hby at_147) rfl ?_
    show Steps p.tables e below (T4.setTop (mkF m 149 #[.val (.int p1), .val (.int p2), .val (.int p3), .val (.int y), .val (.ref c1), .val (.int (4 : Int32)), .unset] [(.int (4 : Int32))])) _
    refine XS.iconst X4.here hx rfl (hb hby at_149) ?_
    show Steps p.tables e below (T4.setTop (mkF m 150 #[.val (.int p1), .val (.int p2), .val (.int p3), .val (.int y), .val (.ref c1), .val (.int (4 : Int32)), .unset] [(.int (2 : Int32)), (.int (4 : Int32))])) _
    refine XS.icmpYes X4.here hx rfl (pc0 := 150) (pc' := 174) rfl (hb hby at_150) rfl (feq ((by decide) : ¬ ((4 : Int32) = (2 : Int32)))).2 (by decide) (by decide) ?_
    show Steps p.tables e below (T4.setTop (mkF m 174 #[.val (.int p1), .val (.int p2), .val (.int p3), .val (.int y), .val (.ref c1), .val (.int (4 : Int32)), .unset] [])) _
    refine XS.iload X4.here hx rfl (hb hby at_174) rfl ?_
    show Steps p.tables e below (T4.setTop (mkF m 176 #[.val (.int p1), .val (.int p2), .val (.int p3), .val (.int y), .val (.ref c1), .val (.int (4 : Int32)), .unset] [(.int (4 : Int32))])) _
    refine XS.iconst X4.here hx rfl (hb hby at_176) ?_
    show Steps p.tables e below (T4.setTop (mkF m 177 #[.val (.int p1), .val (.int p2), .val (.int p3), .val (.int y), .val (.ref c1), .val (.int (4 : Int32)), .unset] [(.int (3 : Int32)), (.int (4 : Int32))])) _
    refine XS.icmpYes X4.here hx rfl (pc0 := 177) (pc' := 211) rfl (hb hby at_177) rfl (feq ((by decide) : ¬ ((4 : Int32) = (3 : Int32)))).2 (by decide) (by decide) ?_
    show Steps p.tables e below (T4.setTop (mkF m 211 #[.val (.int p1), .val (.int p2), .val (.int p3), .val (.int y), .val (.ref c1), .val (.int (4 : Int32)), .unset] [])) _
    refine XS.aload X4.here hx rfl (hb hby at_211) rfl rfl ?_
    show Steps p.tables e below (T4.setTop (mkF m 213 #[.val (.int p1), .val (.int p2), .val (.int p3), .val (.int y), .val (.ref c1), .val (.int (4 : Int32)), .unset] [(.ref c1)])) _
    refine XS.iconst X4.here hx rfl (hb hby at_213) ?_
    show Steps p.tables e below (T4.setTop (mkF m 214 #[.val (.int p1), .val (.int p2), .val (.int p3), .val (.int y), .val (.ref c1), .val (.int (4 : Int32)), .unset] [(.int (2 : Int32)), (.ref c1)])) _
    refine st5 _ ?_
    show Steps p.tables e below (T5.setTop (mkF m 217 #[.val (.int p1), .val (.int p2), .val (.int p3), .val (.int y), .val (.ref c1), .val (.int (4 : Int32)), .unset] [(.int ((nar .byte (((y.toUInt32 >>> ((24 : Int32) &&& 31).toUInt32).toInt32).toInt8.toInt32)) &&& (255 : Int32)))])) _
    refine XS.bipush X5.here hx rfl (hb hby at_217) ?_
    show Steps p.tables e below (T5.setTop (mkF m 219 #[.val (.int p1), .val (.int p2), .val (.int p3), .val (.int y), .val (.ref c1), .val (.int (4 : Int32)), .unset] [(.int (24 : Int32)), (.int ((nar .byte (((y.toUInt32 >>> ((24 : Int32) &&& 31).toUInt32).toInt32).toInt8.toInt32)) &&& (255 : Int32)))])) _
    refine XS.ishl X5.here hx rfl (hb hby at_219) rfl ?_
    show Steps p.tables e below (T5.setTop (mkF m 220 #[.val (.int p1), .val (.int p2), .val (.int p3), .val (.int y), .val (.ref c1), .val (.int (4 : Int32)), .unset] [(.int (((nar .byte (((y.toUInt32 >>> ((24 : Int32) &&& 31).toUInt32).toInt32).toInt8.toInt32)) &&& (255 : Int32)) <<< ((24 : Int32) &&& 31)))])) _
    refine XS.aload X5.here hx rfl (hb hby at_220) rfl rfl ?_
    show Steps p.tables e below (T5.setTop (mkF m 222 #[.val (.int p1), .val (.int p2), .val (.int p3), .val (.int y), .val (.ref c1), .val (.int (4 : Int32)), .unset] [(.ref c1), (.int (((nar .byte (((y.toUInt32 >>> ((24 : Int32) &&& 31).toUInt32).toInt32).toInt8.toInt32)) &&& (255 : Int32)) <<< ((24 : Int32) &&& 31)))])) _
    refine XS.iconst X5.here hx rfl (hb hby at_222) ?_
    show Steps p.tables e below (T5.setTop (mkF m 223 #[.val (.int p1), .val (.int p2), .val (.int p3), .val (.int y), .val (.ref c1), .val (.int (4 : Int32)), .unset] [(.int (3 : Int32)), (.ref c1), (.int (((nar .byte (((y.toUInt32 >>> ((24 : Int32) &&& 31).toUInt32).toInt32).toInt8.toInt32)) &&& (255 : Int32)) <<< ((24 : Int32) &&& 31)))])) _
    refine st6 _ ?_
    show Steps p.tables e below (T6.setTop (mkF m 226 #[.val (.int p1), .val (.int p2), .val (.int p3), .val (.int y), .val (.ref c1), .val (.int (4 : Int32)), .unset] [(.int ((nar .byte (((y.toUInt32 >>> ((16 : Int32) &&& 31).toUInt32).toInt32).toInt8.toInt32)) &&& (255 : Int32))), (.int (((nar .byte (((y.toUInt32 >>> ((24 : Int32) &&& 31).toUInt32).toInt32).toInt8.toInt32)) &&& (255 : Int32)) <<< ((24 : Int32) &&& 31)))])) _
    refine XS.bipush X6.here hx rfl (hb hby at_226) ?_
    show Steps p.tables e below (T6.setTop (mkF m 228 #[.val (.int p1), .val (.int p2), .val (.int p3), .val (.int y), .val (.ref c1), .val (.int (4 : Int32)), .unset] [(.int (16 : Int32)), (.int ((nar .byte (((y.toUInt32 >>> ((16 : Int32) &&& 31).toUInt32).toInt32).toInt8.toInt32)) &&& (255 : Int32))), (.int (((nar .byte (((y.toUInt32 >>> ((24 : Int32) &&& 31).toUInt32).toInt32).toInt8.toInt32)) &&& (255 : Int32)) <<< ((24 : Int32) &&& 31)))])) _
    refine XS.ishl X6.here hx rfl (hb hby at_228) rfl ?_
    show Steps p.tables e below (T6.setTop (mkF m 229 #[.val (.int p1), .val (.int p2), .val (.int p3), .val (.int y), .val (.ref c1), .val (.int (4 : Int32)), .unset] [(.int (((nar .byte (((y.toUInt32 >>> ((16 : Int32) &&& 31).toUInt32).toInt32).toInt8.toInt32)) &&& (255 : Int32)) <<< ((16 : Int32) &&& 31))), (.int (((nar .byte (((y.toUInt32 >>> ((24 : Int32) &&& 31).toUInt32).toInt32).toInt8.toInt32)) &&& (255 : Int32)) <<< ((24 : Int32) &&& 31)))])) _
    refine XS.ior X6.here hx rfl (hb hby at_229) rfl ?_
    show Steps p.tables e below (T6.setTop (mkF m 230 #[.val (.int p1), .val (.int p2), .val (.int p3), .val (.int y), .val (.ref c1), .val (.int (4 : Int32)), .unset] [(.int ((((nar .byte (((y.toUInt32 >>> ((24 : Int32) &&& 31).toUInt32).toInt32).toInt8.toInt32)) &&& (255 : Int32)) <<< ((24 : Int32) &&& 31)) ||| (((nar .byte (((y.toUInt32 >>> ((16 : Int32) &&& 31).toUInt32).toInt32).toInt8.toInt32)) &&& (255 : Int32)) <<< ((16 : Int32) &&& 31))))])) _
    refine XS.aload X6.here hx rfl (hb hby at_230) rfl rfl ?_
    show Steps p.tables e below (T6.setTop (mkF m 232 #[.val (.int p1), .val (.int p2), .val (.int p3), .val (.int y), .val (.ref c1), .val (.int (4 : Int32)), .unset] [(.ref c1), (.int ((((nar .byte (((y.toUInt32 >>> ((24 : Int32) &&& 31).toUInt32).toInt32).toInt8.toInt32)) &&& (255 : Int32)) <<< ((24 : Int32) &&& 31)) ||| (((nar .byte (((y.toUInt32 >>> ((16 : Int32) &&& 31).toUInt32).toInt32).toInt8.toInt32)) &&& (255 : Int32)) <<< ((16 : Int32) &&& 31))))])) _
    refine XS.iconst X6.here hx rfl (hb hby at_232) ?_
    show Steps p.tables e below (T6.setTop (mkF m 233 #[.val (.int p1), .val (.int p2), .val (.int p3), .val (.int y), .val (.ref c1), .val (.int (4 : Int32)), .unset] [(.int (4 : Int32)), (.ref c1), (.int ((((nar .byte (((y.toUInt32 >>> ((24 : Int32) &&& 31).toUInt32).toInt32).toInt8.toInt32)) &&& (255 : Int32)) <<< ((24 : Int32) &&& 31)) ||| (((nar .byte (((y.toUInt32 >>> ((16 : Int32) &&& 31).toUInt32).toInt32).toInt8.toInt32)) &&& (255 : Int32)) <<< ((16 : Int32) &&& 31))))])) _
    refine st7 _ ?_
    show Steps p.tables e below (T7.setTop (mkF m 236 #[.val (.int p1), .val (.int p2), .val (.int p3), .val (.int y), .val (.ref c1), .val (.int (4 : Int32)), .unset] [(.int ((nar .byte (((y.toUInt32 >>> ((8 : Int32) &&& 31).toUInt32).toInt32).toInt8.toInt32)) &&& (255 : Int32))), (.int ((((nar .byte (((y.toUInt32 >>> ((24 : Int32) &&& 31).toUInt32).toInt32).toInt8.toInt32)) &&& (255 : Int32)) <<< ((24 : Int32) &&& 31)) ||| (((nar .byte (((y.toUInt32 >>> ((16 : Int32) &&& 31).toUInt32).toInt32).toInt8.toInt32)) &&& (255 : Int32)) <<< ((16 : Int32) &&& 31))))])) _
    refine XS.bipush X7.here hx rfl (hb hby at_236) ?_
    show Steps p.tables e below (T7.setTop (mkF m 238 #[.val (.int p1), .val (.int p2), .val (.int p3), .val (.int y), .val (.ref c1), .val (.int (4 : Int32)), .unset] [(.int (8 : Int32)), (.int ((nar .byte (((y.toUInt32 >>> ((8 : Int32) &&& 31).toUInt32).toInt32).toInt8.toInt32)) &&& (255 : Int32))), (.int ((((nar .byte (((y.toUInt32 >>> ((24 : Int32) &&& 31).toUInt32).toInt32).toInt8.toInt32)) &&& (255 : Int32)) <<< ((24 : Int32) &&& 31)) ||| (((nar .byte (((y.toUInt32 >>> ((16 : Int32) &&& 31).toUInt32).toInt32).toInt8.toInt32)) &&& (255 : Int32)) <<< ((16 : Int32) &&& 31))))])) _
    refine XS.ishl X7.here hx rfl (hb hby at_238) rfl ?_
    show Steps p.tables e below (T7.setTop (mkF m 239 #[.val (.int p1), .val (.int p2), .val (.int p3), .val (.int y), .val (.ref c1), .val (.int (4 : Int32)), .unset] [(.int (((nar .byte (((y.toUInt32 >>> ((8 : Int32) &&& 31).toUInt32).toInt32).toInt8.toInt32)) &&& (255 : Int32)) <<< ((8 : Int32) &&& 31))), (.int ((((nar .byte (((y.toUInt32 >>> ((24 : Int32) &&& 31).toUInt32).toInt32).toInt8.toInt32)) &&& (255 : Int32)) <<< ((24 : Int32) &&& 31)) ||| (((nar .byte (((y.toUInt32 >>> ((16 : Int32) &&& 31).toUInt32).toInt32).toInt8.toInt32)) &&& (255 : Int32)) <<< ((16 : Int32) &&& 31))))])) _
    refine XS.ior X7.here hx rfl (hb hby at_239) rfl ?_
    show Steps p.tables e below (T7.setTop (mkF m 240 #[.val (.int p1), .val (.int p2), .val (.int p3), .val (.int y), .val (.ref c1), .val (.int (4 : Int32)), .unset] [(.int (((((nar .byte (((y.toUInt32 >>> ((24 : Int32) &&& 31).toUInt32).toInt32).toInt8.toInt32)) &&& (255 : Int32)) <<< ((24 : Int32) &&& 31)) ||| (((nar .byte (((y.toUInt32 >>> ((16 : Int32) &&& 31).toUInt32).toInt32).toInt8.toInt32)) &&& (255 : Int32)) <<< ((16 : Int32) &&& 31))) ||| (((nar .byte (((y.toUInt32 >>> ((8 : Int32) &&& 31).toUInt32).toInt32).toInt8.toInt32)) &&& (255 : Int32)) <<< ((8 : Int32) &&& 31))))])) _
    refine XS.aload X7.here hx rfl (hb hby at_240) rfl rfl ?_
    show Steps p.tables e below (T7.setTop (mkF m 242 #[.val (.int p1), .val (.int p2), .val (.int p3), .val (.int y), .val (.ref c1), .val (.int (4 : Int32)), .unset] [(.ref c1), (.int (((((nar .byte (((y.toUInt32 >>> ((24 : Int32) &&& 31).toUInt32).toInt32).toInt8.toInt32)) &&& (255 : Int32)) <<< ((24 : Int32) &&& 31)) ||| (((nar .byte (((y.toUInt32 >>> ((16 : Int32) &&& 31).toUInt32).toInt32).toInt8.toInt32)) &&& (255 : Int32)) <<< ((16 : Int32) &&& 31))) ||| (((nar .byte (((y.toUInt32 >>> ((8 : Int32) &&& 31).toUInt32).toInt32).toInt8.toInt32)) &&& (255 : Int32)) <<< ((8 : Int32) &&& 31))))])) _
    refine XS.iconst X7.here hx rfl (hb hby at_242) ?_
    show Steps p.tables e below (T7.setTop (mkF m 243 #[.val (.int p1), .val (.int p2), .val (.int p3), .val (.int y), .val (.ref c1), .val (.int (4 : Int32)), .unset] [(.int (5 : Int32)), (.ref c1), (.int (((((nar .byte (((y.toUInt32 >>> ((24 : Int32) &&& 31).toUInt32).toInt32).toInt8.toInt32)) &&& (255 : Int32)) <<< ((24 : Int32) &&& 31)) ||| (((nar .byte (((y.toUInt32 >>> ((16 : Int32) &&& 31).toUInt32).toInt32).toInt8.toInt32)) &&& (255 : Int32)) <<< ((16 : Int32) &&& 31))) ||| (((nar .byte (((y.toUInt32 >>> ((8 : Int32) &&& 31).toUInt32).toInt32).toInt8.toInt32)) &&& (255 : Int32)) <<< ((8 : Int32) &&& 31))))])) _
    refine st8 _ ?_
    show Steps p.tables e below (T8.setTop (mkF m 246 #[.val (.int p1), .val (.int p2), .val (.int p3), .val (.int y), .val (.ref c1), .val (.int (4 : Int32)), .unset] [(.int ((nar .byte (((y.toUInt32 >>> ((0 : Int32) &&& 31).toUInt32).toInt32).toInt8.toInt32)) &&& (255 : Int32))), (.int (((((nar .byte (((y.toUInt32 >>> ((24 : Int32) &&& 31).toUInt32).toInt32).toInt8.toInt32)) &&& (255 : Int32)) <<< ((24 : Int32) &&& 31)) ||| (((nar .byte (((y.toUInt32 >>> ((16 : Int32) &&& 31).toUInt32).toInt32).toInt8.toInt32)) &&& (255 : Int32)) <<< ((16 : Int32) &&& 31))) ||| (((nar .byte (((y.toUInt32 >>> ((8 : Int32) &&& 31).toUInt32).toInt32).toInt8.toInt32)) &&& (255 : Int32)) <<< ((8 : Int32) &&& 31))))])) _
    refine XS.ior X8.here hx rfl (hb hby at_246) rfl ?_
    show Steps p.tables e below (T8.setTop (mkF m 247 #[.val (.int p1), .val (.int p2), .val (.int p3), .val (.int y), .val (.ref c1), .val (.int (4 : Int32)), .unset] [(.int ((((((nar .byte (((y.toUInt32 >>> ((24 : Int32) &&& 31).toUInt32).toInt32).toInt8.toInt32)) &&& (255 : Int32)) <<< ((24 : Int32) &&& 31)) ||| (((nar .byte (((y.toUInt32 >>> ((16 : Int32) &&& 31).toUInt32).toInt32).toInt8.toInt32)) &&& (255 : Int32)) <<< ((16 : Int32) &&& 31))) ||| (((nar .byte (((y.toUInt32 >>> ((8 : Int32) &&& 31).toUInt32).toInt32).toInt8.toInt32)) &&& (255 : Int32)) <<< ((8 : Int32) &&& 31))) ||| ((nar .byte (((y.toUInt32 >>> ((0 : Int32) &&& 31).toUInt32).toInt32).toInt8.toInt32)) &&& (255 : Int32))))])) _
    refine XS.istore X8.here hx rfl (hb hby at_247) rfl (l' := #[.val (.int p1), .val (.int p2), .val (.int p3), .val (.int y), .val (.ref c1), .val (.int (4 : Int32)), .val (.int ((((((nar .byte (((y.toUInt32 >>> ((24 : Int32) &&& 31).toUInt32).toInt32).toInt8.toInt32)) &&& (255 : Int32)) <<< ((24 : Int32) &&& 31)) ||| (((nar .byte (((y.toUInt32 >>> ((16 : Int32) &&& 31).toUInt32).toInt32).toInt8.toInt32)) &&& (255 : Int32)) <<< ((16 : Int32) &&& 31))) ||| (((nar .byte (((y.toUInt32 >>> ((8 : Int32) &&& 31).toUInt32).toInt32).toInt8.toInt32)) &&& (255 : Int32)) <<< ((8 : Int32) &&& 31))) ||| ((nar .byte (((y.toUInt32 >>> ((0 : Int32) &&& 31).toUInt32).toInt32).toInt8.toInt32)) &&& (255 : Int32))))]) rfl ?_
    show Steps p.tables e below (T8.setTop (mkF m 249 #[.val (.int p1), .val (.int p2), .val (.int p3), .val (.int y), .val (.ref c1), .val (.int (4 : Int32)), .val (.int ((((((nar .byte (((y.toUInt32 >>> ((24 : Int32) &&& 31).toUInt32).toInt32).toInt8.toInt32)) &&& (255 : Int32)) <<< ((24 : Int32) &&& 31)) ||| (((nar .byte (((y.toUInt32 >>> ((16 : Int32) &&& 31).toUInt32).toInt32).toInt8.toInt32)) &&& (255 : Int32)) <<< ((16 : Int32) &&& 31))) ||| (((nar .byte (((y.toUInt32 >>> ((8 : Int32) &&& 31).toUInt32).toInt32).toInt8.toInt32)) &&& (255 : Int32)) <<< ((8 : Int32) &&& 31))) ||| ((nar .byte (((y.toUInt32 >>> ((0 : Int32) &&& 31).toUInt32).toInt32).toInt8.toInt32)) &&& (255 : Int32))))] [])) _
    refine XS.iload X8.here hx rfl (hb hby at_249) rfl ?_
    show Steps p.tables e below (T8.setTop (mkF m 251 #[.val (.int p1), .val (.int p2), .val (.int p3), .val (.int y), .val (.ref c1), .val (.int (4 : Int32)), .val (.int ((((((nar .byte (((y.toUInt32 >>> ((24 : Int32) &&& 31).toUInt32).toInt32).toInt8.toInt32)) &&& (255 : Int32)) <<< ((24 : Int32) &&& 31)) ||| (((nar .byte (((y.toUInt32 >>> ((16 : Int32) &&& 31).toUInt32).toInt32).toInt8.toInt32)) &&& (255 : Int32)) <<< ((16 : Int32) &&& 31))) ||| (((nar .byte (((y.toUInt32 >>> ((8 : Int32) &&& 31).toUInt32).toInt32).toInt8.toInt32)) &&& (255 : Int32)) <<< ((8 : Int32) &&& 31))) ||| ((nar .byte (((y.toUInt32 >>> ((0 : Int32) &&& 31).toUInt32).toInt32).toInt8.toInt32)) &&& (255 : Int32))))] [(.int ((((((nar .byte (((y.toUInt32 >>> ((24 : Int32) &&& 31).toUInt32).toInt32).toInt8.toInt32)) &&& (255 : Int32)) <<< ((24 : Int32) &&& 31)) ||| (((nar .byte (((y.toUInt32 >>> ((16 : Int32) &&& 31).toUInt32).toInt32).toInt8.toInt32)) &&& (255 : Int32)) <<< ((16 : Int32) &&& 31))) ||| (((nar .byte (((y.toUInt32 >>> ((8 : Int32) &&& 31).toUInt32).toInt32).toInt8.toInt32)) &&& (255 : Int32)) <<< ((8 : Int32) &&& 31))) ||| ((nar .byte (((y.toUInt32 >>> ((0 : Int32) &&& 31).toUInt32).toInt32).toInt8.toInt32)) &&& (255 : Int32))))])) _
    refine XS.iloadN X8.here hx rfl (hb hby at_251) rfl ?_
    show Steps p.tables e below (T8.setTop (mkF m 252 #[.val (.int p1), .val (.int p2), .val (.int p3), .val (.int y), .val (.ref c1), .val (.int (4 : Int32)), .val (.int ((((((nar .byte (((y.toUInt32 >>> ((24 : Int32) &&& 31).toUInt32).toInt32).toInt8.toInt32)) &&& (255 : Int32)) <<< ((24 : Int32) &&& 31)) ||| (((nar .byte (((y.toUInt32 >>> ((16 : Int32) &&& 31).toUInt32).toInt32).toInt8.toInt32)) &&& (255 : Int32)) <<< ((16 : Int32) &&& 31))) ||| (((nar .byte (((y.toUInt32 >>> ((8 : Int32) &&& 31).toUInt32).toInt32).toInt8.toInt32)) &&& (255 : Int32)) <<< ((8 : Int32) &&& 31))) ||| ((nar .byte (((y.toUInt32 >>> ((0 : Int32) &&& 31).toUInt32).toInt32).toInt8.toInt32)) &&& (255 : Int32))))] [(.int y), (.int ((((((nar .byte (((y.toUInt32 >>> ((24 : Int32) &&& 31).toUInt32).toInt32).toInt8.toInt32)) &&& (255 : Int32)) <<< ((24 : Int32) &&& 31)) ||| (((nar .byte (((y.toUInt32 >>> ((16 : Int32) &&& 31).toUInt32).toInt32).toInt8.toInt32)) &&& (255 : Int32)) <<< ((16 : Int32) &&& 31))) ||| (((nar .byte (((y.toUInt32 >>> ((8 : Int32) &&& 31).toUInt32).toInt32).toInt8.toInt32)) &&& (255 : Int32)) <<< ((8 : Int32) &&& 31))) ||| ((nar .byte (((y.toUInt32 >>> ((0 : Int32) &&& 31).toUInt32).toInt32).toInt8.toInt32)) &&& (255 : Int32))))])) _
    refine XS.icmpNo X8.here hx rfl (hb hby at_252) rfl (teq (own_r4 y : ((((((nar .byte (((y.toUInt32 >>> ((24 : Int32) &&& 31).toUInt32).toInt32).toInt8.toInt32)) &&& (255 : Int32)) <<< ((24 : Int32) &&& 31)) ||| (((nar .byte (((y.toUInt32 >>> ((16 : Int32) &&& 31).toUInt32).toInt32).toInt8.toInt32)) &&& (255 : Int32)) <<< ((16 : Int32) &&& 31))) ||| (((nar .byte (((y.toUInt32 >>> ((8 : Int32) &&& 31).toUInt32).toInt32).toInt8.toInt32)) &&& (255 : Int32)) <<< ((8 : Int32) &&& 31))) ||| ((nar .byte (((y.toUInt32 >>> ((0 : Int32) &&& 31).toUInt32).toInt32).toInt8.toInt32)) &&& (255 : Int32))) = y)).2 ?_
    show Steps p.tables e below (T8.setTop (mkF m 255 #[.val (.int p1), .val (.int p2), .val (.int p3), .val (.int y), .val (.ref c1), .val (.int (4 : Int32)), .val (.int ((((((nar .byte (((y.toUInt32 >>> ((24 : Int32) &&& 31).toUInt32).toInt32).toInt8.toInt32)) &&& (255 : Int32)) <<< ((24 : Int32) &&& 31)) ||| (((nar .byte (((y.toUInt32 >>> ((16 : Int32) &&& 31).toUInt32).toInt32).toInt8.toInt32)) &&& (255 : Int32)) <<< ((16 : Int32) &&& 31))) ||| (((nar .byte (((y.toUInt32 >>> ((8 : Int32) &&& 31).toUInt32).toInt32).toInt8.toInt32)) &&& (255 : Int32)) <<< ((8 : Int32) &&& 31))) ||| ((nar .byte (((y.toUInt32 >>> ((0 : Int32) &&& 31).toUInt32).toInt32).toInt8.toInt32)) &&& (255 : Int32))))] [])) _
    refine XS.iconst X8.here hx rfl (hb hby at_255) ?_
    show Steps p.tables e below (T8.setTop (mkF m 256 #[.val (.int p1), .val (.int p2), .val (.int p3), .val (.int y), .val (.ref c1), .val (.int (4 : Int32)), .val (.int ((((((nar .byte (((y.toUInt32 >>> ((24 : Int32) &&& 31).toUInt32).toInt32).toInt8.toInt32)) &&& (255 : Int32)) <<< ((24 : Int32) &&& 31)) ||| (((nar .byte (((y.toUInt32 >>> ((16 : Int32) &&& 31).toUInt32).toInt32).toInt8.toInt32)) &&& (255 : Int32)) <<< ((16 : Int32) &&& 31))) ||| (((nar .byte (((y.toUInt32 >>> ((8 : Int32) &&& 31).toUInt32).toInt32).toInt8.toInt32)) &&& (255 : Int32)) <<< ((8 : Int32) &&& 31))) ||| ((nar .byte (((y.toUInt32 >>> ((0 : Int32) &&& 31).toUInt32).toInt32).toInt8.toInt32)) &&& (255 : Int32))))] [(.int (1 : Int32))])) _
    refine XS.goto X8.here hx rfl (pc0 := 256) (pc' := 260) rfl (hb hby at_256) (by decide) (by decide) ?_
    show Steps p.tables e below (T8.setTop (mkF m 260 #[.val (.int p1), .val (.int p2), .val (.int p3), .val (.int y), .val (.ref c1), .val (.int (4 : Int32)), .val (.int ((((((nar .byte (((y.toUInt32 >>> ((24 : Int32) &&& 31).toUInt32).toInt32).toInt8.toInt32)) &&& (255 : Int32)) <<< ((24 : Int32) &&& 31)) ||| (((nar .byte (((y.toUInt32 >>> ((16 : Int32) &&& 31).toUInt32).toInt32).toInt8.toInt32)) &&& (255 : Int32)) <<< ((16 : Int32) &&& 31))) ||| (((nar .byte (((y.toUInt32 >>> ((8 : Int32) &&& 31).toUInt32).toInt32).toInt8.toInt32)) &&& (255 : Int32)) <<< ((8 : Int32) &&& 31))) ||| ((nar .byte (((y.toUInt32 >>> ((0 : Int32) &&& 31).toUInt32).toInt32).toInt8.toInt32)) &&& (255 : Int32))))] [(.int (1 : Int32))])) _
    exact retN X8 hx (t := .boolean) Bd.returns (by simp) (hb hby at_260) hr
  · show Q0 Z p1 p2 p3 h0 n0 _ T8.heap _
    rw [eh8]
    exact ⟨rfl, N8⟩
theorem own_ge {y k : Int32} (h : ¬ (y < k)) : k.toInt ≤ y.toInt := by rw [Int32.lt_iff_toInt_lt] at h; omega
theorem rm0 (l : Launch) (Z : State) (a0 : Array Value) (hw : ∀ d ∈ tables_1, d.before a0 Z = true) (ws : List Jvm.Cond) (p1 p2 p3 : Int32) (h0 : Heap) (n0 : Nat) (Z0 : n0 ≤ h0.size) : MetFree l x (head1 (Jvm.Cond.code x code maxLocals ret :: ws) room_1) (fun a U => a = #[(.int p1), (.int p2), (.int p3)] ∧ Z.Warmed39 U.vm ∧ U.heap = h0) (fun _ _ _ _ _ => True) (fun _ U o U' => ∃ v L, o = .returned v ∧ Q0 Z p1 p2 p3 h0 n0 v U'.heap L ∧ FrameEnd U o U' L room_1.cells room_1.slots) := by
  obtain ⟨y, hy⟩ : ∃ y, (((p2 &&& (2147483647 : Int32)).toUInt32 >>> ((p3 &&& (31 : Int32)) &&& 31).toUInt32).toInt32) = y := ⟨_, rfl⟩
  have h0y : 0 ≤ y.toInt := hy ▸ own_len p2 p3
  by_cases gq1 : y < (128 : Int32)
  · exact rm0_0 l Z a0 hw ws p1 p2 p3 y h0 n0 Z0 hy h0y gq1
  have q := own_nlz y (own_ge gq1)
  by_cases gq2 : y < (256 : Int32)
  · exact rm0_1 l Z a0 hw ws p1 p2 p3 y h0 n0 Z0 hy h0y gq1 gq2 (q.trans (if_pos (own_lt gq2)))
  have q2 := q.trans (if_neg (Int.not_lt.mpr (own_ge gq2)))
  by_cases gq3 : y < (65536 : Int32)
  · exact rm0_2 l Z a0 hw ws p1 p2 p3 y h0 n0 Z0 hy h0y gq1 gq2 gq3 (q2.trans (if_pos (own_lt gq3)))
  have q3 := q2.trans (if_neg (Int.not_lt.mpr (own_ge gq3)))
  by_cases gq4 : y < (16777216 : Int32)
  · exact rm0_3 l Z a0 hw ws p1 p2 p3 y h0 n0 Z0 hy h0y gq1 gq2 gq3 gq4 (q3.trans (if_pos (own_lt gq4)))
  · exact rm0_4 l Z a0 hw ws p1 p2 p3 y h0 n0 Z0 hy h0y gq1 gq2 gq3 gq4 (q3.trans (if_neg (Int.not_lt.mpr (own_ge gq4))))
set_option maxRecDepth 65536 in
set_option maxHeartbeats 40000000 in
theorem comes_1 {Post : Tables → Env → Array Value → State → Outcome → State → Prop} (hpost : ∀ tb e args s v u, (limb_1_1.after args s (.returned v) u = true ∧ limb_1_2.after args s (.returned v) u = true ∧ True) → FrameEnd s (.returned v) u (Jvm.fieldLocs frame_1_writes args s ++ Jvm.arrayLocs frame_1_arrays args s ++ Jvm.staticLocs frame_1_statics s) 16 128 → Post tb e args s (.returned v) u) :
    ArmFor flags0 classFile x code maxLocals ret World_1 tables_1 room_1 Calls_1 rest_1 Pre_1 Post := by
  intro l hfl _ _ p e ha hc hk s m args below hf hA hF happ hP
  obtain ⟨hcalls, hrest, hpre⟩ := hP
  obtain ⟨-, -, -, hnamed, -, -, -, hat⟩ := (Spec.applies_iff hf).mp happ
  obtain ⟨hg, hn⟩ := and_e (Cond.before_iff.mp (show (Jvm.Cond.and given_1 narrow_1).before args s = true from hpre))
  obtain ⟨u0, r0⟩ := and_e hg
  obtain ⟨u1, r1⟩ := and_e r0
  obtain ⟨u2, r2⟩ := and_e r1
  obtain ⟨w0, w1, w2, rfl⟩ : ∃ w0 w1 w2 : Value, args = #[w0, w1, w2] := by
    have hs : args.size = 3 := by simpa [Cond.value, given_1] using u0
    obtain ⟨L⟩ := args
    match L, hs with
    | [w0, w1, w2], _ => exact ⟨w0, w1, w2, rfl⟩
  have hw := fun d (hd : d ∈ tables_1) => atoms_spec (ws := Jvm.Cond.code x code maxLocals ret :: tables_1) hat d (List.mem_cons_of_mem _ hd)
  obtain ⟨i0, ei0⟩ := is_v u1
  obtain rfl : w0 = (.int i0) := Option.some.inj ei0
  obtain ⟨i1, ei1⟩ := is_v u2
  obtain rfl : w1 = (.int i1) := Option.some.inj ei1
  obtain ⟨i2, ei2⟩ := is_v r2
  obtain rfl : w2 = (.int i2) := Option.some.inj ei2
  obtain ⟨n, o, h1, h2, h3, _, L, rfl, ⟨rfl, N⟩, hq⟩ := rm0 l s _ hw tables_1 i0 i1 i2 s.heap s.heap.size (Nat.le_refl _) p e ha hc hk s m _ below hf ((Spec.applies_iff_loose hf).mp happ).1 ⟨rfl, State.Warmed39.refl s, rfl⟩ trivial
  refine ⟨n, _, h1, h2, h3, hpost _ _ _ _ _ _ ⟨Cond.after_iff.mpr rfl, Cond.after_iff.mpr (eq_i res_at (Term.int_eval (1)) rfl), trivial⟩ ⟨hq.1, hq.2.1, (hq.2.2.sift fun y hy => Or.inr (N y hy)).mono (by decide) (by decide)⟩⟩
theorem main_1_1 : Claimed_1_1 := comes_1 fun _ _ _ _ _ _ h hF => ⟨h.1, hF⟩
theorem main_1_2 : Claimed_1_2 := comes_1 fun _ _ _ _ _ _ h hF => ⟨h.2.1, hF⟩
end Jvm.Pilot.@@N@@
namespace Jvm.Pilot.@@N@@
open Jvm Jvm.ClassFile Sem Op Lib Jvm.Free Jvm.Stand Jvm.Pilot.@@N@@.Jvm.D
/-! MADE BY PROGRAM (witnessworld.py) out of the Statement's table words and the real class files: 15 classes; the members and pool entries that the words name. The judged class is class 1, her method 2. -/
namespace start1
open Jvm.ClassFile
def u (s : String) : CpInfo := .utf8 (stringToUtf16 s)
/-- a pool by its gaps: so many unusable entries, then the entry; so many at the end -/
def gap : Nat → List CpInfo → List CpInfo
  | 0, r => r
  | n + 1, r => .unusable :: gap n r
def poolList (es : List (Nat × CpInfo)) (last : Nat) : List CpInfo := es.foldr (fun e r => gap e.1 (e.2 :: r)) (gap last [])
def pool (es : List (Nat × CpInfo)) (last : Nat) : Array CpInfo := ⟨poolList es last⟩
def fileOf (pool : Array CpInfo) (this : Nat) (attrs : Array Attribute := #[]) (ms : Array MethodInfo := #[]) (fl : Nat := 33) (sup : Nat := 0) (ifs : Array Nat := #[]) (fds : Array FieldInfo := #[]) : ClassFile where
  minorVersion := 0
  majorVersion := 65
  constantPool := pool
  accessFlags := fl
  thisClass := this
  superClass := sup
  interfaces := ifs
  fields := fds
  methods := ms
  attributes := attrs
def plain (name : String) (sup : Option ClassId) : Class where
  name := name
  kind := .ordinary
  loader := none
  accessFlags := 33
  super := sup
  interfaces := #[]
  cf := none
  fields := #[]
  methods := #[]
  instanceTypes := #[]
  staticTypes := #[]
  resolved := #[]
  callSites := []
  init := .initialized
  statics := none
  mirror := none

def pool0 : Array CpInfo := pool [(5, u "<init>"), (0, u "()V"), (1, .class_ 10), (1, u "java/lang/Object")] 113

def k0m0 : Method := { name := "<init>", desc := "()V", sig := { parameters := [], returnType := none }, accessFlags := 1, code := none }
/-- java/lang/Object -/
def k0 : Class := { plain "java/lang/Object" none with
  accessFlags := 33
  interfaces := #[]
  cf := some (fileOf pool0 8 #[] #[{ accessFlags := 1, nameIndex := 5, descriptorIndex := 6, attributes := #[] }] 33 0 #[] #[])
  fields := #[]
  methods := #[k0m0]
  instanceTypes := #[]
  staticTypes := #[]
  resolved := Array.replicate 124 none
  statics := none }

def pool1 : Array CpInfo := pool [(2, .class_ 4), (1, u "java/lang/Object"), (0, u "<init>"), (0, u "()V"), (0, .integer 2147483647), (0, .methodref 9 10), (0, .class_ 11), (0, .nameAndType 12 13), (0, u "com/example/rollcall/rollcall/DerElement"), (0, u "header"), (0, u "(II)[B"), (0, .integer 65536), (0, .integer 16777216), (0, .methodref 17 18), (0, .class_ 19), (0, .nameAndType 20 21), (0, u "com/example/rollcall/rollcall/DerElementHeaderPinLaw"), (0, u "u"), (0, u "([BI)I"), (2, u "law"), (0, u "(III)Z")] 5

def k1m0 : Method := { name := "<init>", desc := "()V", sig := { parameters := [], returnType := none }, accessFlags := 1, code := none }
def k1c1 : Code := { maxStack := 2, maxLocals := 2, code := method_2_code, exceptionTable := #[], attributes := #[] }
def k1m1 : Method := { name := "u", desc := "([BI)I", sig := { parameters := [(.array .byte), .int], returnType := some .int }, accessFlags := 10, code := some k1c1 }
def k1c2 : Code := { maxStack := 3, maxLocals := 7, code := code, exceptionTable := #[], attributes := #[] }
def k1m2 : Method := { name := "law", desc := "(III)Z", sig := { parameters := [.int, .int, .int], returnType := some .boolean }, accessFlags := 9, code := some k1c2 }
/-- com/example/rollcall/rollcall/DerElementHeaderPinLaw -/
def k1 : Class := { plain "com/example/rollcall/rollcall/DerElementHeaderPinLaw" (some 0) with
  accessFlags := 49
  interfaces := #[]
  cf := some (fileOf pool1 17 #[] #[{ accessFlags := 1, nameIndex := 5, descriptorIndex := 6, attributes := #[] }, { accessFlags := 10, nameIndex := 20, descriptorIndex := 21, attributes := #[] }, { accessFlags := 9, nameIndex := 24, descriptorIndex := 25, attributes := #[] }] 49 2 #[] #[])
  fields := #[]
  methods := #[k1m0, k1m1, k1m2]
  instanceTypes := #[]
  staticTypes := #[]
  resolved := Array.replicate 31 none
  statics := none }

def pool2 : Array CpInfo := pool [(2, .class_ 4), (1, u "java/lang/Object"), (0, u "<init>"), (0, u "()V"), (0, .class_ 8), (0, u "java/lang/Record")] 13

def k2m0 : Method := { name := "<init>", desc := "()V", sig := { parameters := [], returnType := none }, accessFlags := 4, code := none }
/-- java/lang/Record -/
def k2 : Class := { plain "java/lang/Record" (some 0) with
  accessFlags := 1057
  interfaces := #[]
  cf := some (fileOf pool2 7 #[] #[{ accessFlags := 4, nameIndex := 5, descriptorIndex := 6, attributes := #[] }] 1057 2 #[] #[])
  fields := #[]
  methods := #[k2m0]
  instanceTypes := #[]
  staticTypes := #[]
  resolved := Array.replicate 22 none
  statics := none }

def pool3 : Array CpInfo := pool [(2, .class_ 4), (1, u "java/lang/Record"), (3, .class_ 10), (1, u "com/example/rollcall/rollcall/DerElement"), (0, u "tag"), (0, u "I"), (2, u "start"), (2, u "content"), (2, u "end"), (11, u "header"), (0, u "(II)[B"), (15, .class_ 51), (0, u "java/lang/Integer"), (0, .methodref 50 53), (0, .nameAndType 54 55), (0, u "numberOfLeadingZeros"), (0, u "(I)I"), (14, u "SEQUENCE"), (2, u "SET"), (1, u "BOOLEAN"), (1, u "INTEGER"), (1, u "OBJECT_IDENTIFIER"), (1, u "BIT_STRING"), (1, u "OCTET_STRING"), (1, u "UTF8_STRING"), (1, u "UTC_TIME"), (1, u "GENERALIZED_TIME")] 43

def k3c0 : Code := { maxStack := 5, maxLocals := 5, code := prog_20_method_8_code, exceptionTable := #[], attributes := #[] }
def k3m0 : Method := { name := "header", desc := "(II)[B", sig := { parameters := [.int, .int], returnType := some (.array .byte) }, accessFlags := 8, code := some k3c0 }
/-- com/example/rollcall/rollcall/DerElement -/
def k3 : Class := { plain "com/example/rollcall/rollcall/DerElement" (some 2) with
  accessFlags := 48
  interfaces := #[]
  cf := some (fileOf pool3 8 #[] #[{ accessFlags := 8, nameIndex := 33, descriptorIndex := 34, attributes := #[] }] 48 2 #[] #[{ accessFlags := 18, nameIndex := 11, descriptorIndex := 12, attributes := #[] }, { accessFlags := 18, nameIndex := 15, descriptorIndex := 12, attributes := #[] }, { accessFlags := 18, nameIndex := 18, descriptorIndex := 12, attributes := #[] }, { accessFlags := 18, nameIndex := 21, descriptorIndex := 12, attributes := #[] }, { accessFlags := 24, nameIndex := 70, descriptorIndex := 12, attributes := #[] }, { accessFlags := 24, nameIndex := 73, descriptorIndex := 12, attributes := #[] }, { accessFlags := 24, nameIndex := 75, descriptorIndex := 12, attributes := #[] }, { accessFlags := 24, nameIndex := 77, descriptorIndex := 12, attributes := #[] }, { accessFlags := 24, nameIndex := 79, descriptorIndex := 12, attributes := #[] }, { accessFlags := 24, nameIndex := 81, descriptorIndex := 12, attributes := #[] }, { accessFlags := 24, nameIndex := 83, descriptorIndex := 12, attributes := #[] }, { accessFlags := 24, nameIndex := 85, descriptorIndex := 12, attributes := #[] }, { accessFlags := 24, nameIndex := 87, descriptorIndex := 12, attributes := #[] }, { accessFlags := 24, nameIndex := 89, descriptorIndex := 12, attributes := #[] }])
  fields := #[{ name := "tag", type := .int, accessFlags := 18, slot := 0, constantValue := 0 }, { name := "start", type := .int, accessFlags := 18, slot := 1, constantValue := 0 }, { name := "content", type := .int, accessFlags := 18, slot := 2, constantValue := 0 }, { name := "end", type := .int, accessFlags := 18, slot := 3, constantValue := 0 }, { name := "SEQUENCE", type := .int, accessFlags := 24, slot := 0, constantValue := 0 }, { name := "SET", type := .int, accessFlags := 24, slot := 1, constantValue := 0 }, { name := "BOOLEAN", type := .int, accessFlags := 24, slot := 2, constantValue := 0 }, { name := "INTEGER", type := .int, accessFlags := 24, slot := 3, constantValue := 0 }, { name := "OBJECT_IDENTIFIER", type := .int, accessFlags := 24, slot := 4, constantValue := 0 }, { name := "BIT_STRING", type := .int, accessFlags := 24, slot := 5, constantValue := 0 }, { name := "OCTET_STRING", type := .int, accessFlags := 24, slot := 6, constantValue := 0 }, { name := "UTF8_STRING", type := .int, accessFlags := 24, slot := 7, constantValue := 0 }, { name := "UTC_TIME", type := .int, accessFlags := 24, slot := 8, constantValue := 0 }, { name := "GENERALIZED_TIME", type := .int, accessFlags := 24, slot := 9, constantValue := 0 }]
  methods := #[k3m0]
  instanceTypes := #[.int, .int, .int, .int]
  staticTypes := #[.int, .int, .int, .int, .int, .int, .int, .int, .int, .int]
  resolved := Array.replicate 133 none
  statics := none }

def pool4 : Array CpInfo := pool [(1, .class_ 2), (0, u "java/io/Serializable"), (0, .class_ 4), (0, u "java/lang/Object")] 2

/-- java/io/Serializable -/
def k4 : Class := { plain "java/io/Serializable" (some 0) with
  accessFlags := 1537
  interfaces := #[]
  cf := some (fileOf pool4 1 #[] #[] 1537 3 #[] #[])
  fields := #[]
  methods := #[]
  instanceTypes := #[]
  staticTypes := #[]
  resolved := Array.replicate 7 none
  statics := none }

def pool5 : Array CpInfo := pool [(2, .class_ 4), (1, u "java/lang/Object"), (0, u "<init>"), (0, u "()V"), (1, .class_ 10), (1, u "java/lang/Number"), (2, .class_ 14), (0, u "java/io/Serializable"), (0, u "serialVersionUID"), (0, u "J")] 20

def k5m0 : Method := { name := "<init>", desc := "()V", sig := { parameters := [], returnType := none }, accessFlags := 1, code := none }
/-- java/lang/Number -/
def k5 : Class := { plain "java/lang/Number" (some 0) with
  accessFlags := 1057
  interfaces := #[4]
  cf := some (fileOf pool5 8 #[] #[{ accessFlags := 1, nameIndex := 5, descriptorIndex := 6, attributes := #[] }] 1057 2 #[13] #[{ accessFlags := 26, nameIndex := 15, descriptorIndex := 16, attributes := #[] }])
  fields := #[{ name := "serialVersionUID", type := .long, accessFlags := 26, slot := 0, constantValue := 0 }]
  methods := #[k5m0]
  instanceTypes := #[]
  staticTypes := #[.long]
  resolved := Array.replicate 37 none
  statics := none }

def pool6 : Array CpInfo := pool [(1, .class_ 2), (0, u "java/lang/Comparable"), (0, .class_ 4), (0, u "java/lang/Object")] 7

/-- java/lang/Comparable -/
def k6 : Class := { plain "java/lang/Comparable" (some 0) with
  accessFlags := 1537
  interfaces := #[]
  cf := some (fileOf pool6 1 #[] #[] 1537 3 #[] #[])
  fields := #[]
  methods := #[]
  instanceTypes := #[]
  staticTypes := #[]
  resolved := Array.replicate 12 none
  statics := none }

def pool7 : Array CpInfo := pool [(1, .class_ 2), (0, u "java/lang/constant/Constable"), (0, .class_ 4), (0, u "java/lang/Object")] 6

/-- java/lang/constant/Constable -/
def k7 : Class := { plain "java/lang/constant/Constable" (some 0) with
  accessFlags := 1537
  interfaces := #[]
  cf := some (fileOf pool7 1 #[] #[] 1537 3 #[] #[])
  fields := #[]
  methods := #[]
  instanceTypes := #[]
  staticTypes := #[]
  resolved := Array.replicate 11 none
  statics := none }

def pool8 : Array CpInfo := pool [(1, .class_ 2), (0, u "java/lang/constant/ConstantDesc"), (0, .class_ 4), (0, u "java/lang/Object")] 32

/-- java/lang/constant/ConstantDesc -/
def k8 : Class := { plain "java/lang/constant/ConstantDesc" (some 0) with
  accessFlags := 1537
  interfaces := #[]
  cf := some (fileOf pool8 1 #[] #[] 1537 3 #[] #[])
  fields := #[]
  methods := #[]
  instanceTypes := #[]
  staticTypes := #[]
  resolved := Array.replicate 37 none
  statics := none }

def pool9 : Array CpInfo := pool [(1, .class_ 2), (0, u "java/lang/Integer"), (16, u "digits"), (0, u "[C"), (32, u "numberOfLeadingZeros"), (0, u "(I)I"), (30, u "DigitOnes"), (0, u "[B"), (2, u "DigitTens"), (99, .class_ 190), (0, u "java/lang/Integer$IntegerCache"), (3, u "I"), (8, .class_ 204), (0, u "java/lang/Number"), (2, u "value"), (56, .integer 65536), (37, u "TYPE"), (0, u "Ljava/lang/Class;"), (0, .class_ 305), (0, u "java/lang/Comparable"), (0, .class_ 307), (0, u "java/lang/constant/Constable"), (0, .class_ 309), (0, u "java/lang/constant/ConstantDesc"), (0, u "MIN_VALUE"), (1, u "MAX_VALUE"), (3, u "SIZE"), (1, u "BYTES"), (1, u "serialVersionUID"), (0, u "J")] 131

def k9c0 : Code := { maxStack := 3, maxLocals := 2, code := jdk_33_method_47_code, exceptionTable := #[], attributes := #[] }
def k9m0 : Method := { name := "numberOfLeadingZeros", desc := "(I)I", sig := { parameters := [.int], returnType := some .int }, accessFlags := 9, code := some k9c0 }
/-- java/lang/Integer -/
def k9 : Class := { plain "java/lang/Integer" (some 5) with
  accessFlags := 49
  interfaces := #[6, 7, 8]
  cf := some (fileOf pool9 1 #[.nestMembers #[189]] #[{ accessFlags := 9, nameIndex := 53, descriptorIndex := 54, attributes := #[] }] 49 203 #[304, 306, 308] #[{ accessFlags := 25, nameIndex := 310, descriptorIndex := 194, attributes := #[] }, { accessFlags := 25, nameIndex := 312, descriptorIndex := 194, attributes := #[] }, { accessFlags := 25, nameIndex := 302, descriptorIndex := 303, attributes := #[] }, { accessFlags := 24, nameIndex := 19, descriptorIndex := 20, attributes := #[] }, { accessFlags := 24, nameIndex := 89, descriptorIndex := 86, attributes := #[] }, { accessFlags := 24, nameIndex := 85, descriptorIndex := 86, attributes := #[] }, { accessFlags := 18, nameIndex := 207, descriptorIndex := 194, attributes := #[] }, { accessFlags := 25, nameIndex := 316, descriptorIndex := 194, attributes := #[] }, { accessFlags := 25, nameIndex := 318, descriptorIndex := 194, attributes := #[] }, { accessFlags := 26, nameIndex := 320, descriptorIndex := 321, attributes := #[] }])
  fields := #[{ name := "MIN_VALUE", type := .int, accessFlags := 25, slot := 0, constantValue := 0 }, { name := "MAX_VALUE", type := .int, accessFlags := 25, slot := 1, constantValue := 0 }, { name := "TYPE", type := (.object "java/lang/Class"), accessFlags := 25, slot := 2, constantValue := 0 }, { name := "digits", type := (.array .char), accessFlags := 24, slot := 3, constantValue := 0 }, { name := "DigitTens", type := (.array .byte), accessFlags := 24, slot := 4, constantValue := 0 }, { name := "DigitOnes", type := (.array .byte), accessFlags := 24, slot := 5, constantValue := 0 }, { name := "value", type := .int, accessFlags := 18, slot := 0, constantValue := 0 }, { name := "SIZE", type := .int, accessFlags := 25, slot := 6, constantValue := 0 }, { name := "BYTES", type := .int, accessFlags := 25, slot := 7, constantValue := 0 }, { name := "serialVersionUID", type := .long, accessFlags := 26, slot := 8, constantValue := 0 }]
  methods := #[k9m0]
  instanceTypes := #[.int]
  staticTypes := #[.int, .int, (.object "java/lang/Class"), (.array .char), (.array .byte), (.array .byte), .int, .int, .long]
  resolved := Array.replicate 453 none
  statics := none }

def pool10 : Array CpInfo := pool [(1, u "java/lang/Cloneable"), (0, .class_ 1), (0, u "java/lang/Object"), (0, .class_ 3)] 3

/-- java/lang/Cloneable -/
def k10 : Class := { plain "java/lang/Cloneable" (some 0) with
  accessFlags := 1537
  interfaces := #[]
  cf := some (fileOf pool10 2 #[] #[] 1537 4 #[] #[])
  fields := #[]
  methods := #[]
  instanceTypes := #[]
  staticTypes := #[]
  resolved := Array.replicate 8 none
  statics := none }

/-- the primitive byte -/
def k11 : Class := { plain "byte" none with kind := .primitive 'B', accessFlags := 0x411 }
/-- [B -/
def k12 : Class := { plain "[B" (some 0) with kind := .array 11 .byte, interfaces := #[10, 4], accessFlags := 1041 }

/-- the primitive int -/
def k13 : Class := { plain "int" none with kind := .primitive 'I', accessFlags := 0x411 }
/-- [I -/
def k14 : Class := { plain "[I" (some 0) with kind := .array 13 .int, interfaces := #[10, 4], accessFlags := 1041 }

def heap : Heap := #[]
def classes : Array Class := #[k0, k1, k2, k3, k4, k5, k6, k7, k8, k9, k10, k11, k12, k13, k14]
def interned : List (Array UInt16 × Addr) := []
def slotsUsed : Nat := 0
def theMethod : MethodId := ⟨1, 2⟩
def args0 : Array Value := #[.int 1, .int 5, .int 7]
def aboutOver (below : List Frame) : State where
  vm := { classes := classes, interned := interned.toArray }
  heap := heap
  slotsUsed := slotsUsed
  threads := #[{ frames := .invoking theMethod args0 :: below }]
def below0 : List Frame := [.native { method := ⟨0, 0⟩, args := #[] }]
def about1 : State := aboutOver below0
def p0 : Program := .bare "" "" ""
def e0 : Env := launch0.env 0 0 0
theorem w_frames : about1.frames = Frame.invoking theMethod args0 :: below0 := rfl
set_option maxRecDepth 65536 in
theorem w_args : argsFit about1.vm theMethod args0 = true := by decide +kernel
set_option maxRecDepth 65536 in
theorem w_heap : heapFits about1 = true := by decide +kernel
set_option maxRecDepth 65536 in
theorem w_runnable : about1.curStatus? = some .runnable := by decide +kernel
set_option maxRecDepth 65536 in
theorem w_alone : about1.alone = true := by decide +kernel
set_option maxRecDepth 65536 in
theorem w_named : about1.methodNamed? x = some theMethod := by decide +kernel
set_option maxRecDepth 65536 in
theorem w_hears : about1.hears theMethod below0 = true := by decide +kernel
set_option maxRecDepth 65536 in
theorem w_ripe : about1.ripe theMethod args0 below0 = true := by decide +kernel
theorem w_running : about1.status = .running := rfl
set_option maxRecDepth 65536 in
theorem w_room : about1.hasRoom e0.platform room_1 = true :=
  launch0.hasRoom_least _ room_1 (by decide +kernel) (by decide +kernel) (by decide +kernel) (by decide +kernel) (by decide +kernel) (by decide +kernel)
theorem allAtoms_all (ts : List Jvm.Cond) (a : Array Jvm.Value) (st : Jvm.State) : (allAtoms ts).before a st = ts.all (fun c => c.before a st) := by
  induction ts with
  | nil => rfl
  | cons c t ih =>
    show (Jvm.Cond.and c (allAtoms t)).before a st = _
    rw [Jvm.Cond.before_and, ih, List.all_cons]
def words1 : List Jvm.Cond := Jvm.Cond.code x code maxLocals ret :: tables_1
/-- a 'code' word, met by the world's own term for the bytes: nothing is compared byte by byte -/
theorem code_word {y : MethodName} {bytes : ByteArray} {mx : Nat} {rt : Option FieldType} {a : Array Value} {s : State} {m : MethodId} {meth : Method} {c : Code} (h1 : s.methodNamed? y = some m) (h2 : s.vm.method? m = some meth) (h3 : meth.code = some c) (h4 : c.code = bytes)
    (h5 : (c.maxLocals == mx && c.exceptionTable.isEmpty && decide (c.maxStack ≤ mostOperands) && decide (meth.sig.returnType = rt) && !meth.locks && decide (parseMethodDescriptor y.desc = some meth.sig)) = true) : (Jvm.Cond.code y bytes mx rt).before a s = true := by
  simp only [Bool.and_eq_true, beq_iff_eq, Bool.not_eq_true', decide_eq_true_eq] at h5
  obtain ⟨⟨⟨⟨⟨g1, g2⟩, g3⟩, g4⟩, g5⟩, g6⟩ := h5
  simp [Cond.before, Cond.holds, Cond.value, h1, h2, h3, h4, g1, g2, g3, g4, g5, g6]
def isCode : Jvm.Cond → Bool
  | .code _ _ _ _ => true
  | _ => false
theorem all_split {L : List Jvm.Cond} {P : Jvm.Cond → Bool} (h1 : L.all (fun c => isCode c || P c) = true) (h2 : ∀ c ∈ L.filter isCode, P c = true) : L.all P = true := by
  refine List.all_eq_true.mpr fun c hc => ?_
  have h := List.all_eq_true.mp h1 c hc
  rcases Bool.eq_false_or_eq_true (isCode c) with hi | hi
  · exact h2 c (List.mem_filter.mpr ⟨hc, hi⟩)
  · simpa [hi] using h
set_option maxRecDepth 65536 in
theorem w_c0 : (Jvm.Cond.code x code maxLocals ret).before args0 about1 = true := code_word (m := ⟨1, 2⟩) (meth := k1m2) (c := k1c2) (by decide +kernel) rfl rfl rfl (by decide +kernel)
set_option maxRecDepth 65536 in
theorem w_c1 : (Jvm.Cond.code ({ cls := "com/example/rollcall/rollcall/DerElement", name := "header", desc := "(II)[B" } : Jvm.MethodName) prog_20_method_8_code (5 : Nat) (Option.some (Jvm.ClassFile.FieldType.array Jvm.ClassFile.FieldType.byte))).before args0 about1 = true := code_word (m := ⟨3, 0⟩) (meth := k3m0) (c := k3c0) (by decide +kernel) rfl rfl rfl (by decide +kernel)
set_option maxRecDepth 65536 in
theorem w_c2 : (Jvm.Cond.code ({ cls := "java/lang/Integer", name := "numberOfLeadingZeros", desc := "(I)I" } : Jvm.MethodName) jdk_33_method_47_code (2 : Nat) (Option.some Jvm.ClassFile.FieldType.int)).before args0 about1 = true := code_word (m := ⟨9, 0⟩) (meth := k9m0) (c := k9c0) (by decide +kernel) rfl rfl rfl (by decide +kernel)
set_option maxRecDepth 65536 in
theorem w_c3 : (Jvm.Cond.code ({ cls := "com/example/rollcall/rollcall/DerElementHeaderPinLaw", name := "u", desc := "([BI)I" } : Jvm.MethodName) method_2_code (2 : Nat) (Option.some Jvm.ClassFile.FieldType.int)).before args0 about1 = true := code_word (m := ⟨1, 1⟩) (meth := k1m1) (c := k1c1) (by decide +kernel) rfl rfl rfl (by decide +kernel)
def codes1 : List Jvm.Cond := [Jvm.Cond.code x code maxLocals ret, Jvm.Cond.code ({ cls := "com/example/rollcall/rollcall/DerElement", name := "header", desc := "(II)[B" } : Jvm.MethodName) prog_20_method_8_code (5 : Nat) (Option.some (Jvm.ClassFile.FieldType.array Jvm.ClassFile.FieldType.byte)), Jvm.Cond.code ({ cls := "java/lang/Integer", name := "numberOfLeadingZeros", desc := "(I)I" } : Jvm.MethodName) jdk_33_method_47_code (2 : Nat) (Option.some Jvm.ClassFile.FieldType.int), Jvm.Cond.code ({ cls := "com/example/rollcall/rollcall/DerElementHeaderPinLaw", name := "u", desc := "([BI)I" } : Jvm.MethodName) method_2_code (2 : Nat) (Option.some Jvm.ClassFile.FieldType.int)]
set_option maxRecDepth 65536 in
theorem codes_eq : words1.filter isCode = codes1 := rfl
theorem w_codes : ∀ c ∈ words1.filter isCode, c.before args0 about1 = true := by
  rw [codes_eq]
  intro c hc
  simp only [codes1, List.mem_cons, List.not_mem_nil, or_false] at hc
  rcases hc with rfl | rfl | rfl | rfl
  · exact w_c0
  · exact w_c1
  · exact w_c2
  · exact w_c3
set_option maxRecDepth 65536 in
theorem w_t1 : words1.all (fun c => isCode c || c.before args0 about1) = true := by decide +kernel
theorem w_tables : (allAtoms (Jvm.Cond.code x code maxLocals ret :: tables_1)).before args0 about1 = true := by
  rw [allAtoms_all]
  show words1.all (fun c => c.before args0 about1) = true
  refine all_split ?_ w_codes
  rw [w_t1]
set_option maxRecDepth 65536 in
theorem w_case : (Jvm.Cond.and given_1 narrow_1).before args0 about1 = true := by decide +kernel
theorem w_applies : (headSpec (Jvm.Cond.code x code maxLocals ret :: tables_1) room_1).applies x e0.platform about1 = true :=
  (Spec.applies_iff w_frames).mpr ⟨w_running, w_runnable, w_alone, w_named, w_hears, w_ripe, w_room, w_tables⟩
theorem atStart : AtStart classFile x code maxLocals ret World_1 tables_1 room_1 Calls_1 rest_1 Pre_1 launch0 p0 e0 about1 theMethod args0 below0 :=
  ⟨lists_1, trivial, launch0.admits_env _ _ _, launch0.least_env, fairChoices_fair.cas, fairChoices_fair.clock, w_frames, w_args, w_heap, w_applies, trivial, trivial, w_case⟩
end start1
theorem witness_1 : WitnessClaimed_1 := ⟨start1.p0, start1.e0, start1.about1, start1.theMethod, start1.args0, start1.below0, start1.atStart⟩
end Jvm.Pilot.@@N@@
