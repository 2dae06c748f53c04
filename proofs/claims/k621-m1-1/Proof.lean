import JvmDerived
import JvmDerived.Pilot.@@N@@Statement
import JvmDerived.Pilot.@@N@@Code
set_option linter.unusedVariables false
set_option linter.unusedSimpArgs false
namespace Jvm.RoadKit
open Sem ClassFile Op Lib Jvm.Stand Jvm.Free Jvm.LawKit
section New
variable {p : Program} {l : Launch} {e : Env} {R : Room} {s : State} {m : MethodId} {args : Array Value} {below : List Frame} {meth : Method} {c : Code} {T : State} {locs : List Loc} {cells slots : Nat}
theorem retI (X : Stand p l e R s m args below meth c T locs cells slots) (hx : p.tables.exec = Jvm.exec) {pc : Nat} {Ls : Array Slot} {z : Int32} {rest : List Value} (hret : meth.sig.returnType = some .int) (hd : decode c.code pc = .ok (.ireturn, 1)) {fs : List Frame}
    (hl : ∀ (f : JFrame) (acts : List Action), f.method = m → f.locked = none → f.entered = [] → (doReturn e (T.setTop f) acts (some (.int z))).1 = T.setFrames fs) : Steps p.tables e below (T.setTop (mkF m pc Ls (.int z :: rest))) (T.setFrames fs) := by
  have hm' : T.vm.method? m = some meth := X.method'
  have hn : narrow .int (.int z) = .int z := rfl
  show Steps p.tables e below (T.setTop { method := m, pc := pc, locals := Ls, stack := _ :: rest, locked := none }) _
  jvm_step X.here [X.here.top, hx, hd, hm', hret, hn]
  first | (intro acts; rw [hl _ acts rfl rfl rfl]) | rw [hl _ _ rfl rfl rfl]
  exact Steps.refl _
theorem own_retD (X : Stand p l e R s m args below meth c T locs cells slots) (hx : p.tables.exec = Jvm.exec) {pc : Nat} {Ls : Array Slot} {z : UInt64} {rest : List Value} (hret : meth.sig.returnType = some .double) (hd : decode c.code pc = .ok (.dreturn, 1)) {fs : List Frame}
    (hl : ∀ (f : JFrame) (acts : List Action), f.method = m → f.locked = none → f.entered = [] → (doReturn e (T.setTop f) acts (some (.double z))).1 = T.setFrames fs) : Steps p.tables e below (T.setTop (mkF m pc Ls (.double z :: rest))) (T.setFrames fs) := by
  have hm' : T.vm.method? m = some meth := X.method'
  show Steps p.tables e below (T.setTop { method := m, pc := pc, locals := Ls, stack := _ :: rest, locked := none }) _
  jvm_step X.here [X.here.top, hx, hd, hm', hret, narrow]
  first | (intro acts; rw [hl _ acts rfl rfl rfl]) | rw [hl _ _ rfl rfl rfl]
  exact Steps.refl _
end New
end Jvm.RoadKit
namespace Jvm.Pilot.@@N@@
open Jvm Jvm.ClassFile Sem Op Lib Jvm.Free Jvm.Stand Jvm.LawKit Jvm.RoadKit Bundle Jvm.Pilot.@@N@@.Jvm.D
def QV (Z : State) (u : Value) (h0 : Heap) (n0 : Nat) (v : Option Value) (h : Heap) (L : List Loc) : Prop := v = some u ∧ Fr n0 L ∧ h = h0
section OwnFloat
open Jvm.FP.Core
/-- the rounded X / Y, in units of the least double -/
def own_Q (X Y : Nat) : Nat := zmag b64 (roundRatio b64 false X Y 0)
/-- how many of the least double make 1 -/
def own_P : Nat := 2 ^ (0 - b64.qmin).toNat
theorem own_P_pos : 0 < own_P := Nat.two_pow_pos _
theorem own_unit (X : Nat) : inUnits X 0 b64.qmin = X * own_P := rfl
theorem own_near {X Y : Nat} (hY : 0 < Y) {c : Nat} {q : Int} (h : roundRatio b64 false X Y 0 = .fin false c q) (c' : Nat) (q' : Int) (hf : FP.Core.fits b64 (.fin false c' q')) :
    (((X * own_P : Nat) : Int) - (inUnits c q b64.qmin : Int) * (Y : Int)).natAbs ≤ (((X * own_P : Nat) : Int) - (inUnits c' q' b64.qmin : Int) * (Y : Int)).natAbs :=
  roundRatio_nearest good_b64 hY h hf.1 hf.2.1 (Int.le_refl _) (by decide)
/-- two numbers, each the nearest to its ratio, the greater ratio's the lesser: the two ratios are one -/
theorem own_mid {X Y X' Y' R R' P : Nat} (hP : 0 < P) (hY : 0 < Y) (hY' : 0 < Y') (hlt : R' < R)
    (n1 : (((X * P : Nat) : Int) - (R : Int) * (Y : Int)).natAbs ≤ (((X * P : Nat) : Int) - (R' : Int) * (Y : Int)).natAbs)
    (n2 : (((X' * P : Nat) : Int) - (R' : Int) * (Y' : Int)).natAbs ≤ (((X' * P : Nat) : Int) - (R : Int) * (Y' : Int)).natAbs) : X' * Y ≤ X * Y' := by
  have k1 : (R + R') * Y ≤ 2 * (X * P) := by
    have g : R' * Y < R * Y := Nat.mul_lt_mul_of_pos_right hlt hY
    rw [Nat.add_mul]
    rw [← Int.natCast_mul, ← Int.natCast_mul] at n1
    generalize R * Y = a at *
    generalize R' * Y = b at *
    generalize X * P = x at *
    omega
  have k2 : 2 * (X' * P) ≤ (R + R') * Y' := by
    have g : R' * Y' < R * Y' := Nat.mul_lt_mul_of_pos_right hlt hY'
    rw [Nat.add_mul]
    rw [← Int.natCast_mul, ← Int.natCast_mul] at n2
    generalize R * Y' = a at *
    generalize R' * Y' = b at *
    generalize X' * P = x at *
    omega
  have m1 := Nat.mul_le_mul_right Y' k1
  have m2 := Nat.mul_le_mul_right Y k2
  have m3 : (R + R') * Y * Y' = (R + R') * Y' * Y := by ac_rfl
  rw [m3] at m1
  have m4 := Nat.le_trans m2 m1
  have m5 : 2 * (X' * P) * Y = (2 * P) * (X' * Y) := by ac_rfl
  have m6 : 2 * (X * P) * Y' = (2 * P) * (X * Y') := by ac_rfl
  rw [m5, m6] at m4
  exact Nat.le_of_mul_le_mul_left m4 (by omega)
theorem own_same {X Y X' Y' : Nat} (hY : 0 < Y) (hY' : 0 < Y') (h : X * Y' = X' * Y) : roundRatio b64 false X Y 0 = roundRatio b64 false X' Y' 0 :=
  roundRatio_congr hY hY' (by rw [h])
/-- rounding is monotone -/
theorem own_mono {X Y X' Y' : Nat} (hY : 0 < Y) (hY' : 0 < Y') (h : X * Y' ≤ X' * Y) : own_Q X Y ≤ own_Q X' Y' := by
  unfold own_Q
  have hfit := roundRatio_fits good_b64 false X hY 0
  have hfit' := roundRatio_fits good_b64 false X' hY' 0
  refine Nat.le_of_not_lt fun hlt => ?_
  have hne : X * Y' ≠ X' * Y := fun q => by rw [own_same hY hY' q] at hlt; exact Nat.lt_irrefl _ hlt
  rcases roundRatio_cases b64 false X' Y' 0 with ⟨c', q', h'⟩ | h'
  · rcases roundRatio_cases b64 false X Y 0 with ⟨c, q, hR⟩ | hR
    · rw [hR] at hfit hlt
      rw [h'] at hfit' hlt
      have k3 := own_mid own_P_pos hY hY' (R := inUnits c q b64.qmin) (R' := inUnits c' q' b64.qmin) hlt (own_near hY hR c' q' hfit') (own_near hY' h' c q hfit)
      exact hne (Nat.le_antisymm h k3)
    · -- the lesser one is infinite, the greater is not: not so
      have i1 := (roundRatio_inf good_b64 (e0 := b64.qmin - 1) hY (by omega) (by decide)).mp hR
      have i2 : ¬ roundRatio b64 false X' Y' 0 = .inf false := by rw [h']; exact Datum.noConfusion
      rw [roundRatio_inf good_b64 (e0 := b64.qmin - 1) hY' (by omega) (by decide)] at i2
      refine i2 ?_
      have u : ∀ Z : Nat, inUnits Z 0 (b64.qmin - 1) = Z * 2 ^ (0 - (b64.qmin - 1)).toNat := fun _ => rfl
      rw [u] at i1 ⊢
      generalize 2 ^ (0 - (b64.qmin - 1)).toNat = P at *
      generalize (2 ^ (b64.p + 1) - 1) * 2 ^ (b64.qmax - 1 - (b64.qmin - 1)).toNat = K at *
      have j1 := Nat.mul_le_mul_right Y' i1
      have j2 := Nat.mul_le_mul_left P h
      have j3 : K * Y' * Y ≤ X' * P * Y := by
        calc K * Y' * Y = K * Y * Y' := by ac_rfl
          _ ≤ X * P * Y' := j1
          _ = P * (X * Y') := by ac_rfl
          _ ≤ P * (X' * Y) := j2
          _ = X' * P * Y := by ac_rfl
      exact Nat.le_of_mul_le_mul_right j3 hY
  · rw [h'] at hlt
    exact Nat.lt_irrefl _ (Nat.lt_of_lt_of_le hlt (zmag_le_top good_b64 hfit))
theorem own_eq {X Y X' Y' : Nat} (hY : 0 < Y) (hY' : 0 < Y') (h : X * Y' = X' * Y) : own_Q X Y = own_Q X' Y' := by unfold own_Q; rw [own_same hY hY' h]
set_option maxRecDepth 65536 in
theorem own_Q11 : own_Q 1 1 = own_P := by decide +kernel
set_option maxRecDepth 65536 in
theorem own_Q12 : 2 * own_Q 1 2 = own_P := by decide +kernel
set_option maxRecDepth 65536 in
theorem own_Qtiny : 0 < own_Q 1 (2 ^ 64) := by decide +kernel
set_option maxRecDepth 65536 in
theorem own_Qnear : own_Q (2 ^ 53 - 1) (2 ^ 53) < own_P := by decide +kernel
theorem own_Q0 (Y : Nat) : own_Q 0 Y = 0 := by unfold own_Q roundRatio; rw [if_pos rfl]; exact Nat.zero_mul _
set_option maxRecDepth 65536 in
theorem own_Qbig : own_Q (2 ^ 63) 1 = 2 ^ 63 * own_P := by decide +kernel
def own_z (x : UInt64) : Int := zval b64 (val64 x)
def own_N (a : Int64) : Nat := a.toInt.natAbs
def own_M (a : Int64) : Nat := own_Q (own_N a) 1
theorem own_l2d {a : Int64} (h : 0 ≤ a.toInt) : val64 (FP.l2d a) = roundRatio b64 false (own_N a) 1 0 := by
  have h1 : val64 (FP.l2d a) = roundRatio b64 (decide (a.toInt < 0)) a.toInt.natAbs 1 0 := val64_l2d a
  rw [h1, show decide (a.toInt < 0) = false from decide_eq_false (by omega)]; rfl
theorem own_fin {a : Int64} (h : 0 ≤ a.toInt) : ∃ c q, val64 (FP.l2d a) = .fin false c q ∧ b64.qmin ≤ q ∧ inUnits c q b64.qmin = own_M a := by
  obtain ⟨c, q, hs⟩ := l2d_shape a
  rw [show decide (a.toInt < 0) = false from decide_eq_false (by omega)] at hs
  have hf := val64_fits (FP.l2d a)
  have hs' : val64 (FP.l2d a) = .fin false c q := hs
  rw [hs'] at hf
  refine ⟨c, q, hs, hf.2.1, ?_⟩
  unfold own_M own_Q
  rw [← own_l2d h, hs']; rfl
theorem own_M_le {a b : Int64} (h : own_N a ≤ own_N b) : own_M a ≤ own_M b := own_mono (by decide) (by decide) (by rw [Nat.mul_one, Nat.mul_one]; exact h)
theorem own_M_pos {a : Int64} (h : 0 < own_N a) : own_P ≤ own_M a := by
  rw [← own_Q11]; exact own_mono (by decide) (by decide) (by rw [Nat.mul_one, Nat.mul_one]; exact h)
theorem own_N_lt (a : Int64) : own_N a ≤ 2 ^ 63 := by have h1 := Int64.toInt_lt a; have h2 := Int64.le_toInt a; unfold own_N; omega
theorem own_M_big (a : Int64) : own_M a ≤ 2 ^ 63 * own_P := by
  rw [← own_Qbig]; exact own_mono (by decide) (by decide) (by rw [Nat.mul_one, Nat.mul_one]; exact own_N_lt a)
theorem own_div {a b : Int64} (ha : 0 ≤ a.toInt) (hb : 0 < b.toInt) : val64 (FP.ddiv (FP.l2d a) (FP.l2d b)) = roundRatio b64 false (own_M a) (own_M b) 0 := by
  obtain ⟨c, q, h1, hq, m1⟩ := own_fin ha
  obtain ⟨d, r, h2, hr, m2⟩ := own_fin (Int.le_of_lt hb)
  have hMb : 0 < own_M b := Nat.lt_of_lt_of_le own_P_pos (own_M_pos (by unfold own_N; omega))
  have hd : d ≠ 0 := fun q => by rw [q] at m2; unfold inUnits at m2; rw [Nat.zero_mul] at m2; omega
  have e : val64 (FP.ddiv (FP.l2d a) (FP.l2d b)) = quotient b64 (val64 (FP.l2d a)) (val64 (FP.l2d b)) := val64_ddiv _ _
  rw [e, h1, h2]
  show (if d = 0 then _ else roundRatio b64 (false != false) c d (q - r)) = _
  rw [if_neg hd]
  show roundRatio b64 false c d (q - r) = _
  rw [← m1, ← m2]
  refine roundRatio_congr (Nat.pos_of_ne_zero hd) (by rw [m2]; exact hMb) ?_
  unfold inUnits
  rcases Int.le_total r q with hrq | hrq
  · rw [show (q - r - 0).toNat = (q - r).toNat by omega, show (0 - (q - r)).toNat = 0 by omega, show (q - b64.qmin).toNat = (r - b64.qmin).toNat + (q - r).toNat by omega, Nat.pow_add]
    ac_rfl
  · rw [show (q - r - 0).toNat = 0 by omega, show (r - b64.qmin).toNat = (q - b64.qmin).toNat + (0 - (q - r)).toNat by omega, Nat.pow_add]
    ac_rfl
theorem own_zr {x : UInt64} {X Y : Nat} (h : val64 x = roundRatio b64 false X Y 0) : val64 x ≠ .nan ∧ own_z x = (own_Q X Y : Int) := by
  refine ⟨by rw [h]; exact roundRatio_ne_nan _ _ _ _ _, ?_⟩
  unfold own_z zval
  rw [h, sgn_roundRatio]; rfl
theorem own_exact {a : Int64} (h0 : 0 ≤ a.toInt) (h : a.toInt < 9007199254740992) : own_M a = own_N a * own_P := by
  obtain ⟨c, q, h1, hq, m1⟩ := own_fin h0
  have w : Whole a.toInt (val64 (FP.l2d a)) := l2d_whole ⟨by omega, h⟩
  rw [h1] at w
  have w' : ((c * 2 ^ q.toNat : Nat) : Int) = a.toInt * ((2 ^ (-q).toNat : Nat) : Int) := w
  have e : (own_N a : Int) = a.toInt := by unfold own_N; omega
  rw [← e, ← Int.natCast_mul] at w'
  have w2 : c * 2 ^ q.toNat = own_N a * 2 ^ (-q).toNat := by exact_mod_cast w'
  rw [← m1]
  unfold inUnits own_P
  have hm : b64.qmin ≤ 0 := by decide
  rcases Int.le_total 0 q with hz | hz
  · rw [show (-q).toNat = 0 by omega, Nat.pow_zero, Nat.mul_one] at w2
    rw [show (q - b64.qmin).toNat = q.toNat + (0 - b64.qmin).toNat by omega, Nat.pow_add, ← Nat.mul_assoc, w2]
  · rw [show q.toNat = 0 by omega, Nat.pow_zero, Nat.mul_one] at w2
    rw [w2, Nat.mul_assoc, ← Nat.pow_add, show (-q).toNat + (q - b64.qmin).toNat = (0 - b64.qmin).toNat by omega]
theorem own_dcmp {x y : UInt64} (hx : val64 x ≠ .nan) (hy : val64 y ≠ .nan) (o : CmpOp) : cmpValue (FP.dcmp x y) o = if own_z x < own_z y then -1 else if own_z x = own_z y then 0 else 1 := by
  rw [show FP.dcmp x y = some (compare (own_z x) (own_z y)) from dcmp_zval hx hy, compare_ite]
  by_cases h1 : own_z x < own_z y
  · rw [if_pos h1, if_pos h1]; cases o <;> rfl
  · rw [if_neg h1, if_neg h1]
    by_cases h2 : own_z x = own_z y
    · rw [if_pos h2, if_pos h2]; cases o <;> rfl
    · rw [if_neg h2, if_neg h2]; cases o <;> rfl
theorem own_z0 : val64 FP.dconst0 ≠ .nan ∧ own_z FP.dconst0 = 0 := by decide +kernel
set_option maxRecDepth 65536 in
theorem own_z1 : val64 FP.dconst1 ≠ .nan ∧ own_z FP.dconst1 = (own_P : Int) := by decide +kernel
set_option maxRecDepth 65536 in
theorem own_zh : val64 4602678819172646912 ≠ .nan ∧ own_z 4602678819172646912 = (own_Q 1 2 : Int) := by decide +kernel
theorem own_nn {x : UInt64} (h : val64 x ≠ .nan) : Jvm.Free.Fl.NoNaN64 x := Jvm.Free.Fl.val64_no.mpr h
theorem own_gt {x y : UInt64} (hx : val64 x ≠ .nan) (hy : val64 y ≠ .nan) (o : CmpOp) : (0 : Int32) < cmpValue (FP.dcmp x y) o ↔ own_z y < own_z x := by
  rw [own_dcmp hx hy]
  by_cases h1 : own_z x < own_z y
  · rw [if_pos h1]; exact ⟨fun q => absurd q (by decide), fun q => by omega⟩
  · rw [if_neg h1]
    by_cases h2 : own_z x = own_z y
    · rw [if_pos h2]; exact ⟨fun q => absurd q (by decide), fun q => by omega⟩
    · rw [if_neg h2]; exact ⟨fun _ => by omega, fun _ => by decide⟩
theorem own_eq0 {x y : UInt64} (hx : val64 x ≠ .nan) (hy : val64 y ≠ .nan) (o : CmpOp) : cmpValue (FP.dcmp x y) o = (0 : Int32) ↔ own_z x = own_z y := by
  rw [own_dcmp hx hy]
  by_cases h1 : own_z x < own_z y
  · rw [if_pos h1]; exact ⟨fun q => absurd q (by decide), fun q => by omega⟩
  · rw [if_neg h1]
    by_cases h2 : own_z x = own_z y
    · rw [if_pos h2]; exact ⟨fun _ => h2, fun _ => rfl⟩
    · rw [if_neg h2]; exact ⟨fun q => absurd q (by decide), fun q => by omega⟩
theorem own_10 : ((1 : Int32) = (0 : Int32)) ↔ False := by decide
theorem own_land (x m : Int64) (h : 0 ≤ m.toInt) : 0 ≤ (x &&& m).toInt ∧ (x &&& m).toInt ≤ m.toInt := by
  have hm : m.toBitVec.toNat < 2 ^ 63 := by
    have e : m.toBitVec.toInt = m.toInt := rfl
    rw [BitVec.toInt_eq_toNat_cond] at e
    have := m.toBitVec.isLt
    split at e <;> omega
  have h1 : (x &&& m).toBitVec.toNat ≤ m.toBitVec.toNat := by
    show (x.toBitVec &&& m.toBitVec).toNat ≤ _
    rw [BitVec.toNat_and]; exact Nat.and_le_right
  show 0 ≤ (x &&& m).toBitVec.toInt ∧ (x &&& m).toBitVec.toInt ≤ m.toBitVec.toInt
  rw [BitVec.toInt_eq_toNat_cond, BitVec.toInt_eq_toNat_cond, if_pos (by omega), if_pos (by omega)]
  omega
theorem own_land_le (x m : Int64) (h : 0 ≤ x.toInt) : (x &&& m).toInt ≤ x.toInt ∧ 0 ≤ (x &&& m).toInt := by
  rw [Int64.and_comm]; have := own_land m x h; exact ⟨this.2, this.1⟩
theorem own_odd (x : Int64) (h : 0 ≤ x.toInt) : (x &&& (1 : Int64)).toInt = x.toInt % 2 := by
  have hx : x.toBitVec.toNat < 2 ^ 63 := by
    have e : x.toBitVec.toInt = x.toInt := rfl
    rw [BitVec.toInt_eq_toNat_cond] at e
    have := x.toBitVec.isLt
    split at e <;> omega
  have h1 : (x &&& (1 : Int64)).toBitVec.toNat = x.toBitVec.toNat % 2 := by
    show (x.toBitVec &&& 1#64).toNat = _
    rw [BitVec.toNat_and]; exact Nat.and_two_pow_sub_one_eq_mod _ 1
  show (x &&& (1 : Int64)).toBitVec.toInt = x.toBitVec.toInt % 2
  rw [BitVec.toInt_eq_toNat_cond, BitVec.toInt_eq_toNat_cond, h1, if_pos (by omega), if_pos (by omega)]
  omega
theorem own_rem {x n : Int64} (hx : 0 ≤ x.toInt) (hn : 0 ≤ n.toInt) : 0 ≤ (x - (x / (n + (1 : Int64))) * (n + (1 : Int64))).toInt ∧ (x - (x / (n + (1 : Int64))) * (n + (1 : Int64))).toInt ≤ n.toInt := by
  rw [lrem_mod, Int64.toInt_mod]
  have h1 := Int64.toInt_lt x
  have h2 := Int64.toInt_lt n
  have e1 : (1 : Int64).toInt = 1 := by decide
  by_cases hm : n.toInt = 9223372036854775807
  · have e : (n + (1 : Int64)).toInt = -9223372036854775808 := by rw [Int64.toInt_add, e1, hm]; decide
    rw [e, Int.tmod_eq_emod_of_nonneg hx, Int.emod_neg, Int.emod_eq_of_lt hx (by omega)]
    omega
  · have e : (n + (1 : Int64)).toInt = n.toInt + 1 := by rw [Int64.toInt_add, e1, Int.bmod_def]; split <;> omega
    rw [e, Int.tmod_eq_emod_of_nonneg hx]
    have q1 := Int.emod_nonneg x.toInt (show n.toInt + 1 ≠ 0 by omega)
    have q2 := Int.emod_lt_of_pos x.toInt (show 0 < n.toInt + 1 by omega)
    omega
theorem own_n1 {n : Int64} (hn : 0 ≤ n.toInt) : ¬ (n + (1 : Int64) = (0 : Int64)) := fun q => by
  have h2 := Int64.toInt_lt n
  have e1 : (1 : Int64).toInt = 1 := by decide
  have e := congrArg Int64.toInt q
  rw [Int64.toInt_add, e1, show (0 : Int64).toInt = 0 from by decide, Int.bmod_def] at e
  split at e <;> omega
/-- f / n as a double, in units -/
def own_rz (n f : Int64) : Nat := if n.toInt = 0 then 0 else own_Q (own_M f) (own_M n)
theorem own_N_of {a : Int64} (h : 0 ≤ a.toInt) : (own_N a : Int) = a.toInt := by unfold own_N; omega
theorem own_Mpos {n : Int64} (h : 0 < n.toInt) : 0 < own_M n := Nat.lt_of_lt_of_le own_P_pos (own_M_pos (by unfold own_N; omega))
theorem own_rz_le {n f : Int64} (hf : 0 ≤ f.toInt) (hfn : f.toInt ≤ n.toInt) : own_rz n f ≤ own_P := by
  unfold own_rz
  split
  · exact Nat.zero_le _
  · rw [← own_Q11]
    exact own_mono (own_Mpos (by omega)) (by decide) (by rw [Nat.mul_one, Nat.one_mul]; exact own_M_le (by unfold own_N; omega))
theorem own_rz_zero {n f : Int64} (hf : 0 ≤ f.toInt) (hfn : f.toInt ≤ n.toInt) : own_rz n f = 0 ↔ f.toInt = 0 := by
  unfold own_rz
  split
  · exact ⟨fun _ => by omega, fun _ => rfl⟩
  · rename_i h0
    refine ⟨fun q => ?_, fun q => ?_⟩
    · refine Classical.byContradiction fun hne => ?_
      have h1 : own_P ≤ own_M f := own_M_pos (by unfold own_N; omega)
      have h2 := own_M_big n
      have h3 := own_mono (X := 1) (Y := 2 ^ 64) (X' := own_M f) (Y' := own_M n) (by decide) (own_Mpos (by omega)) (by omega)
      have h4 := own_Qtiny
      omega
    · have e : own_M f = 0 := by unfold own_M; rw [show own_N f = 0 by unfold own_N; omega]; exact own_Q0 1
      rw [e]; exact own_Q0 _
theorem own_rz_one {n : Int64} (h : 0 < n.toInt) : own_rz n n = own_P := by
  unfold own_rz
  rw [if_neg (by omega), ← own_Q11]
  exact own_eq (own_Mpos h) (by decide) (by rw [Nat.mul_one, Nat.one_mul])
theorem own_rz_small {n f : Int64} (hf : 0 ≤ f.toInt) (hfn : f.toInt ≤ n.toInt) (h : 0 < n.toInt) (hn : n.toInt < 9007199254740992) : own_rz n f = own_Q (own_N f) (own_N n) := by
  unfold own_rz
  rw [if_neg (by omega), own_exact hf (by omega), own_exact (by omega) hn]
  have hN : 0 < own_N n := by unfold own_N; omega
  exact own_eq (Nat.mul_pos hN own_P_pos) hN (by rw [Nat.mul_assoc, Nat.mul_comm own_P])
theorem own_rz_lt {n f : Int64} (hf : 0 ≤ f.toInt) (hfn : f.toInt < n.toInt) (hn : n.toInt < 9007199254740992) : own_rz n f < own_P := by
  rw [own_rz_small hf (by omega) (by omega) hn]
  refine Nat.lt_of_le_of_lt (own_mono (X' := 2 ^ 53 - 1) (Y' := 2 ^ 53) (by unfold own_N; omega) (by decide) ?_) own_Qnear
  have e1 := own_N_of hf
  have e2 := own_N_of (a := n) (by omega)
  generalize own_N f = F at *
  generalize own_N n = M at *
  omega
theorem own_rz_half {n f : Int64} (hf : 0 ≤ f.toInt) (h2 : 2 * f.toInt = n.toInt) (h : 0 < n.toInt) (hn : n.toInt < 9007199254740992) : own_rz n f = own_Q 1 2 := by
  rw [own_rz_small hf (by omega) h hn]
  have e1 := own_N_of hf
  have e2 := own_N_of (a := n) (by omega)
  generalize own_N f = F at *
  generalize own_N n = M at *
  exact own_eq (by omega) (by decide) (by omega)
theorem own_rz_mono {n f g : Int64} (hf : 0 ≤ f.toInt) (hfg : f.toInt ≤ g.toInt) (hn : 0 ≤ n.toInt) : own_rz n f ≤ own_rz n g := by
  unfold own_rz
  split
  · exact Nat.le_refl _
  · exact own_mono (own_Mpos (by omega)) (own_Mpos (by omega)) (Nat.mul_le_mul_right _ (own_M_le (by unfold own_N; omega)))
theorem own_dbl {a : Int64} (h0 : 0 ≤ a.toInt) (h : a.toInt < 4503599627370496) : ((2 : Int64) * a).toInt = 2 * a.toInt := by
  rw [Int64.toInt_mul, show (2 : Int64).toInt = 2 from by decide, Int.bmod_def]; split <;> omega
theorem own_rz_dbl {n f : Int64} (hf : 0 ≤ f.toInt) (hfn : f.toInt ≤ n.toInt) (hn : n.toInt < 4503599627370496) : own_rz ((2 : Int64) * n) ((2 : Int64) * f) = own_rz n f := by
  have d1 := own_dbl hf (by omega)
  have d2 := own_dbl (a := n) (by omega) hn
  by_cases h0 : n.toInt = 0
  · unfold own_rz; rw [if_pos (by omega), if_pos h0]
  · rw [own_rz_small (by omega) (by omega) (by omega) (by omega), own_rz_small hf hfn (by omega) (by omega)]
    have e1 := own_N_of hf
    have e2 := own_N_of (a := n) (by omega)
    have e3 := own_N_of (a := (2 : Int64) * f) (by omega)
    have e4 := own_N_of (a := (2 : Int64) * n) (by omega)
    have g1 : own_N ((2 : Int64) * f) = 2 * own_N f := by omega
    have g2 : own_N ((2 : Int64) * n) = 2 * own_N n := by omega
    rw [g1, g2]
    exact own_eq (by omega) (by omega) (by ac_rfl)
/-- 1 - x for a double x from 0 to 1 -/
theorem own_sub_one {x : UInt64} {c : Nat} {q : Int} (h : val64 x = .fin false c q) (hz : inUnits c q b64.qmin ≤ own_P) : val64 (FP.dsub FP.dconst1 x) = roundRatio b64 false (own_P - inUnits c q b64.qmin) own_P 0 := by
  have hf := val64_fits x
  rw [h] at hf
  have hq := hf.2.1
  have e1 : val64 FP.dconst1 = .fin false (2 ^ 52) (-52) := val64_dconst1
  have e : val64 (FP.dsub FP.dconst1 x) = round b64 (exactSum (val64 FP.dconst1) (negate (val64 x))) := val64_dsub _ _
  rw [e, e1, h]
  have hm52 : b64.qmin ≤ -52 := by decide
  have u1 : inUnits (2 ^ 52) (-52) b64.qmin = own_P := by decide +kernel
  obtain ⟨m, hm⟩ : ∃ m, m = min (-52 : Int) q := ⟨_, rfl⟩
  have g1 := inUnits_move (2 ^ 52) (q := -52) (r := m) (e := b64.qmin) (by omega) (by omega)
  have g2 := inUnits_move c (q := q) (r := m) (e := b64.qmin) (by omega) (by omega)
  rw [u1] at g1
  have hp := Nat.two_pow_pos (m - b64.qmin).toNat
  have hle : inUnits c q m ≤ inUnits (2 ^ 52) (-52) m := by
    rw [g1, g2] at hz
    exact Nat.le_of_mul_le_mul_right hz hp
  show round b64 (.fin (sumSign false (!false) (sumUnits false (2 ^ 52) (-52) (!false) c q (min (-52) q))) (sumUnits false (2 ^ 52) (-52) (!false) c q (min (-52) q)).natAbs (min (-52) q)) = _
  rw [← hm]
  have su : sumUnits false (2 ^ 52) (-52) (!false) c q m = ((inUnits (2 ^ 52) (-52) m - inUnits c q m : Nat) : Int) := by
    show ((inUnits (2 ^ 52) (-52) m : Nat) : Int) + -((inUnits c q m : Nat) : Int) = _
    omega
  rw [su]
  have ss : sumSign false (!false) ((inUnits (2 ^ 52) (-52) m - inUnits c q m : Nat) : Int) = false := by
    unfold sumSign
    split
    · rfl
    · exact decide_eq_false (by omega)
  rw [ss, Int.natAbs_natCast]
  show roundRatio b64 false (inUnits (2 ^ 52) (-52) m - inUnits c q m) 1 m = _
  have hd : own_P - inUnits c q b64.qmin = (inUnits (2 ^ 52) (-52) m - inUnits c q m) * 2 ^ (m - b64.qmin).toNat := by
    rw [g2, Nat.sub_mul, ← g1]
  rw [hd]
  refine roundRatio_congr (by decide) own_P_pos ?_
  generalize inUnits (2 ^ 52) (-52) m - inUnits c q m = K
  have hm0 : m ≤ 0 := by omega
  rw [show (m - 0).toNat = 0 by omega, Nat.pow_zero, Nat.mul_one, Nat.mul_one, Nat.mul_assoc, ← Nat.pow_add]
  unfold own_P
  rw [show (m - b64.qmin).toNat + (0 - m).toNat = (0 - b64.qmin).toNat by omega]
theorem own_fin_of {x : UInt64} {X Y : Nat} (h : val64 x = roundRatio b64 false X Y 0) (hY : 0 < Y) (hz : own_Q X Y ≤ own_P) : ∃ c q, val64 x = .fin false c q ∧ inUnits c q b64.qmin = own_Q X Y := by
  rcases roundRatio_cases b64 false X Y 0 with ⟨c, q, hR⟩ | hR
  · exact ⟨c, q, h.trans hR, by unfold own_Q; rw [hR]; rfl⟩
  · exfalso
    unfold own_Q at hz
    rw [hR] at hz
    have : own_P < zmag b64 (.inf false) := by decide +kernel
    omega
/-- 1 - f / n, in units -/
def own_tz (n f : Int64) : Nat := own_Q (own_P - own_rz n f) own_P
theorem own_t {n f : Int64} (hf : 0 ≤ f.toInt) (hfn : f.toInt ≤ n.toInt) (hn : 0 < n.toInt) : val64 (FP.dsub FP.dconst1 (FP.ddiv (FP.l2d f) (FP.l2d n))) ≠ .nan ∧ own_z (FP.dsub FP.dconst1 (FP.ddiv (FP.l2d f) (FP.l2d n))) = (own_tz n f : Int) := by
  have e : own_rz n f = own_Q (own_M f) (own_M n) := by unfold own_rz; rw [if_neg (by omega)]
  have hle := own_rz_le hf hfn
  rw [e] at hle
  obtain ⟨c, q, h1, h2⟩ := own_fin_of (own_div hf hn) (own_Mpos hn) hle
  have h3 := own_sub_one h1 (by rw [h2]; exact hle)
  rw [h2, ← e] at h3
  exact own_zr h3
theorem own_tz_le (n f : Int64) : own_tz n f ≤ own_P := by
  have h : own_tz n f ≤ own_Q 1 1 := own_mono own_P_pos (by decide) (by omega)
  rw [own_Q11] at h; exact h
theorem own_tz_anti {n f g : Int64} (hf : 0 ≤ f.toInt) (hfg : f.toInt ≤ g.toInt) (hn : 0 ≤ n.toInt) : own_tz n g ≤ own_tz n f := by
  have h := own_rz_mono hf hfg hn
  exact own_mono own_P_pos own_P_pos (Nat.mul_le_mul_right _ (by omega))
theorem own_tz_zero {n f : Int64} (hf : f.toInt = 0) (hn : 0 < n.toInt) : own_tz n f = own_P := by
  unfold own_tz
  rw [(own_rz_zero (by omega) (by omega)).mpr hf, Nat.sub_zero]
  refine Eq.trans ?_ own_Q11
  exact own_eq own_P_pos (by decide) (by omega)
theorem own_tz_full {n : Int64} (hn : 0 < n.toInt) : own_tz n n = 0 := by
  unfold own_tz
  rw [own_rz_one hn, Nat.sub_self]; exact own_Q0 _
set_option maxRecDepth 65536 in
theorem own_e53 : 2 ^ 53 * 2 ^ (-53 - b64.qmin).toNat = own_P := by decide +kernel
theorem own_small53 {c : Nat} {q : Int} (hc : c < 2 ^ 53) (hq : q ≤ -53) : inUnits c q b64.qmin < own_P := by
  refine Nat.lt_of_lt_of_eq ?_ own_e53
  unfold inUnits
  refine Nat.lt_of_lt_of_le (Nat.mul_lt_mul_of_pos_right hc (Nat.two_pow_pos _)) ?_
  exact Nat.mul_le_mul_left _ (Nat.pow_le_pow_right (by decide) (by omega))
/-- a quotient by a power of two is exact -/
theorem own_pow {f : Int64} {k : Nat} (hk : k ≤ 31) (hf : 0 ≤ f.toInt) (hlt : f.toInt < 9007199254740992) : own_Q (own_N f) (2 ^ k) * 2 ^ k = own_N f * own_P := by
  by_cases h0 : own_N f = 0
  · rw [h0, own_Q0, Nat.zero_mul, Nat.zero_mul]
  · obtain ⟨c, q, h1, hq, m1⟩ := own_fin hf
    have hfit := val64_fits (FP.l2d f)
    rw [h1] at hfit
    have m2 := own_exact hf hlt
    rw [m2] at m1
    -- the exponent is at least -52
    have hq52 : -52 ≤ q := by
      refine Int.not_lt.mp fun hl => ?_
      have hc := hfit.1
      have e : inUnits c q b64.qmin < own_P := own_small53 hc (by omega)
      rw [m1] at e
      have e3 : own_P ≤ own_N f * own_P := Nat.le_mul_of_pos_left _ (Nat.pos_of_ne_zero h0)
      omega
    have hqm : b64.qmin ≤ -90 := by decide
    have hcan : b64.tails ≤ c := hfit.2.2.2.resolve_left (by omega)
    have fit2 : FP.Core.fits b64 (.fin false c (q - k)) := ⟨hfit.1, by omega, by have := hfit.2.2.1; omega, Or.inr hcan⟩
    have e4 : inUnits c (q - k) b64.qmin * 2 ^ k = own_N f * own_P := by
      rw [← m1]
      unfold inUnits
      rw [Nat.mul_assoc, ← Nat.pow_add, show (q - k - b64.qmin).toNat + k = (q - b64.qmin).toNat by omega]
    rcases roundRatio_cases b64 false (own_N f) (2 ^ k) 0 with ⟨c', q', hR⟩ | hR
    · have n1 := own_near (Nat.two_pow_pos k) hR c (q - k) fit2
      rw [← Int.natCast_mul, ← Int.natCast_mul, e4] at n1
      have e5 : own_Q (own_N f) (2 ^ k) = inUnits c' q' b64.qmin := by unfold own_Q; rw [hR]; rfl
      rw [e5]
      generalize inUnits c' q' b64.qmin * 2 ^ k = a at *
      generalize own_N f * own_P = b at *
      omega
    · exfalso
      have hle : own_Q (own_N f) (2 ^ k) ≤ own_Q (2 ^ 63) 1 := own_mono (Nat.two_pow_pos k) (by decide) (by
        have hN := own_N_lt f
        rw [Nat.mul_one]
        exact Nat.le_trans hN (Nat.le_mul_of_pos_right _ (Nat.two_pow_pos k)))
      rw [own_Qbig] at hle
      unfold own_Q at hle
      rw [hR] at hle
      have : 2 ^ 63 * own_P < zmag b64 (.inf false) := by decide +kernel
      omega
theorem own_tz_pow {n f : Int64} {k : Nat} (hk : k ≤ 31) (hn : own_N n = 2 ^ k) (hp : 0 < n.toInt) (hf : 0 ≤ f.toInt) (hfn : f.toInt ≤ n.toInt) : own_tz n f = own_rz n (n - f) := by
  have hb : n.toInt < 9007199254740992 := by
    have h1 := own_N_of (a := n) (by omega)
    have h2 : (2 : Nat) ^ k ≤ 2 ^ 31 := Nat.pow_le_pow_right (by decide) hk
    omega
  have e : (n - f).toInt = n.toInt - f.toInt := by
    have h1 := Int64.toInt_lt n
    rw [Int64.toInt_sub, Int.bmod_def]; split <;> omega
  rw [own_rz_small (by omega) (by omega) hp hb]
  have hN : own_N (n - f) = own_N n - own_N f := by unfold own_N; omega
  unfold own_tz
  rw [own_rz_small hf hfn hp hb, hN, hn]
  have hx := own_pow hk hf (by omega)
  refine own_eq own_P_pos (Nat.two_pow_pos k) ?_
  rw [Nat.sub_mul, hx, Nat.sub_mul, Nat.mul_comm own_P]
theorem own_asb (a b : Int64) : a + b - a = b := by
  apply Int64.toBitVec_inj.mp
  show a.toBitVec + b.toBitVec - a.toBitVec = b.toBitVec
  rw [BitVec.add_comm, BitVec.add_sub_cancel]
end OwnFloat
theorem d4_0 : decode jdk_30_method_1_code 0 = .ok (.aload_n 0, 1) := by decide +kernel
theorem d4_1 : decode jdk_30_method_1_code 1 = .ok (.invokespecial 1, 3) := by decide +kernel
theorem d4_4 : decode jdk_30_method_1_code 4 = .ok (.return_, 1) := by decide +kernel
theorem pn_4 : plainName "java/lang/Record" = true := by first | (simp [plainName, overriddenIn]; done) | decide +kernel
theorem ef_4 (m : MethodId) (x0 : Addr) : entryFrame m #[(.ref x0)] 1 = mkF m 0 #[.val (.ref x0)] [] := by first | (simp [entryFrame, mkF, argsToLocals, Value.category]; done) | rfl
def Q4 (Z : State) (a1 : Addr) (h0 : Heap) (n0 : Nat) (v : Option Value) (h : Heap) (L : List Loc) : Prop := v = none ∧ Fr n0 L ∧ h = h0
set_option maxRecDepth 65536 in
set_option maxHeartbeats 40000000 in
theorem rm4 (l : Launch) (Z : State) (a0 : Array Value) (hw : ∀ d ∈ tables_1, d.before a0 Z = true) (ws : List Jvm.Cond) (a1 : Addr) (h0 : Heap) (n0 : Nat) (Z0 : n0 ≤ h0.size) :
    MetFree l (⟨"java/lang/Record", "<init>", "()V"⟩ : MethodName) (head1 (Jvm.Cond.code (⟨"java/lang/Record", "<init>", "()V"⟩ : MethodName) jdk_30_method_1_code 1 none :: ws) ({ frames := 1, cells := 0, slots := 0, locals := 12 } : Room)) (fun a U => a = #[(.ref a1)] ∧ Z.Warmed39 U.vm ∧ U.heap = h0) (fun _ _ _ _ _ => True) (fun _ U o U' => ∃ v L, o = .returned v ∧ Q4 Z a1 h0 n0 v U'.heap L ∧ FrameEnd U o U' L ({ frames := 1, cells := 0, slots := 0, locals := 12 } : Room).cells ({ frames := 1, cells := 0, slots := 0, locals := 12 } : Room).slots) := by
  refine MetFree.of_bodySF (plainFor_of_name pn_4) hisR ?_
  intro p e s m args below meth c s₁ Bd hml0 hP hK
  obtain ⟨rfl, hZ, hh⟩ := hP
  have hx := Bd.exec
  have hby := Bd.bytes
  have hml : c.maxLocals = 1 := hml0
  have hown : s.vm.findClass "java/lang/Record" = some m.cls := findClass_of_methodNamed Bd.named
  have hnm := (name_of_methodNamed Bd.named Bd.method).1
  have X0 : Stand p l e ({ frames := 1, cells := 0, slots := 0, locals := 12 } : Room) s m #[(.ref a1)] below meth c s₁ [] 0 0 := Stand.of_body Bd
  have e0 : s₁.heap = h0 := by rw [← hh, Bd.state]; rfl
  have N0 := Fr.nil n0
  have pre0 : ∀ t, Steps p.tables e below (s₁.setTop (mkF m 0 #[.val (.ref a1)] [])) t → Steps p.tables e below (s₁.setTop (entryFrame m #[(.ref a1)] 1)) t := fun t k => castTop (ef_4 m a1) k
  obtain ⟨T2, X2, e2, st2⟩ := initO X0 hx hZ hown (hw _ (List.mem_of_getElem? (i := 23) rfl)) (hw _ (List.mem_of_getElem? (i := 24) rfl)) (hw _ (List.mem_of_getElem? (i := 25) rfl)) e0 (g := (mkF m 1 #[.val (.ref a1)] [(.ref a1)])) rfl (by rw [hml]; rfl) rfl (hb hby d4_1) (by decide) (W := 0) (by show 2 * 0 + _ ≤ _; exact Nat.le_of_eq rfl) (by decide)
  obtain ⟨fs, hr, hrun, hended, hW, hsame⟩ := X2.leave (v := none) (fun _ => rfl)
  refine ⟨_, _, pre0 _ ?_, hrun, hended, _, _, rfl, ?_, ⟨_, rfl⟩, hW, hsame.mono (by decide) (by decide)⟩
  · show Steps p.tables e below (s₁.setTop (mkF m 0 #[.val (.ref a1)] [])) _
    refine XS.aloadN X0.here hx rfl (hb hby d4_0) rfl rfl ?_
    show Steps p.tables e below (s₁.setTop (mkF m 1 #[.val (.ref a1)] [(.ref a1)])) _
    refine st2 _ ?_
    show Steps p.tables e below (T2.setTop (mkF m 4 #[.val (.ref a1)] [])) _
    exact X2.returnOut hx Bd.returns (hb hby d4_4) hr
  · show Q4 Z a1 h0 n0 _ T2.heap _
    rw [e2]
    exact ⟨rfl, N0, rfl⟩
theorem d3_0 : decode prog_13_method_1_code 0 = .ok (.aload_n 0, 1) := by decide +kernel
theorem d3_1 : decode prog_13_method_1_code 1 = .ok (.invokespecial 1, 3) := by decide +kernel
theorem d3_4 : decode prog_13_method_1_code 4 = .ok (.aload_n 0, 1) := by decide +kernel
theorem d3_5 : decode prog_13_method_1_code 5 = .ok (.lload_n 1, 1) := by decide +kernel
theorem d3_6 : decode prog_13_method_1_code 6 = .ok (.putfield 7, 3) := by decide +kernel
theorem d3_9 : decode prog_13_method_1_code 9 = .ok (.aload_n 0, 1) := by decide +kernel
theorem d3_10 : decode prog_13_method_1_code 10 = .ok (.lload_n 3, 1) := by decide +kernel
theorem d3_11 : decode prog_13_method_1_code 11 = .ok (.putfield 13, 3) := by decide +kernel
theorem d3_14 : decode prog_13_method_1_code 14 = .ok (.aload_n 0, 1) := by decide +kernel
theorem d3_15 : decode prog_13_method_1_code 15 = .ok (.lload 5, 2) := by decide +kernel
theorem d3_17 : decode prog_13_method_1_code 17 = .ok (.putfield 16, 3) := by decide +kernel
theorem d3_20 : decode prog_13_method_1_code 20 = .ok (.aload_n 0, 1) := by decide +kernel
theorem d3_21 : decode prog_13_method_1_code 21 = .ok (.lload 7, 2) := by decide +kernel
theorem d3_23 : decode prog_13_method_1_code 23 = .ok (.putfield 19, 3) := by decide +kernel
theorem d3_26 : decode prog_13_method_1_code 26 = .ok (.aload_n 0, 1) := by decide +kernel
theorem d3_27 : decode prog_13_method_1_code 27 = .ok (.lload 9, 2) := by decide +kernel
theorem d3_29 : decode prog_13_method_1_code 29 = .ok (.putfield 22, 3) := by decide +kernel
theorem d3_32 : decode prog_13_method_1_code 32 = .ok (.aload_n 0, 1) := by decide +kernel
theorem d3_33 : decode prog_13_method_1_code 33 = .ok (.lload 11, 2) := by decide +kernel
theorem d3_35 : decode prog_13_method_1_code 35 = .ok (.putfield 25, 3) := by decide +kernel
theorem d3_38 : decode prog_13_method_1_code 38 = .ok (.aload_n 0, 1) := by decide +kernel
theorem d3_39 : decode prog_13_method_1_code 39 = .ok (.aload 13, 2) := by decide +kernel
theorem d3_41 : decode prog_13_method_1_code 41 = .ok (.putfield 28, 3) := by decide +kernel
theorem d3_44 : decode prog_13_method_1_code 44 = .ok (.aload_n 0, 1) := by decide +kernel
theorem d3_45 : decode prog_13_method_1_code 45 = .ok (.aload 14, 2) := by decide +kernel
theorem d3_47 : decode prog_13_method_1_code 47 = .ok (.putfield 32, 3) := by decide +kernel
theorem d3_50 : decode prog_13_method_1_code 50 = .ok (.return_, 1) := by decide +kernel
theorem pn_3 : plainName "com/example/bits_for_sets/bitsforsets/tool/ReplayCounts" = true := by first | (simp [plainName, overriddenIn]; done) | decide +kernel
theorem pd_3_3 : parseMethodDescriptor "()V" = some ⟨[], none⟩ := by decide +kernel
theorem ef_3 (m : MethodId) (x0 : Addr) (x1 : Int64) (x2 : Int64) (x3 : Int64) (x4 : Int64) (x5 : Int64) (x6 : Int64) : entryFrame m #[(.ref x0), (.long x1), (.long x2), (.long x3), (.long x4), (.long x5), (.long x6), .null, .null] 15 = mkF m 0 #[.val (.ref x0), .val (.long x1), .second, .val (.long x2), .second, .val (.long x3), .second, .val (.long x4), .second, .val (.long x5), .second, .val (.long x6), .second, .val .null, .val .null] [] := by first | (simp [entryFrame, mkF, argsToLocals, Value.category]; done) | rfl
def Q3 (Z : State) (a1 : Addr) (q2 : Int64) (q3 : Int64) (q4 : Int64) (q5 : Int64) (q6 : Int64) (q7 : Int64) (u_inserted_a1 : Value) (u_held_a1 : Value) (u_queries_a1 : Value) (u_negatives_a1 : Value) (u_falsePositives_a1 : Value) (u_falseNegatives_a1 : Value) (u_deletions_a1 : Value) (u_adaptations_a1 : Value) (h0 : Heap) (n0 : Nat) (v : Option Value) (h : Heap) (L : List Loc) : Prop := v = none ∧ Fr n0 L ∧ Keep h0 h [a1] ∧ Exa Z h a1 "com/example/bits_for_sets/bitsforsets/tool/ReplayCounts" ∧ Fld Z h a1 "com/example/bits_for_sets/bitsforsets/tool/ReplayCounts" "inserted" "J" (.long q2) ∧ Fld Z h a1 "com/example/bits_for_sets/bitsforsets/tool/ReplayCounts" "held" "J" (.long q3) ∧ Fld Z h a1 "com/example/bits_for_sets/bitsforsets/tool/ReplayCounts" "queries" "J" (.long q4) ∧ Fld Z h a1 "com/example/bits_for_sets/bitsforsets/tool/ReplayCounts" "negatives" "J" (.long q5) ∧ Fld Z h a1 "com/example/bits_for_sets/bitsforsets/tool/ReplayCounts" "falsePositives" "J" (.long q6) ∧ Fld Z h a1 "com/example/bits_for_sets/bitsforsets/tool/ReplayCounts" "falseNegatives" "J" (.long q7) ∧ Fld Z h a1 "com/example/bits_for_sets/bitsforsets/tool/ReplayCounts" "deletions" "Ljava/util/Optional;" .null ∧ Fld Z h a1 "com/example/bits_for_sets/bitsforsets/tool/ReplayCounts" "adaptations" "Ljava/util/Optional;" .null
set_option maxRecDepth 65536 in
set_option maxHeartbeats 40000000 in
theorem rm3 (l : Launch) (Z : State) (a0 : Array Value) (hw : ∀ d ∈ tables_1, d.before a0 Z = true) (ws : List Jvm.Cond) (a1 : Addr) (q2 : Int64) (q3 : Int64) (q4 : Int64) (q5 : Int64) (q6 : Int64) (q7 : Int64) (u_inserted_a1 : Value) (u_held_a1 : Value) (u_queries_a1 : Value) (u_negatives_a1 : Value) (u_falsePositives_a1 : Value) (u_falseNegatives_a1 : Value) (u_deletions_a1 : Value) (u_adaptations_a1 : Value) (h0 : Heap) (n0 : Nat) (Z0 : n0 ≤ h0.size) (E_a1 : Exa Z h0 a1 "com/example/bits_for_sets/bitsforsets/tool/ReplayCounts") (F_inserted_a1 : Fld Z h0 a1 "com/example/bits_for_sets/bitsforsets/tool/ReplayCounts" "inserted" "J" u_inserted_a1) (g_a1 : n0 ≤ a1) (F_held_a1 : Fld Z h0 a1 "com/example/bits_for_sets/bitsforsets/tool/ReplayCounts" "held" "J" u_held_a1) (F_queries_a1 : Fld Z h0 a1 "com/example/bits_for_sets/bitsforsets/tool/ReplayCounts" "queries" "J" u_queries_a1) (F_negatives_a1 : Fld Z h0 a1 "com/example/bits_for_sets/bitsforsets/tool/ReplayCounts" "negatives" "J" u_negatives_a1) (F_falsePositives_a1 : Fld Z h0 a1 "com/example/bits_for_sets/bitsforsets/tool/ReplayCounts" "falsePositives" "J" u_falsePositives_a1) (F_falseNegatives_a1 : Fld Z h0 a1 "com/example/bits_for_sets/bitsforsets/tool/ReplayCounts" "falseNegatives" "J" u_falseNegatives_a1) (F_deletions_a1 : Fld Z h0 a1 "com/example/bits_for_sets/bitsforsets/tool/ReplayCounts" "deletions" "Ljava/util/Optional;" u_deletions_a1) (F_adaptations_a1 : Fld Z h0 a1 "com/example/bits_for_sets/bitsforsets/tool/ReplayCounts" "adaptations" "Ljava/util/Optional;" u_adaptations_a1) :
    MetFree l (⟨"com/example/bits_for_sets/bitsforsets/tool/ReplayCounts", "<init>", "(JJJJJJLjava/util/Optional;Ljava/util/Optional;)V"⟩ : MethodName) (head1 (Jvm.Cond.code (⟨"com/example/bits_for_sets/bitsforsets/tool/ReplayCounts", "<init>", "(JJJJJJLjava/util/Optional;Ljava/util/Optional;)V"⟩ : MethodName) prog_13_method_1_code 15 none :: ws) ({ frames := 2, cells := 0, slots := 0, locals := 24 } : Room)) (fun a U => a = #[(.ref a1), (.long q2), (.long q3), (.long q4), (.long q5), (.long q6), (.long q7), .null, .null] ∧ Z.Warmed39 U.vm ∧ U.heap = h0) (fun _ _ _ _ _ => True) (fun _ U o U' => ∃ v L, o = .returned v ∧ Q3 Z a1 q2 q3 q4 q5 q6 q7 u_inserted_a1 u_held_a1 u_queries_a1 u_negatives_a1 u_falsePositives_a1 u_falseNegatives_a1 u_deletions_a1 u_adaptations_a1 h0 n0 v U'.heap L ∧ FrameEnd U o U' L ({ frames := 2, cells := 0, slots := 0, locals := 24 } : Room).cells ({ frames := 2, cells := 0, slots := 0, locals := 24 } : Room).slots) := by
  refine MetFree.of_bodySF (plainFor_of_name pn_3) hisR ?_
  intro p e s m args below meth c s₁ Bd hml0 hP hK
  obtain ⟨rfl, hZ, hh⟩ := hP
  have hx := Bd.exec
  have hby := Bd.bytes
  have hml : c.maxLocals = 15 := hml0
  have hown : s.vm.findClass "com/example/bits_for_sets/bitsforsets/tool/ReplayCounts" = some m.cls := findClass_of_methodNamed Bd.named
  have hnm := (name_of_methodNamed Bd.named Bd.method).1
  have X0 : Stand p l e ({ frames := 2, cells := 0, slots := 0, locals := 24 } : Room) s m #[(.ref a1), (.long q2), (.long q3), (.long q4), (.long q5), (.long q6), (.long q7), .null, .null] below meth c s₁ [] 0 0 := Stand.of_body Bd
  have e0 : s₁.heap = h0 := by rw [← hh, Bd.state]; rfl
  have N0 := Fr.nil n0
  have pre0 : ∀ t, Steps p.tables e below (s₁.setTop (mkF m 0 #[.val (.ref a1), .val (.long q2), .second, .val (.long q3), .second, .val (.long q4), .second, .val (.long q5), .second, .val (.long q6), .second, .val (.long q7), .second, .val .null, .val .null] [])) t → Steps p.tables e below (s₁.setTop (entryFrame m #[(.ref a1), (.long q2), (.long q3), (.long q4), (.long q5), (.long q6), (.long q7), .null, .null] 15)) t := fun t k => castTop (ef_3 m a1 q2 q3 q4 q5 q6 q7) k
  obtain ⟨_, _, ⟨T8, L8, k8, n8⟩, -, X8, ⟨Lc8, hQ8, l8, y8, z8⟩, st8⟩ := X0.specialBack hx (y := (⟨"java/lang/Record", "<init>", "()V"⟩ : MethodName)) rfl hown (mvT hZ (hw _ (List.mem_of_getElem? (i := 18) rfl))) (mvT hZ (hw _ (List.mem_of_getElem? (i := 19) rfl))) (mvT hZ (hw _ (List.mem_of_getElem? (i := 22) rfl))) (by decide) (backOf (W := 0) (rm4 l Z a0 hw [] a1 h0 n0 Z0) hZ (hw _ (List.mem_of_getElem? (i := 22) rfl)) (hw _ (List.mem_of_getElem? (i := 21) rfl)) (by decide) (by decide)) (g := (mkF m 1 #[.val (.ref a1), .val (.long q2), .second, .val (.long q3), .second, .val (.long q4), .second, .val (.long q5), .second, .val (.long q6), .second, .val (.long q7), .second, .val .null, .val .null] [(.ref a1)])) rfl (by rw [hml]; rfl) (Steps.refl _) (a := a1) (argsL := []) (rest := []) (lenOf pd_3_3 rfl) rfl (by show 2 * 0 + _ ≤ _; exact Nat.le_of_eq rfl) (hb hby d3_1) (fun _ _ => ⟨rfl, e0, (by decide : 0 + 0 ≤ _), (by decide : 0 + 0 ≤ _)⟩)
  dsimp only [Pt.U, Pt.locs, Pt.cells, Pt.slots] at X8 l8 y8 z8 st8 hQ8
  subst l8 y8 z8
  obtain ⟨rfl, N8q, e8⟩ := hQ8
  have N8 := Fr.app N0 N8q
  obtain ⟨T9, h9, X9, e9, W9, st9⟩ := putF X8 hx hZ hown (host := "") (Or.inl (hw _ (List.mem_of_getElem? (i := 26) rfl))) Via.refl e8 F_inserted_a1 E_a1 (Or.inr ⟨(hw _ (List.mem_of_getElem? (i := 27) rfl)), rfl, hnm⟩) (hw _ (List.mem_of_getElem? (i := 12) rfl)) (ty := .long) (by decide) rfl rfl (g := (mkF m 6 #[.val (.ref a1), .val (.long q2), .second, .val (.long q3), .second, .val (.long q4), .second, .val (.long q5), .second, .val (.long q6), .second, .val (.long q7), .second, .val .null, .val .null] [(.long q2), (.ref a1)])) rfl rfl (hb hby d3_6)
  have Fw9 := F_inserted_a1.same W9
  have K9 : Keep h0 h9 [a1] := (Keep.refl h0 [a1]).wr W9 (Or.inl (List.mem_of_getElem? (i := 0) rfl))
  have N9 := Fr.snoc X9 N8 g_a1
  obtain ⟨T10, h10, X10, e10, W10, st10⟩ := putF X9 hx hZ hown (host := "") (Or.inl (hw _ (List.mem_of_getElem? (i := 28) rfl))) Via.refl e9 (F_held_a1.other W9 (Or.inr (slot_ne (Or.inr (hw _ (List.mem_of_getElem? (i := 29) rfl))) (Or.inr (hw _ (List.mem_of_getElem? (i := 27) rfl))) (by decide) (t := .long) (t' := .long) (by decide) (by decide)))) (E_a1.wr W9) (Or.inr ⟨(hw _ (List.mem_of_getElem? (i := 29) rfl)), rfl, hnm⟩) (hw _ (List.mem_of_getElem? (i := 12) rfl)) (ty := .long) (by decide) rfl rfl (g := (mkF m 11 #[.val (.ref a1), .val (.long q2), .second, .val (.long q3), .second, .val (.long q4), .second, .val (.long q5), .second, .val (.long q6), .second, .val (.long q7), .second, .val .null, .val .null] [(.long q3), (.ref a1)])) rfl rfl (hb hby d3_11)
  have Fw10 := (F_held_a1.other W9 (Or.inr (slot_ne (Or.inr (hw _ (List.mem_of_getElem? (i := 29) rfl))) (Or.inr (hw _ (List.mem_of_getElem? (i := 27) rfl))) (by decide) (t := .long) (t' := .long) (by decide) (by decide)))).same W10
  have K10 : Keep h0 h10 [a1] := K9.wr W10 (Or.inl (List.mem_of_getElem? (i := 0) rfl))
  have N10 := Fr.snoc X10 N9 g_a1
  obtain ⟨T11, h11, X11, e11, W11, st11⟩ := putF X10 hx hZ hown (host := "") (Or.inl (hw _ (List.mem_of_getElem? (i := 30) rfl))) Via.refl e10 ((F_queries_a1.other W9 (Or.inr (slot_ne (Or.inr (hw _ (List.mem_of_getElem? (i := 31) rfl))) (Or.inr (hw _ (List.mem_of_getElem? (i := 27) rfl))) (by decide) (t := .long) (t' := .long) (by decide) (by decide)))).other W10 (Or.inr (slot_ne (Or.inr (hw _ (List.mem_of_getElem? (i := 31) rfl))) (Or.inr (hw _ (List.mem_of_getElem? (i := 29) rfl))) (by decide) (t := .long) (t' := .long) (by decide) (by decide)))) ((E_a1.wr W9).wr W10) (Or.inr ⟨(hw _ (List.mem_of_getElem? (i := 31) rfl)), rfl, hnm⟩) (hw _ (List.mem_of_getElem? (i := 12) rfl)) (ty := .long) (by decide) rfl rfl (g := (mkF m 17 #[.val (.ref a1), .val (.long q2), .second, .val (.long q3), .second, .val (.long q4), .second, .val (.long q5), .second, .val (.long q6), .second, .val (.long q7), .second, .val .null, .val .null] [(.long q4), (.ref a1)])) rfl rfl (hb hby d3_17)
  have Fw11 := ((F_queries_a1.other W9 (Or.inr (slot_ne (Or.inr (hw _ (List.mem_of_getElem? (i := 31) rfl))) (Or.inr (hw _ (List.mem_of_getElem? (i := 27) rfl))) (by decide) (t := .long) (t' := .long) (by decide) (by decide)))).other W10 (Or.inr (slot_ne (Or.inr (hw _ (List.mem_of_getElem? (i := 31) rfl))) (Or.inr (hw _ (List.mem_of_getElem? (i := 29) rfl))) (by decide) (t := .long) (t' := .long) (by decide) (by decide)))).same W11
  have K11 : Keep h0 h11 [a1] := K10.wr W11 (Or.inl (List.mem_of_getElem? (i := 0) rfl))
  have N11 := Fr.snoc X11 N10 g_a1
  obtain ⟨T12, h12, X12, e12, W12, st12⟩ := putF X11 hx hZ hown (host := "") (Or.inl (hw _ (List.mem_of_getElem? (i := 32) rfl))) Via.refl e11 (((F_negatives_a1.other W9 (Or.inr (slot_ne (Or.inr (hw _ (List.mem_of_getElem? (i := 33) rfl))) (Or.inr (hw _ (List.mem_of_getElem? (i := 27) rfl))) (by decide) (t := .long) (t' := .long) (by decide) (by decide)))).other W10 (Or.inr (slot_ne (Or.inr (hw _ (List.mem_of_getElem? (i := 33) rfl))) (Or.inr (hw _ (List.mem_of_getElem? (i := 29) rfl))) (by decide) (t := .long) (t' := .long) (by decide) (by decide)))).other W11 (Or.inr (slot_ne (Or.inr (hw _ (List.mem_of_getElem? (i := 33) rfl))) (Or.inr (hw _ (List.mem_of_getElem? (i := 31) rfl))) (by decide) (t := .long) (t' := .long) (by decide) (by decide)))) (((E_a1.wr W9).wr W10).wr W11) (Or.inr ⟨(hw _ (List.mem_of_getElem? (i := 33) rfl)), rfl, hnm⟩) (hw _ (List.mem_of_getElem? (i := 12) rfl)) (ty := .long) (by decide) rfl rfl (g := (mkF m 23 #[.val (.ref a1), .val (.long q2), .second, .val (.long q3), .second, .val (.long q4), .second, .val (.long q5), .second, .val (.long q6), .second, .val (.long q7), .second, .val .null, .val .null] [(.long q5), (.ref a1)])) rfl rfl (hb hby d3_23)
  have Fw12 := (((F_negatives_a1.other W9 (Or.inr (slot_ne (Or.inr (hw _ (List.mem_of_getElem? (i := 33) rfl))) (Or.inr (hw _ (List.mem_of_getElem? (i := 27) rfl))) (by decide) (t := .long) (t' := .long) (by decide) (by decide)))).other W10 (Or.inr (slot_ne (Or.inr (hw _ (List.mem_of_getElem? (i := 33) rfl))) (Or.inr (hw _ (List.mem_of_getElem? (i := 29) rfl))) (by decide) (t := .long) (t' := .long) (by decide) (by decide)))).other W11 (Or.inr (slot_ne (Or.inr (hw _ (List.mem_of_getElem? (i := 33) rfl))) (Or.inr (hw _ (List.mem_of_getElem? (i := 31) rfl))) (by decide) (t := .long) (t' := .long) (by decide) (by decide)))).same W12
  have K12 : Keep h0 h12 [a1] := K11.wr W12 (Or.inl (List.mem_of_getElem? (i := 0) rfl))
  have N12 := Fr.snoc X12 N11 g_a1
  obtain ⟨T13, h13, X13, e13, W13, st13⟩ := putF X12 hx hZ hown (host := "") (Or.inl (hw _ (List.mem_of_getElem? (i := 34) rfl))) Via.refl e12 ((((F_falsePositives_a1.other W9 (Or.inr (slot_ne (Or.inr (hw _ (List.mem_of_getElem? (i := 35) rfl))) (Or.inr (hw _ (List.mem_of_getElem? (i := 27) rfl))) (by decide) (t := .long) (t' := .long) (by decide) (by decide)))).other W10 (Or.inr (slot_ne (Or.inr (hw _ (List.mem_of_getElem? (i := 35) rfl))) (Or.inr (hw _ (List.mem_of_getElem? (i := 29) rfl))) (by decide) (t := .long) (t' := .long) (by decide) (by decide)))).other W11 (Or.inr (slot_ne (Or.inr (hw _ (List.mem_of_getElem? (i := 35) rfl))) (Or.inr (hw _ (List.mem_of_getElem? (i := 31) rfl))) (by decide) (t := .long) (t' := .long) (by decide) (by decide)))).other W12 (Or.inr (slot_ne (Or.inr (hw _ (List.mem_of_getElem? (i := 35) rfl))) (Or.inr (hw _ (List.mem_of_getElem? (i := 33) rfl))) (by decide) (t := .long) (t' := .long) (by decide) (by decide)))) ((((E_a1.wr W9).wr W10).wr W11).wr W12) (Or.inr ⟨(hw _ (List.mem_of_getElem? (i := 35) rfl)), rfl, hnm⟩) (hw _ (List.mem_of_getElem? (i := 12) rfl)) (ty := .long) (by decide) rfl rfl (g := (mkF m 29 #[.val (.ref a1), .val (.long q2), .second, .val (.long q3), .second, .val (.long q4), .second, .val (.long q5), .second, .val (.long q6), .second, .val (.long q7), .second, .val .null, .val .null] [(.long q6), (.ref a1)])) rfl rfl (hb hby d3_29)
  have Fw13 := ((((F_falsePositives_a1.other W9 (Or.inr (slot_ne (Or.inr (hw _ (List.mem_of_getElem? (i := 35) rfl))) (Or.inr (hw _ (List.mem_of_getElem? (i := 27) rfl))) (by decide) (t := .long) (t' := .long) (by decide) (by decide)))).other W10 (Or.inr (slot_ne (Or.inr (hw _ (List.mem_of_getElem? (i := 35) rfl))) (Or.inr (hw _ (List.mem_of_getElem? (i := 29) rfl))) (by decide) (t := .long) (t' := .long) (by decide) (by decide)))).other W11 (Or.inr (slot_ne (Or.inr (hw _ (List.mem_of_getElem? (i := 35) rfl))) (Or.inr (hw _ (List.mem_of_getElem? (i := 31) rfl))) (by decide) (t := .long) (t' := .long) (by decide) (by decide)))).other W12 (Or.inr (slot_ne (Or.inr (hw _ (List.mem_of_getElem? (i := 35) rfl))) (Or.inr (hw _ (List.mem_of_getElem? (i := 33) rfl))) (by decide) (t := .long) (t' := .long) (by decide) (by decide)))).same W13
  have K13 : Keep h0 h13 [a1] := K12.wr W13 (Or.inl (List.mem_of_getElem? (i := 0) rfl))
  have N13 := Fr.snoc X13 N12 g_a1
  obtain ⟨T14, h14, X14, e14, W14, st14⟩ := putF X13 hx hZ hown (host := "") (Or.inl (hw _ (List.mem_of_getElem? (i := 36) rfl))) Via.refl e13 (((((F_falseNegatives_a1.other W9 (Or.inr (slot_ne (Or.inr (hw _ (List.mem_of_getElem? (i := 37) rfl))) (Or.inr (hw _ (List.mem_of_getElem? (i := 27) rfl))) (by decide) (t := .long) (t' := .long) (by decide) (by decide)))).other W10 (Or.inr (slot_ne (Or.inr (hw _ (List.mem_of_getElem? (i := 37) rfl))) (Or.inr (hw _ (List.mem_of_getElem? (i := 29) rfl))) (by decide) (t := .long) (t' := .long) (by decide) (by decide)))).other W11 (Or.inr (slot_ne (Or.inr (hw _ (List.mem_of_getElem? (i := 37) rfl))) (Or.inr (hw _ (List.mem_of_getElem? (i := 31) rfl))) (by decide) (t := .long) (t' := .long) (by decide) (by decide)))).other W12 (Or.inr (slot_ne (Or.inr (hw _ (List.mem_of_getElem? (i := 37) rfl))) (Or.inr (hw _ (List.mem_of_getElem? (i := 33) rfl))) (by decide) (t := .long) (t' := .long) (by decide) (by decide)))).other W13 (Or.inr (slot_ne (Or.inr (hw _ (List.mem_of_getElem? (i := 37) rfl))) (Or.inr (hw _ (List.mem_of_getElem? (i := 35) rfl))) (by decide) (t := .long) (t' := .long) (by decide) (by decide)))) (((((E_a1.wr W9).wr W10).wr W11).wr W12).wr W13) (Or.inr ⟨(hw _ (List.mem_of_getElem? (i := 37) rfl)), rfl, hnm⟩) (hw _ (List.mem_of_getElem? (i := 12) rfl)) (ty := .long) (by decide) rfl rfl (g := (mkF m 35 #[.val (.ref a1), .val (.long q2), .second, .val (.long q3), .second, .val (.long q4), .second, .val (.long q5), .second, .val (.long q6), .second, .val (.long q7), .second, .val .null, .val .null] [(.long q7), (.ref a1)])) rfl rfl (hb hby d3_35)
  have Fw14 := (((((F_falseNegatives_a1.other W9 (Or.inr (slot_ne (Or.inr (hw _ (List.mem_of_getElem? (i := 37) rfl))) (Or.inr (hw _ (List.mem_of_getElem? (i := 27) rfl))) (by decide) (t := .long) (t' := .long) (by decide) (by decide)))).other W10 (Or.inr (slot_ne (Or.inr (hw _ (List.mem_of_getElem? (i := 37) rfl))) (Or.inr (hw _ (List.mem_of_getElem? (i := 29) rfl))) (by decide) (t := .long) (t' := .long) (by decide) (by decide)))).other W11 (Or.inr (slot_ne (Or.inr (hw _ (List.mem_of_getElem? (i := 37) rfl))) (Or.inr (hw _ (List.mem_of_getElem? (i := 31) rfl))) (by decide) (t := .long) (t' := .long) (by decide) (by decide)))).other W12 (Or.inr (slot_ne (Or.inr (hw _ (List.mem_of_getElem? (i := 37) rfl))) (Or.inr (hw _ (List.mem_of_getElem? (i := 33) rfl))) (by decide) (t := .long) (t' := .long) (by decide) (by decide)))).other W13 (Or.inr (slot_ne (Or.inr (hw _ (List.mem_of_getElem? (i := 37) rfl))) (Or.inr (hw _ (List.mem_of_getElem? (i := 35) rfl))) (by decide) (t := .long) (t' := .long) (by decide) (by decide)))).same W14
  have K14 : Keep h0 h14 [a1] := K13.wr W14 (Or.inl (List.mem_of_getElem? (i := 0) rfl))
  have N14 := Fr.snoc X14 N13 g_a1
  obtain ⟨T15, h15, X15, e15, W15, st15⟩ := putF X14 hx hZ hown (host := "") (Or.inl (hw _ (List.mem_of_getElem? (i := 38) rfl))) Via.refl e14 ((((((F_deletions_a1.other W9 (Or.inr (slot_ne (Or.inr (hw _ (List.mem_of_getElem? (i := 39) rfl))) (Or.inr (hw _ (List.mem_of_getElem? (i := 27) rfl))) (by decide) (t := (.object "java/util/Optional")) (t' := .long) (by decide) (by decide)))).other W10 (Or.inr (slot_ne (Or.inr (hw _ (List.mem_of_getElem? (i := 39) rfl))) (Or.inr (hw _ (List.mem_of_getElem? (i := 29) rfl))) (by decide) (t := (.object "java/util/Optional")) (t' := .long) (by decide) (by decide)))).other W11 (Or.inr (slot_ne (Or.inr (hw _ (List.mem_of_getElem? (i := 39) rfl))) (Or.inr (hw _ (List.mem_of_getElem? (i := 31) rfl))) (by decide) (t := (.object "java/util/Optional")) (t' := .long) (by decide) (by decide)))).other W12 (Or.inr (slot_ne (Or.inr (hw _ (List.mem_of_getElem? (i := 39) rfl))) (Or.inr (hw _ (List.mem_of_getElem? (i := 33) rfl))) (by decide) (t := (.object "java/util/Optional")) (t' := .long) (by decide) (by decide)))).other W13 (Or.inr (slot_ne (Or.inr (hw _ (List.mem_of_getElem? (i := 39) rfl))) (Or.inr (hw _ (List.mem_of_getElem? (i := 35) rfl))) (by decide) (t := (.object "java/util/Optional")) (t' := .long) (by decide) (by decide)))).other W14 (Or.inr (slot_ne (Or.inr (hw _ (List.mem_of_getElem? (i := 39) rfl))) (Or.inr (hw _ (List.mem_of_getElem? (i := 37) rfl))) (by decide) (t := (.object "java/util/Optional")) (t' := .long) (by decide) (by decide)))) ((((((E_a1.wr W9).wr W10).wr W11).wr W12).wr W13).wr W14) (Or.inr ⟨(hw _ (List.mem_of_getElem? (i := 39) rfl)), rfl, hnm⟩) (hw _ (List.mem_of_getElem? (i := 12) rfl)) (ty := (.object "java/util/Optional")) (by decide) rfl rfl (g := (mkF m 41 #[.val (.ref a1), .val (.long q2), .second, .val (.long q3), .second, .val (.long q4), .second, .val (.long q5), .second, .val (.long q6), .second, .val (.long q7), .second, .val .null, .val .null] [.null, (.ref a1)])) rfl rfl (hb hby d3_41)
  have Fw15 := ((((((F_deletions_a1.other W9 (Or.inr (slot_ne (Or.inr (hw _ (List.mem_of_getElem? (i := 39) rfl))) (Or.inr (hw _ (List.mem_of_getElem? (i := 27) rfl))) (by decide) (t := (.object "java/util/Optional")) (t' := .long) (by decide) (by decide)))).other W10 (Or.inr (slot_ne (Or.inr (hw _ (List.mem_of_getElem? (i := 39) rfl))) (Or.inr (hw _ (List.mem_of_getElem? (i := 29) rfl))) (by decide) (t := (.object "java/util/Optional")) (t' := .long) (by decide) (by decide)))).other W11 (Or.inr (slot_ne (Or.inr (hw _ (List.mem_of_getElem? (i := 39) rfl))) (Or.inr (hw _ (List.mem_of_getElem? (i := 31) rfl))) (by decide) (t := (.object "java/util/Optional")) (t' := .long) (by decide) (by decide)))).other W12 (Or.inr (slot_ne (Or.inr (hw _ (List.mem_of_getElem? (i := 39) rfl))) (Or.inr (hw _ (List.mem_of_getElem? (i := 33) rfl))) (by decide) (t := (.object "java/util/Optional")) (t' := .long) (by decide) (by decide)))).other W13 (Or.inr (slot_ne (Or.inr (hw _ (List.mem_of_getElem? (i := 39) rfl))) (Or.inr (hw _ (List.mem_of_getElem? (i := 35) rfl))) (by decide) (t := (.object "java/util/Optional")) (t' := .long) (by decide) (by decide)))).other W14 (Or.inr (slot_ne (Or.inr (hw _ (List.mem_of_getElem? (i := 39) rfl))) (Or.inr (hw _ (List.mem_of_getElem? (i := 37) rfl))) (by decide) (t := (.object "java/util/Optional")) (t' := .long) (by decide) (by decide)))).same W15
  have K15 : Keep h0 h15 [a1] := K14.wr W15 (Or.inl (List.mem_of_getElem? (i := 0) rfl))
  have N15 := Fr.snoc X15 N14 g_a1
  obtain ⟨T16, h16, X16, e16, W16, st16⟩ := putF X15 hx hZ hown (host := "") (Or.inl (hw _ (List.mem_of_getElem? (i := 40) rfl))) Via.refl e15 (((((((F_adaptations_a1.other W9 (Or.inr (slot_ne (Or.inr (hw _ (List.mem_of_getElem? (i := 41) rfl))) (Or.inr (hw _ (List.mem_of_getElem? (i := 27) rfl))) (by decide) (t := (.object "java/util/Optional")) (t' := .long) (by decide) (by decide)))).other W10 (Or.inr (slot_ne (Or.inr (hw _ (List.mem_of_getElem? (i := 41) rfl))) (Or.inr (hw _ (List.mem_of_getElem? (i := 29) rfl))) (by decide) (t := (.object "java/util/Optional")) (t' := .long) (by decide) (by decide)))).other W11 (Or.inr (slot_ne (Or.inr (hw _ (List.mem_of_getElem? (i := 41) rfl))) (Or.inr (hw _ (List.mem_of_getElem? (i := 31) rfl))) (by decide) (t := (.object "java/util/Optional")) (t' := .long) (by decide) (by decide)))).other W12 (Or.inr (slot_ne (Or.inr (hw _ (List.mem_of_getElem? (i := 41) rfl))) (Or.inr (hw _ (List.mem_of_getElem? (i := 33) rfl))) (by decide) (t := (.object "java/util/Optional")) (t' := .long) (by decide) (by decide)))).other W13 (Or.inr (slot_ne (Or.inr (hw _ (List.mem_of_getElem? (i := 41) rfl))) (Or.inr (hw _ (List.mem_of_getElem? (i := 35) rfl))) (by decide) (t := (.object "java/util/Optional")) (t' := .long) (by decide) (by decide)))).other W14 (Or.inr (slot_ne (Or.inr (hw _ (List.mem_of_getElem? (i := 41) rfl))) (Or.inr (hw _ (List.mem_of_getElem? (i := 37) rfl))) (by decide) (t := (.object "java/util/Optional")) (t' := .long) (by decide) (by decide)))).other W15 (Or.inr (slot_ne (Or.inr (hw _ (List.mem_of_getElem? (i := 41) rfl))) (Or.inr (hw _ (List.mem_of_getElem? (i := 39) rfl))) (by decide) (t := (.object "java/util/Optional")) (t' := (.object "java/util/Optional")) (by decide) (by decide)))) (((((((E_a1.wr W9).wr W10).wr W11).wr W12).wr W13).wr W14).wr W15) (Or.inr ⟨(hw _ (List.mem_of_getElem? (i := 41) rfl)), rfl, hnm⟩) (hw _ (List.mem_of_getElem? (i := 12) rfl)) (ty := (.object "java/util/Optional")) (by decide) rfl rfl (g := (mkF m 47 #[.val (.ref a1), .val (.long q2), .second, .val (.long q3), .second, .val (.long q4), .second, .val (.long q5), .second, .val (.long q6), .second, .val (.long q7), .second, .val .null, .val .null] [.null, (.ref a1)])) rfl rfl (hb hby d3_47)
  have Fw16 := (((((((F_adaptations_a1.other W9 (Or.inr (slot_ne (Or.inr (hw _ (List.mem_of_getElem? (i := 41) rfl))) (Or.inr (hw _ (List.mem_of_getElem? (i := 27) rfl))) (by decide) (t := (.object "java/util/Optional")) (t' := .long) (by decide) (by decide)))).other W10 (Or.inr (slot_ne (Or.inr (hw _ (List.mem_of_getElem? (i := 41) rfl))) (Or.inr (hw _ (List.mem_of_getElem? (i := 29) rfl))) (by decide) (t := (.object "java/util/Optional")) (t' := .long) (by decide) (by decide)))).other W11 (Or.inr (slot_ne (Or.inr (hw _ (List.mem_of_getElem? (i := 41) rfl))) (Or.inr (hw _ (List.mem_of_getElem? (i := 31) rfl))) (by decide) (t := (.object "java/util/Optional")) (t' := .long) (by decide) (by decide)))).other W12 (Or.inr (slot_ne (Or.inr (hw _ (List.mem_of_getElem? (i := 41) rfl))) (Or.inr (hw _ (List.mem_of_getElem? (i := 33) rfl))) (by decide) (t := (.object "java/util/Optional")) (t' := .long) (by decide) (by decide)))).other W13 (Or.inr (slot_ne (Or.inr (hw _ (List.mem_of_getElem? (i := 41) rfl))) (Or.inr (hw _ (List.mem_of_getElem? (i := 35) rfl))) (by decide) (t := (.object "java/util/Optional")) (t' := .long) (by decide) (by decide)))).other W14 (Or.inr (slot_ne (Or.inr (hw _ (List.mem_of_getElem? (i := 41) rfl))) (Or.inr (hw _ (List.mem_of_getElem? (i := 37) rfl))) (by decide) (t := (.object "java/util/Optional")) (t' := .long) (by decide) (by decide)))).other W15 (Or.inr (slot_ne (Or.inr (hw _ (List.mem_of_getElem? (i := 41) rfl))) (Or.inr (hw _ (List.mem_of_getElem? (i := 39) rfl))) (by decide) (t := (.object "java/util/Optional")) (t' := (.object "java/util/Optional")) (by decide) (by decide)))).same W16
  have K16 : Keep h0 h16 [a1] := K15.wr W16 (Or.inl (List.mem_of_getElem? (i := 0) rfl))
  have N16 := Fr.snoc X16 N15 g_a1
  obtain ⟨fs, hr, hrun, hended, hW, hsame⟩ := X16.leave (v := none) (fun _ => rfl)
  refine ⟨_, _, pre0 _ ?_, hrun, hended, _, _, rfl, ?_, ⟨_, rfl⟩, hW, hsame.mono (by decide) (by decide)⟩
  · show Steps p.tables e below (s₁.setTop (mkF m 0 #[.val (.ref a1), .val (.long q2), .second, .val (.long q3), .second, .val (.long q4), .second, .val (.long q5), .second, .val (.long q6), .second, .val (.long q7), .second, .val .null, .val .null] [])) _
    refine XS.aloadN X0.here hx rfl (hb hby d3_0) rfl rfl ?_
    show Steps p.tables e below (s₁.setTop (mkF m 1 #[.val (.ref a1), .val (.long q2), .second, .val (.long q3), .second, .val (.long q4), .second, .val (.long q5), .second, .val (.long q6), .second, .val (.long q7), .second, .val .null, .val .null] [(.ref a1)])) _
    refine st8.trans ?_
    show Steps p.tables e below (T8.setTop (mkF m 4 #[.val (.ref a1), .val (.long q2), .second, .val (.long q3), .second, .val (.long q4), .second, .val (.long q5), .second, .val (.long q6), .second, .val (.long q7), .second, .val .null, .val .null] [])) _
    refine XS.aloadN X8.here hx rfl (hb hby d3_4) rfl rfl ?_
    show Steps p.tables e below (T8.setTop (mkF m 5 #[.val (.ref a1), .val (.long q2), .second, .val (.long q3), .second, .val (.long q4), .second, .val (.long q5), .second, .val (.long q6), .second, .val (.long q7), .second, .val .null, .val .null] [(.ref a1)])) _
    refine XS.lloadN X8.here hx rfl (hb hby d3_5) rfl ?_
    show Steps p.tables e below (T8.setTop (mkF m 6 #[.val (.ref a1), .val (.long q2), .second, .val (.long q3), .second, .val (.long q4), .second, .val (.long q5), .second, .val (.long q6), .second, .val (.long q7), .second, .val .null, .val .null] [(.long q2), (.ref a1)])) _
    refine st9 _ ?_
    show Steps p.tables e below (T9.setTop (mkF m 9 #[.val (.ref a1), .val (.long q2), .second, .val (.long q3), .second, .val (.long q4), .second, .val (.long q5), .second, .val (.long q6), .second, .val (.long q7), .second, .val .null, .val .null] [])) _
    refine XS.aloadN X9.here hx rfl (hb hby d3_9) rfl rfl ?_
    show Steps p.tables e below (T9.setTop (mkF m 10 #[.val (.ref a1), .val (.long q2), .second, .val (.long q3), .second, .val (.long q4), .second, .val (.long q5), .second, .val (.long q6), .second, .val (.long q7), .second, .val .null, .val .null] [(.ref a1)])) _
    refine XS.lloadN X9.here hx rfl (hb hby d3_10) rfl ?_
    show Steps p.tables e below (T9.setTop (mkF m 11 #[.val (.ref a1), .val (.long q2), .second, .val (.long q3), .second, .val (.long q4), .second, .val (.long q5), .second, .val (.long q6), .second, .val (.long q7), .second, .val .null, .val .null] [(.long q3), (.ref a1)])) _
    refine st10 _ ?_
    show Steps p.tables e below (T10.setTop (mkF m 14 #[.val (.ref a1), .val (.long q2), .second, .val (.long q3), .second, .val (.long q4), .second, .val (.long q5), .second, .val (.long q6), .second, .val (.long q7), .second, .val .null, .val .null] [])) _
    refine XS.aloadN X10.here hx rfl (hb hby d3_14) rfl rfl ?_
    show Steps p.tables e below (T10.setTop (mkF m 15 #[.val (.ref a1), .val (.long q2), .second, .val (.long q3), .second, .val (.long q4), .second, .val (.long q5), .second, .val (.long q6), .second, .val (.long q7), .second, .val .null, .val .null] [(.ref a1)])) _
    refine XS.lload X10.here hx rfl (hb hby d3_15) rfl ?_
    show Steps p.tables e below (T10.setTop (mkF m 17 #[.val (.ref a1), .val (.long q2), .second, .val (.long q3), .second, .val (.long q4), .second, .val (.long q5), .second, .val (.long q6), .second, .val (.long q7), .second, .val .null, .val .null] [(.long q4), (.ref a1)])) _
    refine st11 _ ?_
    show Steps p.tables e below (T11.setTop (mkF m 20 #[.val (.ref a1), .val (.long q2), .second, .val (.long q3), .second, .val (.long q4), .second, .val (.long q5), .second, .val (.long q6), .second, .val (.long q7), .second, .val .null, .val .null] [])) _
    refine XS.aloadN X11.here hx rfl (hb hby d3_20) rfl rfl ?_
    show Steps p.tables e below (T11.setTop (mkF m 21 #[.val (.ref a1), .val (.long q2), .second, .val (.long q3), .second, .val (.long q4), .second, .val (.long q5), .second, .val (.long q6), .second, .val (.long q7), .second, .val .null, .val .null] [(.ref a1)])) _
    refine XS.lload X11.here hx rfl (hb hby d3_21) rfl ?_
    show Steps p.tables e below (T11.setTop (mkF m 23 #[.val (.ref a1), .val (.long q2), .second, .val (.long q3), .second, .val (.long q4), .second, .val (.long q5), .second, .val (.long q6), .second, .val (.long q7), .second, .val .null, .val .null] [(.long q5), (.ref a1)])) _
    refine st12 _ ?_
    show Steps p.tables e below (T12.setTop (mkF m 26 #[.val (.ref a1), .val (.long q2), .second, .val (.long q3), .second, .val (.long q4), .second, .val (.long q5), .second, .val (.long q6), .second, .val (.long q7), .second, .val .null, .val .null] [])) _
    refine XS.aloadN X12.here hx rfl (hb hby d3_26) rfl rfl ?_
    show Steps p.tables e below (T12.setTop (mkF m 27 #[.val (.ref a1), .val (.long q2), .second, .val (.long q3), .second, .val (.long q4), .second, .val (.long q5), .second, .val (.long q6), .second, .val (.long q7), .second, .val .null, .val .null] [(.ref a1)])) _
    refine XS.lload X12.here hx rfl (hb hby d3_27) rfl ?_
    show Steps p.tables e below (T12.setTop (mkF m 29 #[.val (.ref a1), .val (.long q2), .second, .val (.long q3), .second, .val (.long q4), .second, .val (.long q5), .second, .val (.long q6), .second, .val (.long q7), .second, .val .null, .val .null] [(.long q6), (.ref a1)])) _
    refine st13 _ ?_
    show Steps p.tables e below (T13.setTop (mkF m 32 #[.val (.ref a1), .val (.long q2), .second, .val (.long q3), .second, .val (.long q4), .second, .val (.long q5), .second, .val (.long q6), .second, .val (.long q7), .second, .val .null, .val .null] [])) _
    refine XS.aloadN X13.here hx rfl (hb hby d3_32) rfl rfl ?_
    show Steps p.tables e below (T13.setTop (mkF m 33 #[.val (.ref a1), .val (.long q2), .second, .val (.long q3), .second, .val (.long q4), .second, .val (.long q5), .second, .val (.long q6), .second, .val (.long q7), .second, .val .null, .val .null] [(.ref a1)])) _
    refine XS.lload X13.here hx rfl (hb hby d3_33) rfl ?_
    show Steps p.tables e below (T13.setTop (mkF m 35 #[.val (.ref a1), .val (.long q2), .second, .val (.long q3), .second, .val (.long q4), .second, .val (.long q5), .second, .val (.long q6), .second, .val (.long q7), .second, .val .null, .val .null] [(.long q7), (.ref a1)])) _
    refine st14 _ ?_
    show Steps p.tables e below (T14.setTop (mkF m 38 #[.val (.ref a1), .val (.long q2), .second, .val (.long q3), .second, .val (.long q4), .second, .val (.long q5), .second, .val (.long q6), .second, .val (.long q7), .second, .val .null, .val .null] [])) _
    refine XS.aloadN X14.here hx rfl (hb hby d3_38) rfl rfl ?_
    show Steps p.tables e below (T14.setTop (mkF m 39 #[.val (.ref a1), .val (.long q2), .second, .val (.long q3), .second, .val (.long q4), .second, .val (.long q5), .second, .val (.long q6), .second, .val (.long q7), .second, .val .null, .val .null] [(.ref a1)])) _
    refine XS.aload X14.here hx rfl (hb hby d3_39) rfl rfl ?_
    show Steps p.tables e below (T14.setTop (mkF m 41 #[.val (.ref a1), .val (.long q2), .second, .val (.long q3), .second, .val (.long q4), .second, .val (.long q5), .second, .val (.long q6), .second, .val (.long q7), .second, .val .null, .val .null] [.null, (.ref a1)])) _
    refine st15 _ ?_
    show Steps p.tables e below (T15.setTop (mkF m 44 #[.val (.ref a1), .val (.long q2), .second, .val (.long q3), .second, .val (.long q4), .second, .val (.long q5), .second, .val (.long q6), .second, .val (.long q7), .second, .val .null, .val .null] [])) _
    refine XS.aloadN X15.here hx rfl (hb hby d3_44) rfl rfl ?_
    show Steps p.tables e below (T15.setTop (mkF m 45 #[.val (.ref a1), .val (.long q2), .second, .val (.long q3), .second, .val (.long q4), .second, .val (.long q5), .second, .val (.long q6), .second, .val (.long q7), .second, .val .null, .val .null] [(.ref a1)])) _
    refine XS.aload X15.here hx rfl (hb hby d3_45) rfl rfl ?_
    show Steps p.tables e below (T15.setTop (mkF m 47 #[.val (.ref a1), .val (.long q2), .second, .val (.long q3), .second, .val (.long q4), .second, .val (.long q5), .second, .val (.long q6), .second, .val (.long q7), .second, .val .null, .val .null] [.null, (.ref a1)])) _
    refine st16 _ ?_
    show Steps p.tables e below (T16.setTop (mkF m 50 #[.val (.ref a1), .val (.long q2), .second, .val (.long q3), .second, .val (.long q4), .second, .val (.long q5), .second, .val (.long q6), .second, .val (.long q7), .second, .val .null, .val .null] [])) _
    exact X16.returnOut hx Bd.returns (hb hby d3_50) hr
  · show Q3 Z a1 q2 q3 q4 q5 q6 q7 u_inserted_a1 u_held_a1 u_queries_a1 u_negatives_a1 u_falsePositives_a1 u_falseNegatives_a1 u_deletions_a1 u_adaptations_a1 h0 n0 _ T16.heap _
    rw [e16]
    exact ⟨rfl, N16, K16, ((((((((E_a1.wr W9).wr W10).wr W11).wr W12).wr W13).wr W14).wr W15).wr W16), (((((((Fw9.other W10 (Or.inr (slot_ne (Or.inr (hw _ (List.mem_of_getElem? (i := 27) rfl))) (Or.inr (hw _ (List.mem_of_getElem? (i := 29) rfl))) (by decide) (t := .long) (t' := .long) (by decide) (by decide)))).other W11 (Or.inr (slot_ne (Or.inr (hw _ (List.mem_of_getElem? (i := 27) rfl))) (Or.inr (hw _ (List.mem_of_getElem? (i := 31) rfl))) (by decide) (t := .long) (t' := .long) (by decide) (by decide)))).other W12 (Or.inr (slot_ne (Or.inr (hw _ (List.mem_of_getElem? (i := 27) rfl))) (Or.inr (hw _ (List.mem_of_getElem? (i := 33) rfl))) (by decide) (t := .long) (t' := .long) (by decide) (by decide)))).other W13 (Or.inr (slot_ne (Or.inr (hw _ (List.mem_of_getElem? (i := 27) rfl))) (Or.inr (hw _ (List.mem_of_getElem? (i := 35) rfl))) (by decide) (t := .long) (t' := .long) (by decide) (by decide)))).other W14 (Or.inr (slot_ne (Or.inr (hw _ (List.mem_of_getElem? (i := 27) rfl))) (Or.inr (hw _ (List.mem_of_getElem? (i := 37) rfl))) (by decide) (t := .long) (t' := .long) (by decide) (by decide)))).other W15 (Or.inr (slot_ne (Or.inr (hw _ (List.mem_of_getElem? (i := 27) rfl))) (Or.inr (hw _ (List.mem_of_getElem? (i := 39) rfl))) (by decide) (t := .long) (t' := (.object "java/util/Optional")) (by decide) (by decide)))).other W16 (Or.inr (slot_ne (Or.inr (hw _ (List.mem_of_getElem? (i := 27) rfl))) (Or.inr (hw _ (List.mem_of_getElem? (i := 41) rfl))) (by decide) (t := .long) (t' := (.object "java/util/Optional")) (by decide) (by decide)))), ((((((Fw10.other W11 (Or.inr (slot_ne (Or.inr (hw _ (List.mem_of_getElem? (i := 29) rfl))) (Or.inr (hw _ (List.mem_of_getElem? (i := 31) rfl))) (by decide) (t := .long) (t' := .long) (by decide) (by decide)))).other W12 (Or.inr (slot_ne (Or.inr (hw _ (List.mem_of_getElem? (i := 29) rfl))) (Or.inr (hw _ (List.mem_of_getElem? (i := 33) rfl))) (by decide) (t := .long) (t' := .long) (by decide) (by decide)))).other W13 (Or.inr (slot_ne (Or.inr (hw _ (List.mem_of_getElem? (i := 29) rfl))) (Or.inr (hw _ (List.mem_of_getElem? (i := 35) rfl))) (by decide) (t := .long) (t' := .long) (by decide) (by decide)))).other W14 (Or.inr (slot_ne (Or.inr (hw _ (List.mem_of_getElem? (i := 29) rfl))) (Or.inr (hw _ (List.mem_of_getElem? (i := 37) rfl))) (by decide) (t := .long) (t' := .long) (by decide) (by decide)))).other W15 (Or.inr (slot_ne (Or.inr (hw _ (List.mem_of_getElem? (i := 29) rfl))) (Or.inr (hw _ (List.mem_of_getElem? (i := 39) rfl))) (by decide) (t := .long) (t' := (.object "java/util/Optional")) (by decide) (by decide)))).other W16 (Or.inr (slot_ne (Or.inr (hw _ (List.mem_of_getElem? (i := 29) rfl))) (Or.inr (hw _ (List.mem_of_getElem? (i := 41) rfl))) (by decide) (t := .long) (t' := (.object "java/util/Optional")) (by decide) (by decide)))), (((((Fw11.other W12 (Or.inr (slot_ne (Or.inr (hw _ (List.mem_of_getElem? (i := 31) rfl))) (Or.inr (hw _ (List.mem_of_getElem? (i := 33) rfl))) (by decide) (t := .long) (t' := .long) (by decide) (by decide)))).other W13 (Or.inr (slot_ne (Or.inr (hw _ (List.mem_of_getElem? (i := 31) rfl))) (Or.inr (hw _ (List.mem_of_getElem? (i := 35) rfl))) (by decide) (t := .long) (t' := .long) (by decide) (by decide)))).other W14 (Or.inr (slot_ne (Or.inr (hw _ (List.mem_of_getElem? (i := 31) rfl))) (Or.inr (hw _ (List.mem_of_getElem? (i := 37) rfl))) (by decide) (t := .long) (t' := .long) (by decide) (by decide)))).other W15 (Or.inr (slot_ne (Or.inr (hw _ (List.mem_of_getElem? (i := 31) rfl))) (Or.inr (hw _ (List.mem_of_getElem? (i := 39) rfl))) (by decide) (t := .long) (t' := (.object "java/util/Optional")) (by decide) (by decide)))).other W16 (Or.inr (slot_ne (Or.inr (hw _ (List.mem_of_getElem? (i := 31) rfl))) (Or.inr (hw _ (List.mem_of_getElem? (i := 41) rfl))) (by decide) (t := .long) (t' := (.object "java/util/Optional")) (by decide) (by decide)))), ((((Fw12.other W13 (Or.inr (slot_ne (Or.inr (hw _ (List.mem_of_getElem? (i := 33) rfl))) (Or.inr (hw _ (List.mem_of_getElem? (i := 35) rfl))) (by decide) (t := .long) (t' := .long) (by decide) (by decide)))).other W14 (Or.inr (slot_ne (Or.inr (hw _ (List.mem_of_getElem? (i := 33) rfl))) (Or.inr (hw _ (List.mem_of_getElem? (i := 37) rfl))) (by decide) (t := .long) (t' := .long) (by decide) (by decide)))).other W15 (Or.inr (slot_ne (Or.inr (hw _ (List.mem_of_getElem? (i := 33) rfl))) (Or.inr (hw _ (List.mem_of_getElem? (i := 39) rfl))) (by decide) (t := .long) (t' := (.object "java/util/Optional")) (by decide) (by decide)))).other W16 (Or.inr (slot_ne (Or.inr (hw _ (List.mem_of_getElem? (i := 33) rfl))) (Or.inr (hw _ (List.mem_of_getElem? (i := 41) rfl))) (by decide) (t := .long) (t' := (.object "java/util/Optional")) (by decide) (by decide)))), (((Fw13.other W14 (Or.inr (slot_ne (Or.inr (hw _ (List.mem_of_getElem? (i := 35) rfl))) (Or.inr (hw _ (List.mem_of_getElem? (i := 37) rfl))) (by decide) (t := .long) (t' := .long) (by decide) (by decide)))).other W15 (Or.inr (slot_ne (Or.inr (hw _ (List.mem_of_getElem? (i := 35) rfl))) (Or.inr (hw _ (List.mem_of_getElem? (i := 39) rfl))) (by decide) (t := .long) (t' := (.object "java/util/Optional")) (by decide) (by decide)))).other W16 (Or.inr (slot_ne (Or.inr (hw _ (List.mem_of_getElem? (i := 35) rfl))) (Or.inr (hw _ (List.mem_of_getElem? (i := 41) rfl))) (by decide) (t := .long) (t' := (.object "java/util/Optional")) (by decide) (by decide)))), ((Fw14.other W15 (Or.inr (slot_ne (Or.inr (hw _ (List.mem_of_getElem? (i := 37) rfl))) (Or.inr (hw _ (List.mem_of_getElem? (i := 39) rfl))) (by decide) (t := .long) (t' := (.object "java/util/Optional")) (by decide) (by decide)))).other W16 (Or.inr (slot_ne (Or.inr (hw _ (List.mem_of_getElem? (i := 37) rfl))) (Or.inr (hw _ (List.mem_of_getElem? (i := 41) rfl))) (by decide) (t := .long) (t' := (.object "java/util/Optional")) (by decide) (by decide)))), (Fw15.other W16 (Or.inr (slot_ne (Or.inr (hw _ (List.mem_of_getElem? (i := 39) rfl))) (Or.inr (hw _ (List.mem_of_getElem? (i := 41) rfl))) (by decide) (t := (.object "java/util/Optional")) (t' := (.object "java/util/Optional")) (by decide) (by decide)))), Fw16⟩
theorem d6_0 : decode prog_13_method_3_code 0 = .ok (.aload_n 0, 1) := by decide +kernel
theorem d6_1 : decode prog_13_method_3_code 1 = .ok (.getfield 16, 3) := by decide +kernel
theorem d6_4 : decode prog_13_method_3_code 4 = .ok (.aload_n 0, 1) := by decide +kernel
theorem d6_5 : decode prog_13_method_3_code 5 = .ok (.getfield 19, 3) := by decide +kernel
theorem d6_8 : decode prog_13_method_3_code 8 = .ok (.lsub, 1) := by decide +kernel
theorem d6_9 : decode prog_13_method_3_code 9 = .ok (.lstore_n 1, 1) := by decide +kernel
theorem d6_10 : decode prog_13_method_3_code 10 = .ok (.lload_n 1, 1) := by decide +kernel
theorem d6_11 : decode prog_13_method_3_code 11 = .ok (.lconst 0, 1) := by decide +kernel
theorem d6_12 : decode prog_13_method_3_code 12 = .ok (.lcmp, 1) := by decide +kernel
theorem d6_13 : decode prog_13_method_3_code 13 = .ok (.ifCond .ne 7, 3) := by decide +kernel
theorem d6_16 : decode prog_13_method_3_code 16 = .ok (.dconst 1, 1) := by decide +kernel
theorem d6_17 : decode prog_13_method_3_code 17 = .ok (.goto 13, 3) := by decide +kernel
theorem d6_30 : decode prog_13_method_3_code 30 = .ok (.dreturn, 1) := by decide +kernel
theorem pn_6 : plainName "com/example/bits_for_sets/bitsforsets/tool/ReplayCounts" = true := by first | (simp [plainName, overriddenIn]; done) | decide +kernel
theorem ef_6 (m : MethodId) (x0 : Addr) : entryFrame m #[(.ref x0)] 3 = mkF m 0 #[.val (.ref x0), .unset, .unset] [] := by first | (simp [entryFrame, mkF, argsToLocals, Value.category]; done) | rfl
set_option maxRecDepth 65536 in
set_option maxHeartbeats 40000000 in
theorem rm6_f (l : Launch) (Z : State) (a0 : Array Value) (hw : ∀ d ∈ tables_1, d.before a0 Z = true) (ws : List Jvm.Cond) (a1 : Addr) (w2 : Int64) (w4 : Int64) (h0 : Heap) (n0 : Nat) (Z0 : n0 ≤ h0.size) (F_queries_a1 : Fld Z h0 a1 "com/example/bits_for_sets/bitsforsets/tool/ReplayCounts" "queries" "J" (.long w2)) (F_negatives_a1 : Fld Z h0 a1 "com/example/bits_for_sets/bitsforsets/tool/ReplayCounts" "negatives" "J" (.long w4)) (hc13 : (lcmpW (w2 - w4) (0 : Int64)) = (0 : Int32)) :
    MetFree l (⟨"com/example/bits_for_sets/bitsforsets/tool/ReplayCounts", "truePositiveRate", "()D"⟩ : MethodName) (head1 (Jvm.Cond.code (⟨"com/example/bits_for_sets/bitsforsets/tool/ReplayCounts", "truePositiveRate", "()D"⟩ : MethodName) prog_13_method_3_code 3 (some .double) :: ws) ({ frames := 0, cells := 0, slots := 0, locals := 0 } : Room)) (fun a U => a = #[(.ref a1)] ∧ Z.Warmed39 U.vm ∧ U.heap = h0) (fun _ _ _ _ _ => True) (fun _ U o U' => ∃ v L, o = .returned v ∧ QV Z (.double FP.dconst1) h0 n0 v U'.heap L ∧ FrameEnd U o U' L ({ frames := 0, cells := 0, slots := 0, locals := 0 } : Room).cells ({ frames := 0, cells := 0, slots := 0, locals := 0 } : Room).slots) := by
  refine MetFree.of_bodySF (plainFor_of_name pn_6) hisR ?_
  intro p e s m args below meth c s₁ Bd hml0 hP hK
  obtain ⟨rfl, hZ, hh⟩ := hP
  have hx := Bd.exec
  have hby := Bd.bytes
  have hml : c.maxLocals = 3 := hml0
  have hown : s.vm.findClass "com/example/bits_for_sets/bitsforsets/tool/ReplayCounts" = some m.cls := findClass_of_methodNamed Bd.named
  have hnm := (name_of_methodNamed Bd.named Bd.method).1
  have X0 : Stand p l e ({ frames := 0, cells := 0, slots := 0, locals := 0 } : Room) s m #[(.ref a1)] below meth c s₁ [] 0 0 := Stand.of_body Bd
  have e0 : s₁.heap = h0 := by rw [← hh, Bd.state]; rfl
  have N0 := Fr.nil n0
  have pre0 : ∀ t, Steps p.tables e below (s₁.setTop (mkF m 0 #[.val (.ref a1), .unset, .unset] [])) t → Steps p.tables e below (s₁.setTop (entryFrame m #[(.ref a1)] 3)) t := fun t k => castTop (ef_6 m a1) k
  obtain ⟨T3, X3, e3, st3⟩ := getF X0 hx hZ hown (host := "") (Or.inl (hw _ (List.mem_of_getElem? (i := 30) rfl))) Via.refl e0 F_queries_a1 (g := (mkF m 1 #[.val (.ref a1), .unset, .unset] [(.ref a1)])) rfl rfl (hb hby d6_1)
  obtain ⟨T5, X5, e5, st5⟩ := getF X3 hx hZ hown (host := "") (Or.inl (hw _ (List.mem_of_getElem? (i := 32) rfl))) Via.refl e3 F_negatives_a1 (g := (mkF m 5 #[.val (.ref a1), .unset, .unset] [(.ref a1), (.long w2)])) rfl rfl (hb hby d6_5)
  obtain ⟨fs, hr, hrun, hended, hW, hsame⟩ := X5.leave (v := some (.double FP.dconst1)) (fun h => by rw [Bd.returns] at h; cases h)
  refine ⟨_, _, pre0 _ ?_, hrun, hended, _, _, rfl, ?_, ⟨_, rfl⟩, hW, hsame.mono (by decide) (by decide)⟩
  · show Steps p.tables e below (s₁.setTop (mkF m 0 #[.val (.ref a1), .unset, .unset] [])) _
    refine XS.aloadN X0.here hx rfl (hb hby d6_0) rfl rfl ?_
    show Steps p.tables e below (s₁.setTop (mkF m 1 #[.val (.ref a1), .unset, .unset] [(.ref a1)])) _
    refine st3 _ ?_
    show Steps p.tables e below (T3.setTop (mkF m 4 #[.val (.ref a1), .unset, .unset] [(.long w2)])) _
    refine XS.aloadN X3.here hx rfl (hb hby d6_4) rfl rfl ?_
    show Steps p.tables e below (T3.setTop (mkF m 5 #[.val (.ref a1), .unset, .unset] [(.ref a1), (.long w2)])) _
    refine st5 _ ?_
    show Steps p.tables e below (T5.setTop (mkF m 8 #[.val (.ref a1), .unset, .unset] [(.long w4), (.long w2)])) _
    refine XS.lsub X5.here hx rfl (hb hby d6_8) rfl ?_
    show Steps p.tables e below (T5.setTop (mkF m 9 #[.val (.ref a1), .unset, .unset] [(.long (w2 - w4))])) _
    refine XS.lstoreN X5.here hx rfl (hb hby d6_9) rfl (l' := #[.val (.ref a1), .val (.long (w2 - w4)), .second]) rfl ?_
    show Steps p.tables e below (T5.setTop (mkF m 10 #[.val (.ref a1), .val (.long (w2 - w4)), .second] [])) _
    refine XS.lloadN X5.here hx rfl (hb hby d6_10) rfl ?_
    show Steps p.tables e below (T5.setTop (mkF m 11 #[.val (.ref a1), .val (.long (w2 - w4)), .second] [(.long (w2 - w4))])) _
    refine XS.lconst X5.here hx rfl (hb hby d6_11) ?_
    show Steps p.tables e below (T5.setTop (mkF m 12 #[.val (.ref a1), .val (.long (w2 - w4)), .second] [(.long (0 : Int64)), (.long (w2 - w4))])) _
    refine XS.lcmp X5.here hx rfl (hb hby d6_12) rfl ?_
    show Steps p.tables e below (T5.setTop (mkF m 13 #[.val (.ref a1), .val (.long (w2 - w4)), .second] [(.int (lcmpW (w2 - w4) (0 : Int64)))])) _
    refine XS.ifNo X5.here hx rfl (hb hby d6_13) rfl ((if0 _ _).trans (teq hc13).2) ?_
    show Steps p.tables e below (T5.setTop (mkF m 16 #[.val (.ref a1), .val (.long (w2 - w4)), .second] [])) _
    refine XS.dconst1 X5.here hx rfl (hb hby d6_16) rfl ?_
    show Steps p.tables e below (T5.setTop (mkF m 17 #[.val (.ref a1), .val (.long (w2 - w4)), .second] [(.double FP.dconst1)])) _
    refine XS.goto X5.here hx rfl (pc0 := 17) (pc' := 30) rfl (hb hby d6_17) (by decide) (by decide) ?_
    show Steps p.tables e below (T5.setTop (mkF m 30 #[.val (.ref a1), .val (.long (w2 - w4)), .second] [(.double FP.dconst1)])) _
    exact own_retD X5 hx Bd.returns (hb hby d6_30) hr
  · show QV Z (.double FP.dconst1) h0 n0 _ T5.heap _
    rw [e5]
    exact ⟨rfl, N0, rfl⟩
theorem d6_20 : decode prog_13_method_3_code 20 = .ok (.dconst 1, 1) := by decide +kernel
theorem d6_21 : decode prog_13_method_3_code 21 = .ok (.aload_n 0, 1) := by decide +kernel
theorem d6_22 : decode prog_13_method_3_code 22 = .ok (.getfield 25, 3) := by decide +kernel
theorem d6_25 : decode prog_13_method_3_code 25 = .ok (.l2d, 1) := by decide +kernel
theorem d6_26 : decode prog_13_method_3_code 26 = .ok (.lload_n 1, 1) := by decide +kernel
theorem d6_27 : decode prog_13_method_3_code 27 = .ok (.l2d, 1) := by decide +kernel
theorem d6_28 : decode prog_13_method_3_code 28 = .ok (.ddiv, 1) := by decide +kernel
theorem d6_29 : decode prog_13_method_3_code 29 = .ok (.dsub, 1) := by decide +kernel
set_option maxRecDepth 65536 in
set_option maxHeartbeats 40000000 in
theorem rm6_t (l : Launch) (Z : State) (a0 : Array Value) (hw : ∀ d ∈ tables_1, d.before a0 Z = true) (ws : List Jvm.Cond) (a1 : Addr) (w2 : Int64) (w4 : Int64) (w6 : Int64) (h0 : Heap) (n0 : Nat) (Z0 : n0 ≤ h0.size) (F_queries_a1 : Fld Z h0 a1 "com/example/bits_for_sets/bitsforsets/tool/ReplayCounts" "queries" "J" (.long w2)) (F_negatives_a1 : Fld Z h0 a1 "com/example/bits_for_sets/bitsforsets/tool/ReplayCounts" "negatives" "J" (.long w4)) (F_falseNegatives_a1 : Fld Z h0 a1 "com/example/bits_for_sets/bitsforsets/tool/ReplayCounts" "falseNegatives" "J" (.long w6)) (hc13 : ¬ ((lcmpW (w2 - w4) (0 : Int64)) = (0 : Int32))) :
    MetFree l (⟨"com/example/bits_for_sets/bitsforsets/tool/ReplayCounts", "truePositiveRate", "()D"⟩ : MethodName) (head1 (Jvm.Cond.code (⟨"com/example/bits_for_sets/bitsforsets/tool/ReplayCounts", "truePositiveRate", "()D"⟩ : MethodName) prog_13_method_3_code 3 (some .double) :: ws) ({ frames := 0, cells := 0, slots := 0, locals := 0 } : Room)) (fun a U => a = #[(.ref a1)] ∧ Z.Warmed39 U.vm ∧ U.heap = h0) (fun _ _ _ _ _ => True) (fun _ U o U' => ∃ v L, o = .returned v ∧ QV Z (.double (FP.dsub FP.dconst1 (FP.ddiv (FP.l2d w6) (FP.l2d (w2 - w4))))) h0 n0 v U'.heap L ∧ FrameEnd U o U' L ({ frames := 0, cells := 0, slots := 0, locals := 0 } : Room).cells ({ frames := 0, cells := 0, slots := 0, locals := 0 } : Room).slots) := by
  refine MetFree.of_bodySF (plainFor_of_name pn_6) hisR ?_
  intro p e s m args below meth c s₁ Bd hml0 hP hK
  obtain ⟨rfl, hZ, hh⟩ := hP
  have hx := Bd.exec
  have hby := Bd.bytes
  have hml : c.maxLocals = 3 := hml0
  have hown : s.vm.findClass "com/example/bits_for_sets/bitsforsets/tool/ReplayCounts" = some m.cls := findClass_of_methodNamed Bd.named
  have hnm := (name_of_methodNamed Bd.named Bd.method).1
  have X0 : Stand p l e ({ frames := 0, cells := 0, slots := 0, locals := 0 } : Room) s m #[(.ref a1)] below meth c s₁ [] 0 0 := Stand.of_body Bd
  have e0 : s₁.heap = h0 := by rw [← hh, Bd.state]; rfl
  have N0 := Fr.nil n0
  have pre0 : ∀ t, Steps p.tables e below (s₁.setTop (mkF m 0 #[.val (.ref a1), .unset, .unset] [])) t → Steps p.tables e below (s₁.setTop (entryFrame m #[(.ref a1)] 3)) t := fun t k => castTop (ef_6 m a1) k
  have hnn28 : Jvm.Free.Fl.NoNaN64 (FP.ddiv (FP.l2d w6) (FP.l2d (w2 - w4))) := Jvm.Free.Fl.ddiv_out (Jvm.Free.Fl.l2d_fin _).noNaN (Jvm.Free.Fl.l2d_fin _) (Jvm.Free.Fl.l2d_nz (fun q => hc13 ((lw_eq _ _).mpr q)))
  have hnn29 : Jvm.Free.Fl.NoNaN64 (FP.dsub FP.dconst1 (FP.ddiv (FP.l2d w6) (FP.l2d (w2 - w4)))) := Jvm.Free.Fl.dsub_out' (by unfold Jvm.Free.Fl.Fin64; decide) hnn28
  obtain ⟨T3, X3, e3, st3⟩ := getF X0 hx hZ hown (host := "") (Or.inl (hw _ (List.mem_of_getElem? (i := 30) rfl))) Via.refl e0 F_queries_a1 (g := (mkF m 1 #[.val (.ref a1), .unset, .unset] [(.ref a1)])) rfl rfl (hb hby d6_1)
  obtain ⟨T5, X5, e5, st5⟩ := getF X3 hx hZ hown (host := "") (Or.inl (hw _ (List.mem_of_getElem? (i := 32) rfl))) Via.refl e3 F_negatives_a1 (g := (mkF m 5 #[.val (.ref a1), .unset, .unset] [(.ref a1), (.long w2)])) rfl rfl (hb hby d6_5)
  obtain ⟨T7, X7, e7, st7⟩ := getF X5 hx hZ hown (host := "") (Or.inl (hw _ (List.mem_of_getElem? (i := 36) rfl))) Via.refl e5 F_falseNegatives_a1 (g := (mkF m 22 #[.val (.ref a1), .val (.long (w2 - w4)), .second] [(.ref a1), (.double FP.dconst1)])) rfl rfl (hb hby d6_22)
  obtain ⟨fs, hr, hrun, hended, hW, hsame⟩ := X7.leave (v := some (.double (FP.dsub FP.dconst1 (FP.ddiv (FP.l2d w6) (FP.l2d (w2 - w4)))))) (fun h => by rw [Bd.returns] at h; cases h)
  refine ⟨_, _, pre0 _ ?_, hrun, hended, _, _, rfl, ?_, ⟨_, rfl⟩, hW, hsame.mono (by decide) (by decide)⟩
  · show Steps p.tables e below (s₁.setTop (mkF m 0 #[.val (.ref a1), .unset, .unset] [])) _
    refine XS.aloadN X0.here hx rfl (hb hby d6_0) rfl rfl ?_
    show Steps p.tables e below (s₁.setTop (mkF m 1 #[.val (.ref a1), .unset, .unset] [(.ref a1)])) _
    refine st3 _ ?_
    show Steps p.tables e below (T3.setTop (mkF m 4 #[.val (.ref a1), .unset, .unset] [(.long w2)])) _
    refine XS.aloadN X3.here hx rfl (hb hby d6_4) rfl rfl ?_
    show Steps p.tables e below (T3.setTop (mkF m 5 #[.val (.ref a1), .unset, .unset] [(.ref a1), (.long w2)])) _
    refine st5 _ ?_
    show Steps p.tables e below (T5.setTop (mkF m 8 #[.val (.ref a1), .unset, .unset] [(.long w4), (.long w2)])) _
    refine XS.lsub X5.here hx rfl (hb hby d6_8) rfl ?_
    show Steps p.tables e below (T5.setTop (mkF m 9 #[.val (.ref a1), .unset, .unset] [(.long (w2 - w4))])) _
    refine XS.lstoreN X5.here hx rfl (hb hby d6_9) rfl (l' := #[.val (.ref a1), .val (.long (w2 - w4)), .second]) rfl ?_
    show Steps p.tables e below (T5.setTop (mkF m 10 #[.val (.ref a1), .val (.long (w2 - w4)), .second] [])) _
    refine XS.lloadN X5.here hx rfl (hb hby d6_10) rfl ?_
    show Steps p.tables e below (T5.setTop (mkF m 11 #[.val (.ref a1), .val (.long (w2 - w4)), .second] [(.long (w2 - w4))])) _
    refine XS.lconst X5.here hx rfl (hb hby d6_11) ?_
    show Steps p.tables e below (T5.setTop (mkF m 12 #[.val (.ref a1), .val (.long (w2 - w4)), .second] [(.long (0 : Int64)), (.long (w2 - w4))])) _
    refine XS.lcmp X5.here hx rfl (hb hby d6_12) rfl ?_
    show Steps p.tables e below (T5.setTop (mkF m 13 #[.val (.ref a1), .val (.long (w2 - w4)), .second] [(.int (lcmpW (w2 - w4) (0 : Int64)))])) _
    refine XS.ifYes X5.here hx rfl (pc0 := 13) (pc' := 20) rfl (hb hby d6_13) rfl ((if0 _ _).trans (feq hc13).2) (by decide) (by decide) ?_
    show Steps p.tables e below (T5.setTop (mkF m 20 #[.val (.ref a1), .val (.long (w2 - w4)), .second] [])) _
    refine XS.dconst1 X5.here hx rfl (hb hby d6_20) rfl ?_
    show Steps p.tables e below (T5.setTop (mkF m 21 #[.val (.ref a1), .val (.long (w2 - w4)), .second] [(.double FP.dconst1)])) _
    refine XS.aloadN X5.here hx rfl (hb hby d6_21) rfl rfl ?_
    show Steps p.tables e below (T5.setTop (mkF m 22 #[.val (.ref a1), .val (.long (w2 - w4)), .second] [(.ref a1), (.double FP.dconst1)])) _
    refine st7 _ ?_
    show Steps p.tables e below (T7.setTop (mkF m 25 #[.val (.ref a1), .val (.long (w2 - w4)), .second] [(.long w6), (.double FP.dconst1)])) _
    refine XS.l2dS X7.here hx rfl (hb hby d6_25) rfl rfl ?_
    show Steps p.tables e below (T7.setTop (mkF m 26 #[.val (.ref a1), .val (.long (w2 - w4)), .second] [(.double (FP.l2d w6)), (.double FP.dconst1)])) _
    refine XS.lloadN X7.here hx rfl (hb hby d6_26) rfl ?_
    show Steps p.tables e below (T7.setTop (mkF m 27 #[.val (.ref a1), .val (.long (w2 - w4)), .second] [(.long (w2 - w4)), (.double (FP.l2d w6)), (.double FP.dconst1)])) _
    refine XS.l2dS X7.here hx rfl (hb hby d6_27) rfl rfl ?_
    show Steps p.tables e below (T7.setTop (mkF m 28 #[.val (.ref a1), .val (.long (w2 - w4)), .second] [(.double (FP.l2d (w2 - w4))), (.double (FP.l2d w6)), (.double FP.dconst1)])) _
    refine XS.ddivS X7.here hx rfl (hb hby d6_28) rfl hnn28 rfl ?_
    show Steps p.tables e below (T7.setTop (mkF m 29 #[.val (.ref a1), .val (.long (w2 - w4)), .second] [(.double (FP.ddiv (FP.l2d w6) (FP.l2d (w2 - w4)))), (.double FP.dconst1)])) _
    refine XS.dsubS X7.here hx rfl (hb hby d6_29) rfl hnn29 rfl ?_
    show Steps p.tables e below (T7.setTop (mkF m 30 #[.val (.ref a1), .val (.long (w2 - w4)), .second] [(.double (FP.dsub FP.dconst1 (FP.ddiv (FP.l2d w6) (FP.l2d (w2 - w4)))))])) _
    exact own_retD X7 hx Bd.returns (hb hby d6_30) hr
  · show QV Z (.double (FP.dsub FP.dconst1 (FP.ddiv (FP.l2d w6) (FP.l2d (w2 - w4))))) h0 n0 _ T7.heap _
    rw [e7]
    exact ⟨rfl, N0, rfl⟩
def own_f6 (w2 : Int64) (w4 : Int64) (w6 : Int64) : UInt64 := (if (lcmpW (w2 - w4) (0 : Int64)) = (0 : Int32) then FP.dconst1 else (FP.dsub FP.dconst1 (FP.ddiv (FP.l2d w6) (FP.l2d (w2 - w4)))))
set_option maxRecDepth 65536 in
set_option maxHeartbeats 40000000 in
theorem rm6 (l : Launch) (Z : State) (a0 : Array Value) (hw : ∀ d ∈ tables_1, d.before a0 Z = true) (ws : List Jvm.Cond) (a1 : Addr) (w2 : Int64) (w4 : Int64) (w6 : Int64) (h0 : Heap) (n0 : Nat) (Z0 : n0 ≤ h0.size) (F_queries_a1 : Fld Z h0 a1 "com/example/bits_for_sets/bitsforsets/tool/ReplayCounts" "queries" "J" (.long w2)) (F_negatives_a1 : Fld Z h0 a1 "com/example/bits_for_sets/bitsforsets/tool/ReplayCounts" "negatives" "J" (.long w4)) (F_falseNegatives_a1 : Fld Z h0 a1 "com/example/bits_for_sets/bitsforsets/tool/ReplayCounts" "falseNegatives" "J" (.long w6)) :
    MetFree l (⟨"com/example/bits_for_sets/bitsforsets/tool/ReplayCounts", "truePositiveRate", "()D"⟩ : MethodName) (head1 (Jvm.Cond.code (⟨"com/example/bits_for_sets/bitsforsets/tool/ReplayCounts", "truePositiveRate", "()D"⟩ : MethodName) prog_13_method_3_code 3 (some .double) :: ws) ({ frames := 0, cells := 0, slots := 0, locals := 0 } : Room)) (fun a U => a = #[(.ref a1)] ∧ Z.Warmed39 U.vm ∧ U.heap = h0) (fun _ _ _ _ _ => True) (fun _ U o U' => ∃ v L, o = .returned v ∧ QV Z (.double (own_f6 w2 w4 w6)) h0 n0 v U'.heap L ∧ FrameEnd U o U' L ({ frames := 0, cells := 0, slots := 0, locals := 0 } : Room).cells ({ frames := 0, cells := 0, slots := 0, locals := 0 } : Room).slots) := by
  unfold own_f6
  by_cases hc13 : (lcmpW (w2 - w4) (0 : Int64)) = (0 : Int32)
  · rw [if_pos hc13]
    exact rm6_f l Z a0 hw ws a1 w2 w4 h0 n0 Z0 F_queries_a1 F_negatives_a1 hc13
  · rw [if_neg hc13]
    exact rm6_t l Z a0 hw ws a1 w2 w4 w6 h0 n0 Z0 F_queries_a1 F_negatives_a1 F_falseNegatives_a1 hc13
theorem d2_0 : decode method_2_code 0 = .ok (.new 7, 3) := by decide +kernel
theorem d2_3 : decode method_2_code 3 = .ok (.dup, 1) := by decide +kernel
theorem d2_4 : decode method_2_code 4 = .ok (.lload 6, 2) := by decide +kernel
theorem d2_6 : decode method_2_code 6 = .ok (.lload 6, 2) := by decide +kernel
theorem d2_8 : decode method_2_code 8 = .ok (.ldc2_w 9, 3) := by decide +kernel
theorem d2_11 : decode method_2_code 11 = .ok (.lxor, 1) := by decide +kernel
theorem d2_12 : decode method_2_code 12 = .ok (.lload_n 0, 1) := by decide +kernel
theorem d2_13 : decode method_2_code 13 = .ok (.lload_n 2, 1) := by decide +kernel
theorem d2_14 : decode method_2_code 14 = .ok (.ladd, 1) := by decide +kernel
theorem d2_15 : decode method_2_code 15 = .ok (.lload_n 0, 1) := by decide +kernel
theorem d2_16 : decode method_2_code 16 = .ok (.lload 6, 2) := by decide +kernel
theorem d2_18 : decode method_2_code 18 = .ok (.lload 4, 2) := by decide +kernel
theorem d2_20 : decode method_2_code 20 = .ok (.lxor, 1) := by decide +kernel
theorem d2_21 : decode method_2_code 21 = .ok (.lload 4, 2) := by decide +kernel
theorem d2_23 : decode method_2_code 23 = .ok (.aconst_null, 1) := by decide +kernel
theorem d2_24 : decode method_2_code 24 = .ok (.aconst_null, 1) := by decide +kernel
theorem d2_25 : decode method_2_code 25 = .ok (.invokespecial 11, 3) := by decide +kernel
theorem d2_28 : decode method_2_code 28 = .ok (.astore 8, 2) := by decide +kernel
theorem d2_30 : decode method_2_code 30 = .ok (.aload 8, 2) := by decide +kernel
theorem d2_32 : decode method_2_code 32 = .ok (.invokevirtual 14, 3) := by decide +kernel
theorem d2_35 : decode method_2_code 35 = .ok (.dreturn, 1) := by decide +kernel
theorem pn_2 : plainName "com/example/bits_for_sets/bitsforsets/tool/ReplayCountsTruePositiveRatePinLaw" = true := by first | (simp [plainName, overriddenIn]; done) | decide +kernel
theorem pd_2_2 : parseMethodDescriptor "(JJJJJJLjava/util/Optional;Ljava/util/Optional;)V" = some ⟨[.long, .long, .long, .long, .long, .long, (.object "java/util/Optional"), (.object "java/util/Optional")], none⟩ := by decide +kernel
theorem pd_2_4 : parseMethodDescriptor "()D" = some ⟨[], some .double⟩ := by decide +kernel
theorem ef_2 (m : MethodId) (x0 : Int64) (x1 : Int64) (x2 : Int64) (x3 : Int64) : entryFrame m #[(.long x0), (.long x1), (.long x2), (.long x3)] 9 = mkF m 0 #[.val (.long x0), .second, .val (.long x1), .second, .val (.long x2), .second, .val (.long x3), .second, .unset] [] := by first | (simp [entryFrame, mkF, argsToLocals, Value.category]; done) | rfl
def Q2 (Z : State) (q1 : Int64) (q2 : Int64) (q3 : Int64) (q4 : Int64) (h0 : Heap) (n0 : Nat) (v : Option Value) (h : Heap) (L : List Loc) : Prop := v = some (.double (own_f6 (q1 + q2) q1 q3)) ∧ Fr n0 L ∧ Keep h0 h []
set_option maxRecDepth 65536 in
set_option maxHeartbeats 40000000 in
theorem rm2 (l : Launch) (Z : State) (a0 : Array Value) (hw : ∀ d ∈ tables_1, d.before a0 Z = true) (ws : List Jvm.Cond) (q1 : Int64) (q2 : Int64) (q3 : Int64) (q4 : Int64) (h0 : Heap) (n0 : Nat) (Z0 : n0 ≤ h0.size) :
    MetFree l (⟨"com/example/bits_for_sets/bitsforsets/tool/ReplayCountsTruePositiveRatePinLaw", "tpr", "(JJJJ)D"⟩ : MethodName) (head1 (Jvm.Cond.code (⟨"com/example/bits_for_sets/bitsforsets/tool/ReplayCountsTruePositiveRatePinLaw", "tpr", "(JJJJ)D"⟩ : MethodName) method_2_code 9 (some .double) :: ws) ({ frames := 3, cells := 1, slots := 8, locals := 51 } : Room)) (fun a U => a = #[(.long q1), (.long q2), (.long q3), (.long q4)] ∧ Z.Warmed39 U.vm ∧ U.heap = h0) (fun _ _ _ _ _ => True) (fun _ U o U' => ∃ v L, o = .returned v ∧ Q2 Z q1 q2 q3 q4 h0 n0 v U'.heap L ∧ FrameEnd U o U' L ({ frames := 3, cells := 1, slots := 8, locals := 51 } : Room).cells ({ frames := 3, cells := 1, slots := 8, locals := 51 } : Room).slots) := by
  refine MetFree.of_bodySF (plainFor_of_name pn_2) hisR ?_
  intro p e s m args below meth c s₁ Bd hml0 hP hK
  obtain ⟨rfl, hZ, hh⟩ := hP
  have hx := Bd.exec
  have hby := Bd.bytes
  have hml : c.maxLocals = 9 := hml0
  have hown : s.vm.findClass "com/example/bits_for_sets/bitsforsets/tool/ReplayCountsTruePositiveRatePinLaw" = some m.cls := findClass_of_methodNamed Bd.named
  have hnm := (name_of_methodNamed Bd.named Bd.method).1
  have X0 : Stand p l e ({ frames := 3, cells := 1, slots := 8, locals := 51 } : Room) s m #[(.long q1), (.long q2), (.long q3), (.long q4)] below meth c s₁ [] 0 0 := Stand.of_body Bd
  have e0 : s₁.heap = h0 := by rw [← hh, Bd.state]; rfl
  have N0 := Fr.nil n0
  have pre0 : ∀ t, Steps p.tables e below (s₁.setTop (mkF m 0 #[.val (.long q1), .second, .val (.long q2), .second, .val (.long q3), .second, .val (.long q4), .second, .unset] [])) t → Steps p.tables e below (s₁.setTop (entryFrame m #[(.long q1), (.long q2), (.long q3), (.long q4)] 9)) t := fun t k => castTop (ef_2 m q1 q2 q3 q4) k
  obtain ⟨T5, h5, X5, e5, E5, A5, D5, -, st5⟩ := newO X0 hx hZ hown (hw _ (List.mem_of_getElem? (i := 11) rfl)) (hw _ (List.mem_of_getElem? (i := 12) rfl)) (hw _ (List.mem_of_getElem? (i := 13) rfl)) e0 (g := (mkF m 0 #[.val (.long q1), .second, .val (.long q2), .second, .val (.long q3), .second, .val (.long q4), .second, .unset] [])) rfl (hb hby d2_0) (by decide) (by decide)
  obtain ⟨b5, g5⟩ : ∃ z, z = h0.size := ⟨_, rfl⟩
  rw [← g5] at A5 D5 st5
  have F_inserted_b5 : Fld Z h5 b5 "com/example/bits_for_sets/bitsforsets/tool/ReplayCounts" "inserted" "J" (.long (0 : Int64)) := D5 (Or.inr (hw _ (List.mem_of_getElem? (i := 27) rfl))) (ty := .long) (by decide)
  have F_held_b5 : Fld Z h5 b5 "com/example/bits_for_sets/bitsforsets/tool/ReplayCounts" "held" "J" (.long (0 : Int64)) := D5 (Or.inr (hw _ (List.mem_of_getElem? (i := 29) rfl))) (ty := .long) (by decide)
  have F_queries_b5 : Fld Z h5 b5 "com/example/bits_for_sets/bitsforsets/tool/ReplayCounts" "queries" "J" (.long (0 : Int64)) := D5 (Or.inr (hw _ (List.mem_of_getElem? (i := 31) rfl))) (ty := .long) (by decide)
  have F_negatives_b5 : Fld Z h5 b5 "com/example/bits_for_sets/bitsforsets/tool/ReplayCounts" "negatives" "J" (.long (0 : Int64)) := D5 (Or.inr (hw _ (List.mem_of_getElem? (i := 33) rfl))) (ty := .long) (by decide)
  have F_falsePositives_b5 : Fld Z h5 b5 "com/example/bits_for_sets/bitsforsets/tool/ReplayCounts" "falsePositives" "J" (.long (0 : Int64)) := D5 (Or.inr (hw _ (List.mem_of_getElem? (i := 35) rfl))) (ty := .long) (by decide)
  have F_falseNegatives_b5 : Fld Z h5 b5 "com/example/bits_for_sets/bitsforsets/tool/ReplayCounts" "falseNegatives" "J" (.long (0 : Int64)) := D5 (Or.inr (hw _ (List.mem_of_getElem? (i := 37) rfl))) (ty := .long) (by decide)
  have F_deletions_b5 : Fld Z h5 b5 "com/example/bits_for_sets/bitsforsets/tool/ReplayCounts" "deletions" "Ljava/util/Optional;" .null := D5 (Or.inr (hw _ (List.mem_of_getElem? (i := 39) rfl))) (ty := (.object "java/util/Optional")) (by decide)
  have F_adaptations_b5 : Fld Z h5 b5 "com/example/bits_for_sets/bitsforsets/tool/ReplayCounts" "adaptations" "Ljava/util/Optional;" .null := D5 (Or.inr (hw _ (List.mem_of_getElem? (i := 41) rfl))) (ty := (.object "java/util/Optional")) (by decide)
  have E_b5 := A5
  have g_b5 : n0 ≤ b5 := Nat.le_trans Z0 (Nat.le_of_eq g5.symm)
  have sz_b5 : h0.size ≤ b5 := (Nat.le_trans (Keep.refl h0 []).1 (Nat.le_of_eq g5.symm))
  have K5 : Keep h0 h5 [] := (Keep.refl h0 []).ext E5
  obtain ⟨_, _, ⟨T6, L6, k6, n6⟩, -, X6, ⟨Lc6, hQ6, l6, y6, z6⟩, st6⟩ := X5.specialBack hx (y := (⟨"com/example/bits_for_sets/bitsforsets/tool/ReplayCounts", "<init>", "(JJJJJJLjava/util/Optional;Ljava/util/Optional;)V"⟩ : MethodName)) rfl hown (mvT hZ (hw _ (List.mem_of_getElem? (i := 15) rfl))) (mvT hZ (hw _ (List.mem_of_getElem? (i := 16) rfl))) (mvT hZ (hw _ (List.mem_of_getElem? (i := 17) rfl))) (by decide) (backOf (W := 1) (rm3 l Z a0 hw [] b5 q4 (q4 ^^^ (-1 : Int64)) (q1 + q2) q1 (q4 ^^^ q3) q3 (.long (0 : Int64)) (.long (0 : Int64)) (.long (0 : Int64)) (.long (0 : Int64)) (.long (0 : Int64)) (.long (0 : Int64)) .null .null h5 n0 (Nat.le_trans Z0 E5.1) E_b5 F_inserted_b5 g_b5 F_held_b5 F_queries_b5 F_negatives_b5 F_falsePositives_b5 F_falseNegatives_b5 F_deletions_b5 F_adaptations_b5) hZ (hw _ (List.mem_of_getElem? (i := 17) rfl)) (hw _ (List.mem_of_getElem? (i := 13) rfl)) (by decide) (by decide)) (g := (mkF m 25 #[.val (.long q1), .second, .val (.long q2), .second, .val (.long q3), .second, .val (.long q4), .second, .unset] [.null, .null, (.long q3), (.long (q4 ^^^ q3)), (.long q1), (.long (q1 + q2)), (.long (q4 ^^^ (-1 : Int64))), (.long q4), (.ref b5), (.ref b5)])) rfl (by rw [hml]; rfl) (Steps.refl _) (a := b5) (argsL := [(.long q4), (.long (q4 ^^^ (-1 : Int64))), (.long (q1 + q2)), (.long q1), (.long (q4 ^^^ q3)), (.long q3), .null, .null]) (rest := [(.ref b5)]) (lenOf pd_2_2 rfl) rfl (by show 2 * 0 + _ ≤ _; exact Nat.le_of_eq rfl) (hb hby d2_25) (fun _ _ => ⟨rfl, e5, (by decide : 1 + 0 ≤ _), (by decide : 8 + 0 ≤ _)⟩)
  dsimp only [Pt.U, Pt.locs, Pt.cells, Pt.slots] at X6 l6 y6 z6 st6 hQ6
  subst l6 y6 z6
  obtain ⟨rfl, N6q, K6, gE6, gF_inserted_6, gF_held_6, gF_queries_6, gF_negatives_6, gF_falsePositives_6, gF_falseNegatives_6, gF_deletions_6, gF_adaptations_6⟩ := hQ6
  have N6 := Fr.app N0 N6q
  have KC6 : Keep h0 T6.heap [] := K5.trans K6 (fun x hx => by cases List.mem_singleton.mp hx; exact Or.inr sz_b5)
  obtain ⟨cq7, kq7, q7a, q7b, q7c⟩ := isOf hZ rfl gE6
  obtain ⟨_, _, ⟨T7, L7, k7, n7⟩, -, X7, ⟨Lc7, hQ7, l7, y7, z7⟩, st7⟩ := X6.virtualBack hx (y := (⟨"com/example/bits_for_sets/bitsforsets/tool/ReplayCounts", "truePositiveRate", "()D"⟩ : MethodName)) (z := (⟨"com/example/bits_for_sets/bitsforsets/tool/ReplayCounts", "truePositiveRate", "()D"⟩ : MethodName)) hown (mvT hZ (hw _ (List.mem_of_getElem? (i := 42) rfl))) (mvT hZ (hw _ (List.mem_of_getElem? (i := 43) rfl))) (notFace_of_selects (args := #[]) (mvT hZ (hw _ (List.mem_of_getElem? (i := 45) rfl)))) (mvT hZ (hw _ (List.mem_of_getElem? (i := 45) rfl))) (mvT hZ (hw _ (List.mem_of_getElem? (i := 44) rfl))) (by decide) (backOf (W := 0) (rm6 l Z a0 hw [] b5 (q1 + q2) q1 q3 T6.heap n0 (Nat.le_trans (Nat.le_trans Z0 E5.1) K6.1) gF_queries_6 gF_negatives_6 gF_falseNegatives_6) hZ (hw _ (List.mem_of_getElem? (i := 46) rfl)) (hw _ (List.mem_of_getElem? (i := 13) rfl)) (by decide) (by decide)) q7a q7c (g := (mkF m 32 #[.val (.long q1), .second, .val (.long q2), .second, .val (.long q3), .second, .val (.long q4), .second, .val (.ref b5)] [(.ref b5)])) rfl (by rw [hml]; rfl) (Steps.refl _) (argsL := []) (rest := []) (lenOf pd_2_4 rfl) rfl (by show 2 * 0 + _ ≤ _; exact Nat.le_of_eq rfl) (hb hby d2_32) (fun _ _ => ⟨rfl, rfl, (by decide : 1 + 0 ≤ _), (by decide : 8 + 0 ≤ _)⟩)
  dsimp only [Pt.U, Pt.locs, Pt.cells, Pt.slots] at X7 l7 y7 z7 st7 hQ7
  subst l7 y7 z7
  obtain ⟨rfl, N7q, e7⟩ := hQ7
  have N7 := Fr.app N6 N7q
  obtain ⟨fs, hr, hrun, hended, hW, hsame⟩ := X7.leave (v := some (.double (own_f6 (q1 + q2) q1 q3))) (fun h => by rw [Bd.returns] at h; cases h)
  refine ⟨_, _, pre0 _ ?_, hrun, hended, _, _, rfl, ?_, ⟨_, rfl⟩, hW, hsame.mono (by decide) (by decide)⟩
  · show Steps p.tables e below (s₁.setTop (mkF m 0 #[.val (.long q1), .second, .val (.long q2), .second, .val (.long q3), .second, .val (.long q4), .second, .unset] [])) _
    refine st5 _ ?_
    show Steps p.tables e below (T5.setTop (mkF m 3 #[.val (.long q1), .second, .val (.long q2), .second, .val (.long q3), .second, .val (.long q4), .second, .unset] [(.ref b5)])) _
    refine XS.dup X5.here hx rfl (hb hby d2_3) rfl rfl ?_
    show Steps p.tables e below (T5.setTop (mkF m 4 #[.val (.long q1), .second, .val (.long q2), .second, .val (.long q3), .second, .val (.long q4), .second, .unset] [(.ref b5), (.ref b5)])) _
    refine XS.lload X5.here hx rfl (hb hby d2_4) rfl ?_
    show Steps p.tables e below (T5.setTop (mkF m 6 #[.val (.long q1), .second, .val (.long q2), .second, .val (.long q3), .second, .val (.long q4), .second, .unset] [(.long q4), (.ref b5), (.ref b5)])) _
    refine XS.lload X5.here hx rfl (hb hby d2_6) rfl ?_
    show Steps p.tables e below (T5.setTop (mkF m 8 #[.val (.long q1), .second, .val (.long q2), .second, .val (.long q3), .second, .val (.long q4), .second, .unset] [(.long q4), (.long q4), (.ref b5), (.ref b5)])) _
    refine X5.ldc2Long hx hown (mvT hZ (hw _ (List.mem_of_getElem? (i := 14) rfl))) (g := (mkF m 8 #[.val (.long q1), .second, .val (.long q2), .second, .val (.long q3), .second, .val (.long q4), .second, .unset] [(.long q4), (.long q4), (.ref b5), (.ref b5)])) rfl (hb hby d2_8) _ ?_
    show Steps p.tables e below (T5.setTop (mkF m 11 #[.val (.long q1), .second, .val (.long q2), .second, .val (.long q3), .second, .val (.long q4), .second, .unset] [(.long (-1 : Int64)), (.long q4), (.long q4), (.ref b5), (.ref b5)])) _
    refine XS.lxor X5.here hx rfl (hb hby d2_11) rfl ?_
    show Steps p.tables e below (T5.setTop (mkF m 12 #[.val (.long q1), .second, .val (.long q2), .second, .val (.long q3), .second, .val (.long q4), .second, .unset] [(.long (q4 ^^^ (-1 : Int64))), (.long q4), (.ref b5), (.ref b5)])) _
    refine XS.lloadN X5.here hx rfl (hb hby d2_12) rfl ?_
    show Steps p.tables e below (T5.setTop (mkF m 13 #[.val (.long q1), .second, .val (.long q2), .second, .val (.long q3), .second, .val (.long q4), .second, .unset] [(.long q1), (.long (q4 ^^^ (-1 : Int64))), (.long q4), (.ref b5), (.ref b5)])) _
    refine XS.lloadN X5.here hx rfl (hb hby d2_13) rfl ?_
    show Steps p.tables e below (T5.setTop (mkF m 14 #[.val (.long q1), .second, .val (.long q2), .second, .val (.long q3), .second, .val (.long q4), .second, .unset] [(.long q2), (.long q1), (.long (q4 ^^^ (-1 : Int64))), (.long q4), (.ref b5), (.ref b5)])) _
    refine XS.ladd X5.here hx rfl (hb hby d2_14) rfl ?_
    show Steps p.tables e below (T5.setTop (mkF m 15 #[.val (.long q1), .second, .val (.long q2), .second, .val (.long q3), .second, .val (.long q4), .second, .unset] [(.long (q1 + q2)), (.long (q4 ^^^ (-1 : Int64))), (.long q4), (.ref b5), (.ref b5)])) _
    refine XS.lloadN X5.here hx rfl (hb hby d2_15) rfl ?_
    show Steps p.tables e below (T5.setTop (mkF m 16 #[.val (.long q1), .second, .val (.long q2), .second, .val (.long q3), .second, .val (.long q4), .second, .unset] [(.long q1), (.long (q1 + q2)), (.long (q4 ^^^ (-1 : Int64))), (.long q4), (.ref b5), (.ref b5)])) _
    refine XS.lload X5.here hx rfl (hb hby d2_16) rfl ?_
    show Steps p.tables e below (T5.setTop (mkF m 18 #[.val (.long q1), .second, .val (.long q2), .second, .val (.long q3), .second, .val (.long q4), .second, .unset] [(.long q4), (.long q1), (.long (q1 + q2)), (.long (q4 ^^^ (-1 : Int64))), (.long q4), (.ref b5), (.ref b5)])) _
    refine XS.lload X5.here hx rfl (hb hby d2_18) rfl ?_
    show Steps p.tables e below (T5.setTop (mkF m 20 #[.val (.long q1), .second, .val (.long q2), .second, .val (.long q3), .second, .val (.long q4), .second, .unset] [(.long q3), (.long q4), (.long q1), (.long (q1 + q2)), (.long (q4 ^^^ (-1 : Int64))), (.long q4), (.ref b5), (.ref b5)])) _
    refine XS.lxor X5.here hx rfl (hb hby d2_20) rfl ?_
    show Steps p.tables e below (T5.setTop (mkF m 21 #[.val (.long q1), .second, .val (.long q2), .second, .val (.long q3), .second, .val (.long q4), .second, .unset] [(.long (q4 ^^^ q3)), (.long q1), (.long (q1 + q2)), (.long (q4 ^^^ (-1 : Int64))), (.long q4), (.ref b5), (.ref b5)])) _
    refine XS.lload X5.here hx rfl (hb hby d2_21) rfl ?_
    show Steps p.tables e below (T5.setTop (mkF m 23 #[.val (.long q1), .second, .val (.long q2), .second, .val (.long q3), .second, .val (.long q4), .second, .unset] [(.long q3), (.long (q4 ^^^ q3)), (.long q1), (.long (q1 + q2)), (.long (q4 ^^^ (-1 : Int64))), (.long q4), (.ref b5), (.ref b5)])) _
    refine XS.aconstNull X5.here hx rfl (hb hby d2_23) ?_
    show Steps p.tables e below (T5.setTop (mkF m 24 #[.val (.long q1), .second, .val (.long q2), .second, .val (.long q3), .second, .val (.long q4), .second, .unset] [.null, (.long q3), (.long (q4 ^^^ q3)), (.long q1), (.long (q1 + q2)), (.long (q4 ^^^ (-1 : Int64))), (.long q4), (.ref b5), (.ref b5)])) _
    refine XS.aconstNull X5.here hx rfl (hb hby d2_24) ?_
    show Steps p.tables e below (T5.setTop (mkF m 25 #[.val (.long q1), .second, .val (.long q2), .second, .val (.long q3), .second, .val (.long q4), .second, .unset] [.null, .null, (.long q3), (.long (q4 ^^^ q3)), (.long q1), (.long (q1 + q2)), (.long (q4 ^^^ (-1 : Int64))), (.long q4), (.ref b5), (.ref b5)])) _
    refine st6.trans ?_
    show Steps p.tables e below (T6.setTop (mkF m 28 #[.val (.long q1), .second, .val (.long q2), .second, .val (.long q3), .second, .val (.long q4), .second, .unset] [(.ref b5)])) _
    refine XS.astore X6.here hx rfl (hb hby d2_28) rfl rfl (l' := #[.val (.long q1), .second, .val (.long q2), .second, .val (.long q3), .second, .val (.long q4), .second, .val (.ref b5)]) rfl ?_
    show Steps p.tables e below (T6.setTop (mkF m 30 #[.val (.long q1), .second, .val (.long q2), .second, .val (.long q3), .second, .val (.long q4), .second, .val (.ref b5)] [])) _
    refine XS.aload X6.here hx rfl (hb hby d2_30) rfl rfl ?_
    show Steps p.tables e below (T6.setTop (mkF m 32 #[.val (.long q1), .second, .val (.long q2), .second, .val (.long q3), .second, .val (.long q4), .second, .val (.ref b5)] [(.ref b5)])) _
    refine st7.trans ?_
    show Steps p.tables e below (T7.setTop (mkF m 35 #[.val (.long q1), .second, .val (.long q2), .second, .val (.long q3), .second, .val (.long q4), .second, .val (.ref b5)] [(.double (own_f6 (q1 + q2) q1 q3))])) _
    exact own_retD X7 hx Bd.returns (hb hby d2_35) hr
  · show Q2 Z q1 q2 q3 q4 h0 n0 _ T7.heap _
    rw [e7]
    exact ⟨rfl, N7, KC6⟩
theorem d1_0 : decode jdk_29_method_70_code 0 = .ok (.lload_n 0, 1) := by decide +kernel
theorem d1_1 : decode jdk_29_method_70_code 1 = .ok (.lload_n 2, 1) := by decide +kernel
theorem d1_2 : decode jdk_29_method_70_code 2 = .ok (.lcmp, 1) := by decide +kernel
theorem d1_3 : decode jdk_29_method_70_code 3 = .ok (.ifCond .gt 7, 3) := by decide +kernel
theorem d1_6 : decode jdk_29_method_70_code 6 = .ok (.lload_n 0, 1) := by decide +kernel
theorem d1_7 : decode jdk_29_method_70_code 7 = .ok (.goto 4, 3) := by decide +kernel
theorem d1_11 : decode jdk_29_method_70_code 11 = .ok (.lreturn, 1) := by decide +kernel
theorem ef_1 (m : MethodId) (x0 : Int64) (x1 : Int64) : entryFrame m #[(.long x0), (.long x1)] 4 = mkF m 0 #[.val (.long x0), .second, .val (.long x1), .second] [] := by first | (simp [entryFrame, mkF, argsToLocals, Value.category]; done) | rfl
set_option maxRecDepth 65536 in
set_option maxHeartbeats 40000000 in
theorem rm1_f (l : Launch) (Z : State) (a0 : Array Value) (hw : ∀ d ∈ tables_1, d.before a0 Z = true) (ws : List Jvm.Cond) (q1 : Int64) (q2 : Int64) (h0 : Heap) (n0 : Nat) (Z0 : n0 ≤ h0.size) (hc3 : ¬ ((0 : Int32) < (lcmpW q1 q2))) :
    MetFree l (⟨"java/lang/Math", "min", "(JJ)J"⟩ : MethodName) (head1 (Jvm.Cond.code (⟨"java/lang/Math", "min", "(JJ)J"⟩ : MethodName) jdk_29_method_70_code 4 (some .long) :: ws) ({ frames := 0, cells := 0, slots := 0, locals := 0 } : Room)) (fun a U => a = #[(.long q1), (.long q2)] ∧ Z.Warmed39 U.vm ∧ U.heap = h0) (fun _ _ _ _ _ => True) (fun _ U o U' => ∃ v L, o = .returned v ∧ QV Z (.long q1) h0 n0 v U'.heap L ∧ FrameEnd U o U' L ({ frames := 0, cells := 0, slots := 0, locals := 0 } : Room).cells ({ frames := 0, cells := 0, slots := 0, locals := 0 } : Room).slots) := by
  refine MetFree.of_bodySF (Jvm.Free.JP.mathPlain rfl (by decide +kernel)) hisR ?_
  intro p e s m args below meth c s₁ Bd hml0 hP hK
  obtain ⟨rfl, hZ, hh⟩ := hP
  have hx := Bd.exec
  have hby := Bd.bytes
  have hml : c.maxLocals = 4 := hml0
  have hown : s.vm.findClass "java/lang/Math" = some m.cls := findClass_of_methodNamed Bd.named
  have hnm := (name_of_methodNamed Bd.named Bd.method).1
  have X0 : Stand p l e ({ frames := 0, cells := 0, slots := 0, locals := 0 } : Room) s m #[(.long q1), (.long q2)] below meth c s₁ [] 0 0 := Stand.of_body Bd
  have e0 : s₁.heap = h0 := by rw [← hh, Bd.state]; rfl
  have N0 := Fr.nil n0
  have pre0 : ∀ t, Steps p.tables e below (s₁.setTop (mkF m 0 #[.val (.long q1), .second, .val (.long q2), .second] [])) t → Steps p.tables e below (s₁.setTop (entryFrame m #[(.long q1), (.long q2)] 4)) t := fun t k => castTop (ef_1 m q1 q2) k
  obtain ⟨fs, hr, hrun, hended, hW, hsame⟩ := X0.leave (v := some (.long q1)) (fun h => by rw [Bd.returns] at h; cases h)
  refine ⟨_, _, pre0 _ ?_, hrun, hended, _, _, rfl, ?_, ⟨_, rfl⟩, hW, hsame.mono (by decide) (by decide)⟩
  · show Steps p.tables e below (s₁.setTop (mkF m 0 #[.val (.long q1), .second, .val (.long q2), .second] [])) _
    refine XS.lloadN X0.here hx rfl (hb hby d1_0) rfl ?_
    show Steps p.tables e below (s₁.setTop (mkF m 1 #[.val (.long q1), .second, .val (.long q2), .second] [(.long q1)])) _
    refine XS.lloadN X0.here hx rfl (hb hby d1_1) rfl ?_
    show Steps p.tables e below (s₁.setTop (mkF m 2 #[.val (.long q1), .second, .val (.long q2), .second] [(.long q2), (.long q1)])) _
    refine XS.lcmp X0.here hx rfl (hb hby d1_2) rfl ?_
    show Steps p.tables e below (s₁.setTop (mkF m 3 #[.val (.long q1), .second, .val (.long q2), .second] [(.int (lcmpW q1 q2))])) _
    refine XS.ifNo X0.here hx rfl (hb hby d1_3) rfl ((if0 _ _).trans (flt hc3).2.2.1) ?_
    show Steps p.tables e below (s₁.setTop (mkF m 6 #[.val (.long q1), .second, .val (.long q2), .second] [])) _
    refine XS.lloadN X0.here hx rfl (hb hby d1_6) rfl ?_
    show Steps p.tables e below (s₁.setTop (mkF m 7 #[.val (.long q1), .second, .val (.long q2), .second] [(.long q1)])) _
    refine XS.goto X0.here hx rfl (pc0 := 7) (pc' := 11) rfl (hb hby d1_7) (by decide) (by decide) ?_
    show Steps p.tables e below (s₁.setTop (mkF m 11 #[.val (.long q1), .second, .val (.long q2), .second] [(.long q1)])) _
    exact X0.lreturnOut hx Bd.returns (hb hby d1_11) hr
  · show QV Z (.long q1) h0 n0 _ s₁.heap _
    rw [e0]
    exact ⟨rfl, N0, rfl⟩
theorem d1_10 : decode jdk_29_method_70_code 10 = .ok (.lload_n 2, 1) := by decide +kernel
set_option maxRecDepth 65536 in
set_option maxHeartbeats 40000000 in
theorem rm1_t (l : Launch) (Z : State) (a0 : Array Value) (hw : ∀ d ∈ tables_1, d.before a0 Z = true) (ws : List Jvm.Cond) (q1 : Int64) (q2 : Int64) (h0 : Heap) (n0 : Nat) (Z0 : n0 ≤ h0.size) (hc3 : (0 : Int32) < (lcmpW q1 q2)) :
    MetFree l (⟨"java/lang/Math", "min", "(JJ)J"⟩ : MethodName) (head1 (Jvm.Cond.code (⟨"java/lang/Math", "min", "(JJ)J"⟩ : MethodName) jdk_29_method_70_code 4 (some .long) :: ws) ({ frames := 0, cells := 0, slots := 0, locals := 0 } : Room)) (fun a U => a = #[(.long q1), (.long q2)] ∧ Z.Warmed39 U.vm ∧ U.heap = h0) (fun _ _ _ _ _ => True) (fun _ U o U' => ∃ v L, o = .returned v ∧ QV Z (.long q2) h0 n0 v U'.heap L ∧ FrameEnd U o U' L ({ frames := 0, cells := 0, slots := 0, locals := 0 } : Room).cells ({ frames := 0, cells := 0, slots := 0, locals := 0 } : Room).slots) := by
  refine MetFree.of_bodySF (Jvm.Free.JP.mathPlain rfl (by decide +kernel)) hisR ?_
  intro p e s m args below meth c s₁ Bd hml0 hP hK
  obtain ⟨rfl, hZ, hh⟩ := hP
  have hx := Bd.exec
  have hby := Bd.bytes
  have hml : c.maxLocals = 4 := hml0
  have hown : s.vm.findClass "java/lang/Math" = some m.cls := findClass_of_methodNamed Bd.named
  have hnm := (name_of_methodNamed Bd.named Bd.method).1
  have X0 : Stand p l e ({ frames := 0, cells := 0, slots := 0, locals := 0 } : Room) s m #[(.long q1), (.long q2)] below meth c s₁ [] 0 0 := Stand.of_body Bd
  have e0 : s₁.heap = h0 := by rw [← hh, Bd.state]; rfl
  have N0 := Fr.nil n0
  have pre0 : ∀ t, Steps p.tables e below (s₁.setTop (mkF m 0 #[.val (.long q1), .second, .val (.long q2), .second] [])) t → Steps p.tables e below (s₁.setTop (entryFrame m #[(.long q1), (.long q2)] 4)) t := fun t k => castTop (ef_1 m q1 q2) k
  obtain ⟨fs, hr, hrun, hended, hW, hsame⟩ := X0.leave (v := some (.long q2)) (fun h => by rw [Bd.returns] at h; cases h)
  refine ⟨_, _, pre0 _ ?_, hrun, hended, _, _, rfl, ?_, ⟨_, rfl⟩, hW, hsame.mono (by decide) (by decide)⟩
  · show Steps p.tables e below (s₁.setTop (mkF m 0 #[.val (.long q1), .second, .val (.long q2), .second] [])) _
    refine XS.lloadN X0.here hx rfl (hb hby d1_0) rfl ?_
    show Steps p.tables e below (s₁.setTop (mkF m 1 #[.val (.long q1), .second, .val (.long q2), .second] [(.long q1)])) _
    refine XS.lloadN X0.here hx rfl (hb hby d1_1) rfl ?_
    show Steps p.tables e below (s₁.setTop (mkF m 2 #[.val (.long q1), .second, .val (.long q2), .second] [(.long q2), (.long q1)])) _
    refine XS.lcmp X0.here hx rfl (hb hby d1_2) rfl ?_
    show Steps p.tables e below (s₁.setTop (mkF m 3 #[.val (.long q1), .second, .val (.long q2), .second] [(.int (lcmpW q1 q2))])) _
    refine XS.ifYes X0.here hx rfl (pc0 := 3) (pc' := 10) rfl (hb hby d1_3) rfl ((if0 _ _).trans (tlt hc3).2.2.1) (by decide) (by decide) ?_
    show Steps p.tables e below (s₁.setTop (mkF m 10 #[.val (.long q1), .second, .val (.long q2), .second] [])) _
    refine XS.lloadN X0.here hx rfl (hb hby d1_10) rfl ?_
    show Steps p.tables e below (s₁.setTop (mkF m 11 #[.val (.long q1), .second, .val (.long q2), .second] [(.long q2)])) _
    exact X0.lreturnOut hx Bd.returns (hb hby d1_11) hr
  · show QV Z (.long q2) h0 n0 _ s₁.heap _
    rw [e0]
    exact ⟨rfl, N0, rfl⟩
def own_f1 (q1 : Int64) (q2 : Int64) : Int64 := (if (0 : Int32) < (lcmpW q1 q2) then q2 else q1)
set_option maxRecDepth 65536 in
set_option maxHeartbeats 40000000 in
theorem rm1 (l : Launch) (Z : State) (a0 : Array Value) (hw : ∀ d ∈ tables_1, d.before a0 Z = true) (ws : List Jvm.Cond) (q1 : Int64) (q2 : Int64) (h0 : Heap) (n0 : Nat) (Z0 : n0 ≤ h0.size) :
    MetFree l (⟨"java/lang/Math", "min", "(JJ)J"⟩ : MethodName) (head1 (Jvm.Cond.code (⟨"java/lang/Math", "min", "(JJ)J"⟩ : MethodName) jdk_29_method_70_code 4 (some .long) :: ws) ({ frames := 0, cells := 0, slots := 0, locals := 0 } : Room)) (fun a U => a = #[(.long q1), (.long q2)] ∧ Z.Warmed39 U.vm ∧ U.heap = h0) (fun _ _ _ _ _ => True) (fun _ U o U' => ∃ v L, o = .returned v ∧ QV Z (.long (own_f1 q1 q2)) h0 n0 v U'.heap L ∧ FrameEnd U o U' L ({ frames := 0, cells := 0, slots := 0, locals := 0 } : Room).cells ({ frames := 0, cells := 0, slots := 0, locals := 0 } : Room).slots) := by
  unfold own_f1
  by_cases hc3 : (0 : Int32) < (lcmpW q1 q2)
  · rw [if_pos hc3]
    exact rm1_t l Z a0 hw ws q1 q2 h0 n0 Z0 hc3
  · rw [if_neg hc3]
    exact rm1_f l Z a0 hw ws q1 q2 h0 n0 Z0 hc3
set_option maxRecDepth 65536 in
set_option maxHeartbeats 40000000 in
theorem tn0_212_238_t_sgF {p : Program} {l : Launch} {e : Env} {R : Room} {s : State} {m : MethodId} {args : Array Value} {below : List Frame} {meth : Method} {c : Code} {T0 : State} {locs : List Loc} {cells slots : Nat} {Z : State} {a0 : Array Value} {h0 : Heap} (i0 : Int32) (i1 : Int32) (j2 : Int64) (j4 : Int64) (i6 : Int32) (i7 : Int32) (j8 : Int64) (j10 : Int64) (j12 : Int64) (j14 : Int64) (j16 : Int64) (d18 : UInt64) (d20 : UInt64)
    (X0 : Stand p l e R s m args below meth c T0 locs cells slots) (hx : p.tables.exec = Jvm.exec) (hZ : Z.Warmed39 s.vm) (hw : ∀ d ∈ tables_1, d.before a0 Z = true) (hby : c.code = code) (hml : c.maxLocals = 23) (hown : s.vm.findClass "com/example/bits_for_sets/bitsforsets/tool/ReplayCountsTruePositiveRatePinLaw" = some m.cls) (e0 : T0.heap = h0) (hc216 : ¬ ((lcmpW j14 (0 : Int64)) = (0 : Int32))) :
    ∃ (T' : State), Stand p l e R s m args below meth c T' locs cells slots ∧ T'.heap = h0 ∧
      ∀ target, Steps p.tables e below (T'.setTop (mkF m 238 #[.val (.int i0), .val (.int i1), .val (.long j2), .second, .val (.long j4), .second, .val (.int i6), .val (.int i7), .val (.long j8), .second, .val (.long j10), .second, .val (.long j12), .second, .val (.long j14), .second, .val (.long j16), .second, .val (.double d18), .second, .val (.double d20), .second, .val (.int (1 : Int32))] [])) target → Steps p.tables e below (T0.setTop (mkF m 212 #[.val (.int i0), .val (.int i1), .val (.long j2), .second, .val (.long j4), .second, .val (.int i6), .val (.int i7), .val (.long j8), .second, .val (.long j10), .second, .val (.long j12), .second, .val (.long j14), .second, .val (.long j16), .second, .val (.double d18), .second, .val (.double d20), .second, .val (.int (1 : Int32))] [])) target := by
  refine ⟨T0, X0, e0, fun target kt => ?_⟩
  show Steps p.tables e below (T0.setTop (mkF m 212 #[.val (.int i0), .val (.int i1), .val (.long j2), .second, .val (.long j4), .second, .val (.int i6), .val (.int i7), .val (.long j8), .second, .val (.long j10), .second, .val (.long j12), .second, .val (.long j14), .second, .val (.long j16), .second, .val (.double d18), .second, .val (.double d20), .second, .val (.int (1 : Int32))] [])) _
  refine XS.lload X0.here hx rfl (hb hby at_212) rfl ?_
  show Steps p.tables e below (T0.setTop (mkF m 214 #[.val (.int i0), .val (.int i1), .val (.long j2), .second, .val (.long j4), .second, .val (.int i6), .val (.int i7), .val (.long j8), .second, .val (.long j10), .second, .val (.long j12), .second, .val (.long j14), .second, .val (.long j16), .second, .val (.double d18), .second, .val (.double d20), .second, .val (.int (1 : Int32))] [(.long j14)])) _
  refine XS.lconst X0.here hx rfl (hb hby at_214) ?_
  show Steps p.tables e below (T0.setTop (mkF m 215 #[.val (.int i0), .val (.int i1), .val (.long j2), .second, .val (.long j4), .second, .val (.int i6), .val (.int i7), .val (.long j8), .second, .val (.long j10), .second, .val (.long j12), .second, .val (.long j14), .second, .val (.long j16), .second, .val (.double d18), .second, .val (.double d20), .second, .val (.int (1 : Int32))] [(.long (0 : Int64)), (.long j14)])) _
  refine XS.lcmp X0.here hx rfl (hb hby at_215) rfl ?_
  show Steps p.tables e below (T0.setTop (mkF m 216 #[.val (.int i0), .val (.int i1), .val (.long j2), .second, .val (.long j4), .second, .val (.int i6), .val (.int i7), .val (.long j8), .second, .val (.long j10), .second, .val (.long j12), .second, .val (.long j14), .second, .val (.long j16), .second, .val (.double d18), .second, .val (.double d20), .second, .val (.int (1 : Int32))] [(.int (lcmpW j14 (0 : Int64)))])) _
  refine XS.ifYes X0.here hx rfl (pc0 := 216) (pc' := 238) rfl (hb hby at_216) rfl ((if0 _ _).trans (feq hc216).2) (by decide) (by decide) ?_
  exact kt
set_option maxRecDepth 65536 in
set_option maxHeartbeats 40000000 in
theorem tn0_212_238_fff_sgF {p : Program} {l : Launch} {e : Env} {R : Room} {s : State} {m : MethodId} {args : Array Value} {below : List Frame} {meth : Method} {c : Code} {T0 : State} {locs : List Loc} {cells slots : Nat} {Z : State} {a0 : Array Value} {h0 : Heap} (i0 : Int32) (i1 : Int32) (j2 : Int64) (j4 : Int64) (i6 : Int32) (i7 : Int32) (j8 : Int64) (j10 : Int64) (j12 : Int64) (j14 : Int64) (j16 : Int64) (d18 : UInt64) (d20 : UInt64)
    (X0 : Stand p l e R s m args below meth c T0 locs cells slots) (hx : p.tables.exec = Jvm.exec) (hZ : Z.Warmed39 s.vm) (hw : ∀ d ∈ tables_1, d.before a0 Z = true) (hby : c.code = code) (hml : c.maxLocals = 23) (hown : s.vm.findClass "com/example/bits_for_sets/bitsforsets/tool/ReplayCountsTruePositiveRatePinLaw" = some m.cls) (e0 : T0.heap = h0) (hc216 : (lcmpW j14 (0 : Int64)) = (0 : Int32)) (hc221 : ¬ ((1 : Int32) = (0 : Int32))) (hc228 : (cmpValue (FP.dcmp d18 FP.dconst1) .l) = (0 : Int32)) :
    ∃ (T' : State), Stand p l e R s m args below meth c T' locs cells slots ∧ T'.heap = h0 ∧
      ∀ target, Steps p.tables e below (T'.setTop (mkF m 238 #[.val (.int i0), .val (.int i1), .val (.long j2), .second, .val (.long j4), .second, .val (.int i6), .val (.int i7), .val (.long j8), .second, .val (.long j10), .second, .val (.long j12), .second, .val (.long j14), .second, .val (.long j16), .second, .val (.double d18), .second, .val (.double d20), .second, .val (.int (1 : Int32))] [])) target → Steps p.tables e below (T0.setTop (mkF m 212 #[.val (.int i0), .val (.int i1), .val (.long j2), .second, .val (.long j4), .second, .val (.int i6), .val (.int i7), .val (.long j8), .second, .val (.long j10), .second, .val (.long j12), .second, .val (.long j14), .second, .val (.long j16), .second, .val (.double d18), .second, .val (.double d20), .second, .val (.int (1 : Int32))] [])) target := by
  refine ⟨T0, X0, e0, fun target kt => ?_⟩
  show Steps p.tables e below (T0.setTop (mkF m 212 #[.val (.int i0), .val (.int i1), .val (.long j2), .second, .val (.long j4), .second, .val (.int i6), .val (.int i7), .val (.long j8), .second, .val (.long j10), .second, .val (.long j12), .second, .val (.long j14), .second, .val (.long j16), .second, .val (.double d18), .second, .val (.double d20), .second, .val (.int (1 : Int32))] [])) _
  refine XS.lload X0.here hx rfl (hb hby at_212) rfl ?_
  show Steps p.tables e below (T0.setTop (mkF m 214 #[.val (.int i0), .val (.int i1), .val (.long j2), .second, .val (.long j4), .second, .val (.int i6), .val (.int i7), .val (.long j8), .second, .val (.long j10), .second, .val (.long j12), .second, .val (.long j14), .second, .val (.long j16), .second, .val (.double d18), .second, .val (.double d20), .second, .val (.int (1 : Int32))] [(.long j14)])) _
  refine XS.lconst X0.here hx rfl (hb hby at_214) ?_
  show Steps p.tables e below (T0.setTop (mkF m 215 #[.val (.int i0), .val (.int i1), .val (.long j2), .second, .val (.long j4), .second, .val (.int i6), .val (.int i7), .val (.long j8), .second, .val (.long j10), .second, .val (.long j12), .second, .val (.long j14), .second, .val (.long j16), .second, .val (.double d18), .second, .val (.double d20), .second, .val (.int (1 : Int32))] [(.long (0 : Int64)), (.long j14)])) _
  refine XS.lcmp X0.here hx rfl (hb hby at_215) rfl ?_
  show Steps p.tables e below (T0.setTop (mkF m 216 #[.val (.int i0), .val (.int i1), .val (.long j2), .second, .val (.long j4), .second, .val (.int i6), .val (.int i7), .val (.long j8), .second, .val (.long j10), .second, .val (.long j12), .second, .val (.long j14), .second, .val (.long j16), .second, .val (.double d18), .second, .val (.double d20), .second, .val (.int (1 : Int32))] [(.int (lcmpW j14 (0 : Int64)))])) _
  refine XS.ifNo X0.here hx rfl (hb hby at_216) rfl ((if0 _ _).trans (teq hc216).2) ?_
  show Steps p.tables e below (T0.setTop (mkF m 219 #[.val (.int i0), .val (.int i1), .val (.long j2), .second, .val (.long j4), .second, .val (.int i6), .val (.int i7), .val (.long j8), .second, .val (.long j10), .second, .val (.long j12), .second, .val (.long j14), .second, .val (.long j16), .second, .val (.double d18), .second, .val (.double d20), .second, .val (.int (1 : Int32))] [])) _
  refine XS.iload X0.here hx rfl (hb hby at_219) rfl ?_
  show Steps p.tables e below (T0.setTop (mkF m 221 #[.val (.int i0), .val (.int i1), .val (.long j2), .second, .val (.long j4), .second, .val (.int i6), .val (.int i7), .val (.long j8), .second, .val (.long j10), .second, .val (.long j12), .second, .val (.long j14), .second, .val (.long j16), .second, .val (.double d18), .second, .val (.double d20), .second, .val (.int (1 : Int32))] [(.int (1 : Int32))])) _
  refine XS.ifNo X0.here hx rfl (hb hby at_221) rfl ((if0 _ _).trans (feq hc221).1) ?_
  show Steps p.tables e below (T0.setTop (mkF m 224 #[.val (.int i0), .val (.int i1), .val (.long j2), .second, .val (.long j4), .second, .val (.int i6), .val (.int i7), .val (.long j8), .second, .val (.long j10), .second, .val (.long j12), .second, .val (.long j14), .second, .val (.long j16), .second, .val (.double d18), .second, .val (.double d20), .second, .val (.int (1 : Int32))] [])) _
  refine XS.dload X0.here hx rfl (hb hby at_224) rfl ?_
  show Steps p.tables e below (T0.setTop (mkF m 226 #[.val (.int i0), .val (.int i1), .val (.long j2), .second, .val (.long j4), .second, .val (.int i6), .val (.int i7), .val (.long j8), .second, .val (.long j10), .second, .val (.long j12), .second, .val (.long j14), .second, .val (.long j16), .second, .val (.double d18), .second, .val (.double d20), .second, .val (.int (1 : Int32))] [(.double d18)])) _
  refine XS.dconst1 X0.here hx rfl (hb hby at_226) rfl ?_
  show Steps p.tables e below (T0.setTop (mkF m 227 #[.val (.int i0), .val (.int i1), .val (.long j2), .second, .val (.long j4), .second, .val (.int i6), .val (.int i7), .val (.long j8), .second, .val (.long j10), .second, .val (.long j12), .second, .val (.long j14), .second, .val (.long j16), .second, .val (.double d18), .second, .val (.double d20), .second, .val (.int (1 : Int32))] [(.double FP.dconst1), (.double d18)])) _
  refine XS.dcmpS X0.here hx rfl (hb hby at_227) rfl rfl ?_
  show Steps p.tables e below (T0.setTop (mkF m 228 #[.val (.int i0), .val (.int i1), .val (.long j2), .second, .val (.long j4), .second, .val (.int i6), .val (.int i7), .val (.long j8), .second, .val (.long j10), .second, .val (.long j12), .second, .val (.long j14), .second, .val (.long j16), .second, .val (.double d18), .second, .val (.double d20), .second, .val (.int (1 : Int32))] [(.int (cmpValue (FP.dcmp d18 FP.dconst1) .l))])) _
  refine XS.ifNo X0.here hx rfl (hb hby at_228) rfl ((if0 _ _).trans (teq hc228).2) ?_
  show Steps p.tables e below (T0.setTop (mkF m 231 #[.val (.int i0), .val (.int i1), .val (.long j2), .second, .val (.long j4), .second, .val (.int i6), .val (.int i7), .val (.long j8), .second, .val (.long j10), .second, .val (.long j12), .second, .val (.long j14), .second, .val (.long j16), .second, .val (.double d18), .second, .val (.double d20), .second, .val (.int (1 : Int32))] [])) _
  refine XS.iconst X0.here hx rfl (hb hby at_231) ?_
  show Steps p.tables e below (T0.setTop (mkF m 232 #[.val (.int i0), .val (.int i1), .val (.long j2), .second, .val (.long j4), .second, .val (.int i6), .val (.int i7), .val (.long j8), .second, .val (.long j10), .second, .val (.long j12), .second, .val (.long j14), .second, .val (.long j16), .second, .val (.double d18), .second, .val (.double d20), .second, .val (.int (1 : Int32))] [(.int (1 : Int32))])) _
  refine XS.goto X0.here hx rfl (pc0 := 232) (pc' := 236) rfl (hb hby at_232) (by decide) (by decide) ?_
  show Steps p.tables e below (T0.setTop (mkF m 236 #[.val (.int i0), .val (.int i1), .val (.long j2), .second, .val (.long j4), .second, .val (.int i6), .val (.int i7), .val (.long j8), .second, .val (.long j10), .second, .val (.long j12), .second, .val (.long j14), .second, .val (.long j16), .second, .val (.double d18), .second, .val (.double d20), .second, .val (.int (1 : Int32))] [(.int (1 : Int32))])) _
  refine XS.istore X0.here hx rfl (hb hby at_236) rfl (l' := #[.val (.int i0), .val (.int i1), .val (.long j2), .second, .val (.long j4), .second, .val (.int i6), .val (.int i7), .val (.long j8), .second, .val (.long j10), .second, .val (.long j12), .second, .val (.long j14), .second, .val (.long j16), .second, .val (.double d18), .second, .val (.double d20), .second, .val (.int (1 : Int32))]) rfl ?_
  exact kt
set_option maxRecDepth 65536 in
set_option maxHeartbeats 40000000 in
theorem sgF {p : Program} {l : Launch} {e : Env} {R : Room} {s : State} {m : MethodId} {args : Array Value} {below : List Frame} {meth : Method} {c : Code} {T0 : State} {locs : List Loc} {cells slots : Nat} {Z : State} {a0 : Array Value} {h0 : Heap} (i0 : Int32) (i1 : Int32) (j2 : Int64) (j4 : Int64) (i6 : Int32) (i7 : Int32) (j8 : Int64) (j10 : Int64) (j12 : Int64) (j14 : Int64) (j16 : Int64) (d18 : UInt64) (d20 : UInt64)
    (X0 : Stand p l e R s m args below meth c T0 locs cells slots) (hx : p.tables.exec = Jvm.exec) (hZ : Z.Warmed39 s.vm) (hw : ∀ d ∈ tables_1, d.before a0 Z = true) (hby : c.code = code) (hml : c.maxLocals = 23) (hown : s.vm.findClass "com/example/bits_for_sets/bitsforsets/tool/ReplayCountsTruePositiveRatePinLaw" = some m.cls) (e0 : T0.heap = h0) (H : ((¬ ((lcmpW j14 (0 : Int64)) = (0 : Int32)))) ∨ (((lcmpW j14 (0 : Int64)) = (0 : Int32)) ∧ (¬ ((1 : Int32) = (0 : Int32))) ∧ ((cmpValue (FP.dcmp d18 FP.dconst1) .l) = (0 : Int32)))) :
    ∃ (T' : State), Stand p l e R s m args below meth c T' locs cells slots ∧ T'.heap = h0 ∧
      ∀ target, Steps p.tables e below (T'.setTop (mkF m 238 #[.val (.int i0), .val (.int i1), .val (.long j2), .second, .val (.long j4), .second, .val (.int i6), .val (.int i7), .val (.long j8), .second, .val (.long j10), .second, .val (.long j12), .second, .val (.long j14), .second, .val (.long j16), .second, .val (.double d18), .second, .val (.double d20), .second, .val (.int (1 : Int32))] [])) target → Steps p.tables e below (T0.setTop (mkF m 212 #[.val (.int i0), .val (.int i1), .val (.long j2), .second, .val (.long j4), .second, .val (.int i6), .val (.int i7), .val (.long j8), .second, .val (.long j10), .second, .val (.long j12), .second, .val (.long j14), .second, .val (.long j16), .second, .val (.double d18), .second, .val (.double d20), .second, .val (.int (1 : Int32))] [])) target := by
  rcases H with hc216 | ⟨hc216, hc221, hc228⟩
  · exact tn0_212_238_t_sgF i0 i1 j2 j4 i6 i7 j8 j10 j12 j14 j16 d18 d20 X0 hx hZ hw hby hml hown e0 hc216
  · exact tn0_212_238_fff_sgF i0 i1 j2 j4 i6 i7 j8 j10 j12 j14 j16 d18 d20 X0 hx hZ hw hby hml hown e0 hc216 hc221 hc228
set_option maxRecDepth 65536 in
set_option maxHeartbeats 40000000 in
theorem tn0_238_265_t_sgG {p : Program} {l : Launch} {e : Env} {R : Room} {s : State} {m : MethodId} {args : Array Value} {below : List Frame} {meth : Method} {c : Code} {T0 : State} {locs : List Loc} {cells slots : Nat} {Z : State} {a0 : Array Value} {h0 : Heap} (i0 : Int32) (i1 : Int32) (j2 : Int64) (j4 : Int64) (i6 : Int32) (i7 : Int32) (j8 : Int64) (j10 : Int64) (j12 : Int64) (j14 : Int64) (j16 : Int64) (d18 : UInt64) (d20 : UInt64)
    (X0 : Stand p l e R s m args below meth c T0 locs cells slots) (hx : p.tables.exec = Jvm.exec) (hZ : Z.Warmed39 s.vm) (hw : ∀ d ∈ tables_1, d.before a0 Z = true) (hby : c.code = code) (hml : c.maxLocals = 23) (hown : s.vm.findClass "com/example/bits_for_sets/bitsforsets/tool/ReplayCountsTruePositiveRatePinLaw" = some m.cls) (e0 : T0.heap = h0) (hc243 : ¬ ((lcmpW j14 j12) = (0 : Int32))) :
    ∃ (T' : State), Stand p l e R s m args below meth c T' locs cells slots ∧ T'.heap = h0 ∧
      ∀ target, Steps p.tables e below (T'.setTop (mkF m 265 #[.val (.int i0), .val (.int i1), .val (.long j2), .second, .val (.long j4), .second, .val (.int i6), .val (.int i7), .val (.long j8), .second, .val (.long j10), .second, .val (.long j12), .second, .val (.long j14), .second, .val (.long j16), .second, .val (.double d18), .second, .val (.double d20), .second, .val (.int (1 : Int32))] [])) target → Steps p.tables e below (T0.setTop (mkF m 238 #[.val (.int i0), .val (.int i1), .val (.long j2), .second, .val (.long j4), .second, .val (.int i6), .val (.int i7), .val (.long j8), .second, .val (.long j10), .second, .val (.long j12), .second, .val (.long j14), .second, .val (.long j16), .second, .val (.double d18), .second, .val (.double d20), .second, .val (.int (1 : Int32))] [])) target := by
  refine ⟨T0, X0, e0, fun target kt => ?_⟩
  show Steps p.tables e below (T0.setTop (mkF m 238 #[.val (.int i0), .val (.int i1), .val (.long j2), .second, .val (.long j4), .second, .val (.int i6), .val (.int i7), .val (.long j8), .second, .val (.long j10), .second, .val (.long j12), .second, .val (.long j14), .second, .val (.long j16), .second, .val (.double d18), .second, .val (.double d20), .second, .val (.int (1 : Int32))] [])) _
  refine XS.lload X0.here hx rfl (hb hby at_238) rfl ?_
  show Steps p.tables e below (T0.setTop (mkF m 240 #[.val (.int i0), .val (.int i1), .val (.long j2), .second, .val (.long j4), .second, .val (.int i6), .val (.int i7), .val (.long j8), .second, .val (.long j10), .second, .val (.long j12), .second, .val (.long j14), .second, .val (.long j16), .second, .val (.double d18), .second, .val (.double d20), .second, .val (.int (1 : Int32))] [(.long j14)])) _
  refine XS.lload X0.here hx rfl (hb hby at_240) rfl ?_
  show Steps p.tables e below (T0.setTop (mkF m 242 #[.val (.int i0), .val (.int i1), .val (.long j2), .second, .val (.long j4), .second, .val (.int i6), .val (.int i7), .val (.long j8), .second, .val (.long j10), .second, .val (.long j12), .second, .val (.long j14), .second, .val (.long j16), .second, .val (.double d18), .second, .val (.double d20), .second, .val (.int (1 : Int32))] [(.long j12), (.long j14)])) _
  refine XS.lcmp X0.here hx rfl (hb hby at_242) rfl ?_
  show Steps p.tables e below (T0.setTop (mkF m 243 #[.val (.int i0), .val (.int i1), .val (.long j2), .second, .val (.long j4), .second, .val (.int i6), .val (.int i7), .val (.long j8), .second, .val (.long j10), .second, .val (.long j12), .second, .val (.long j14), .second, .val (.long j16), .second, .val (.double d18), .second, .val (.double d20), .second, .val (.int (1 : Int32))] [(.int (lcmpW j14 j12))])) _
  refine XS.ifYes X0.here hx rfl (pc0 := 243) (pc' := 265) rfl (hb hby at_243) rfl ((if0 _ _).trans (feq hc243).2) (by decide) (by decide) ?_
  exact kt
set_option maxRecDepth 65536 in
set_option maxHeartbeats 40000000 in
theorem tn0_238_265_fff_sgG {p : Program} {l : Launch} {e : Env} {R : Room} {s : State} {m : MethodId} {args : Array Value} {below : List Frame} {meth : Method} {c : Code} {T0 : State} {locs : List Loc} {cells slots : Nat} {Z : State} {a0 : Array Value} {h0 : Heap} (i0 : Int32) (i1 : Int32) (j2 : Int64) (j4 : Int64) (i6 : Int32) (i7 : Int32) (j8 : Int64) (j10 : Int64) (j12 : Int64) (j14 : Int64) (j16 : Int64) (d18 : UInt64) (d20 : UInt64)
    (X0 : Stand p l e R s m args below meth c T0 locs cells slots) (hx : p.tables.exec = Jvm.exec) (hZ : Z.Warmed39 s.vm) (hw : ∀ d ∈ tables_1, d.before a0 Z = true) (hby : c.code = code) (hml : c.maxLocals = 23) (hown : s.vm.findClass "com/example/bits_for_sets/bitsforsets/tool/ReplayCountsTruePositiveRatePinLaw" = some m.cls) (e0 : T0.heap = h0) (hc243 : (lcmpW j14 j12) = (0 : Int32)) (hc248 : ¬ ((1 : Int32) = (0 : Int32))) (hc255 : (cmpValue (FP.dcmp d18 FP.dconst0) .l) = (0 : Int32)) :
    ∃ (T' : State), Stand p l e R s m args below meth c T' locs cells slots ∧ T'.heap = h0 ∧
      ∀ target, Steps p.tables e below (T'.setTop (mkF m 265 #[.val (.int i0), .val (.int i1), .val (.long j2), .second, .val (.long j4), .second, .val (.int i6), .val (.int i7), .val (.long j8), .second, .val (.long j10), .second, .val (.long j12), .second, .val (.long j14), .second, .val (.long j16), .second, .val (.double d18), .second, .val (.double d20), .second, .val (.int (1 : Int32))] [])) target → Steps p.tables e below (T0.setTop (mkF m 238 #[.val (.int i0), .val (.int i1), .val (.long j2), .second, .val (.long j4), .second, .val (.int i6), .val (.int i7), .val (.long j8), .second, .val (.long j10), .second, .val (.long j12), .second, .val (.long j14), .second, .val (.long j16), .second, .val (.double d18), .second, .val (.double d20), .second, .val (.int (1 : Int32))] [])) target := by
  refine ⟨T0, X0, e0, fun target kt => ?_⟩
  show Steps p.tables e below (T0.setTop (mkF m 238 #[.val (.int i0), .val (.int i1), .val (.long j2), .second, .val (.long j4), .second, .val (.int i6), .val (.int i7), .val (.long j8), .second, .val (.long j10), .second, .val (.long j12), .second, .val (.long j14), .second, .val (.long j16), .second, .val (.double d18), .second, .val (.double d20), .second, .val (.int (1 : Int32))] [])) _
  refine XS.lload X0.here hx rfl (hb hby at_238) rfl ?_
  show Steps p.tables e below (T0.setTop (mkF m 240 #[.val (.int i0), .val (.int i1), .val (.long j2), .second, .val (.long j4), .second, .val (.int i6), .val (.int i7), .val (.long j8), .second, .val (.long j10), .second, .val (.long j12), .second, .val (.long j14), .second, .val (.long j16), .second, .val (.double d18), .second, .val (.double d20), .second, .val (.int (1 : Int32))] [(.long j14)])) _
  refine XS.lload X0.here hx rfl (hb hby at_240) rfl ?_
  show Steps p.tables e below (T0.setTop (mkF m 242 #[.val (.int i0), .val (.int i1), .val (.long j2), .second, .val (.long j4), .second, .val (.int i6), .val (.int i7), .val (.long j8), .second, .val (.long j10), .second, .val (.long j12), .second, .val (.long j14), .second, .val (.long j16), .second, .val (.double d18), .second, .val (.double d20), .second, .val (.int (1 : Int32))] [(.long j12), (.long j14)])) _
  refine XS.lcmp X0.here hx rfl (hb hby at_242) rfl ?_
  show Steps p.tables e below (T0.setTop (mkF m 243 #[.val (.int i0), .val (.int i1), .val (.long j2), .second, .val (.long j4), .second, .val (.int i6), .val (.int i7), .val (.long j8), .second, .val (.long j10), .second, .val (.long j12), .second, .val (.long j14), .second, .val (.long j16), .second, .val (.double d18), .second, .val (.double d20), .second, .val (.int (1 : Int32))] [(.int (lcmpW j14 j12))])) _
  refine XS.ifNo X0.here hx rfl (hb hby at_243) rfl ((if0 _ _).trans (teq hc243).2) ?_
  show Steps p.tables e below (T0.setTop (mkF m 246 #[.val (.int i0), .val (.int i1), .val (.long j2), .second, .val (.long j4), .second, .val (.int i6), .val (.int i7), .val (.long j8), .second, .val (.long j10), .second, .val (.long j12), .second, .val (.long j14), .second, .val (.long j16), .second, .val (.double d18), .second, .val (.double d20), .second, .val (.int (1 : Int32))] [])) _
  refine XS.iload X0.here hx rfl (hb hby at_246) rfl ?_
  show Steps p.tables e below (T0.setTop (mkF m 248 #[.val (.int i0), .val (.int i1), .val (.long j2), .second, .val (.long j4), .second, .val (.int i6), .val (.int i7), .val (.long j8), .second, .val (.long j10), .second, .val (.long j12), .second, .val (.long j14), .second, .val (.long j16), .second, .val (.double d18), .second, .val (.double d20), .second, .val (.int (1 : Int32))] [(.int (1 : Int32))])) _
  refine XS.ifNo X0.here hx rfl (hb hby at_248) rfl ((if0 _ _).trans (feq hc248).1) ?_
  show Steps p.tables e below (T0.setTop (mkF m 251 #[.val (.int i0), .val (.int i1), .val (.long j2), .second, .val (.long j4), .second, .val (.int i6), .val (.int i7), .val (.long j8), .second, .val (.long j10), .second, .val (.long j12), .second, .val (.long j14), .second, .val (.long j16), .second, .val (.double d18), .second, .val (.double d20), .second, .val (.int (1 : Int32))] [])) _
  refine XS.dload X0.here hx rfl (hb hby at_251) rfl ?_
  show Steps p.tables e below (T0.setTop (mkF m 253 #[.val (.int i0), .val (.int i1), .val (.long j2), .second, .val (.long j4), .second, .val (.int i6), .val (.int i7), .val (.long j8), .second, .val (.long j10), .second, .val (.long j12), .second, .val (.long j14), .second, .val (.long j16), .second, .val (.double d18), .second, .val (.double d20), .second, .val (.int (1 : Int32))] [(.double d18)])) _
  refine XS.dconst0 X0.here hx rfl (hb hby at_253) rfl ?_
  show Steps p.tables e below (T0.setTop (mkF m 254 #[.val (.int i0), .val (.int i1), .val (.long j2), .second, .val (.long j4), .second, .val (.int i6), .val (.int i7), .val (.long j8), .second, .val (.long j10), .second, .val (.long j12), .second, .val (.long j14), .second, .val (.long j16), .second, .val (.double d18), .second, .val (.double d20), .second, .val (.int (1 : Int32))] [(.double FP.dconst0), (.double d18)])) _
  refine XS.dcmpS X0.here hx rfl (hb hby at_254) rfl rfl ?_
  show Steps p.tables e below (T0.setTop (mkF m 255 #[.val (.int i0), .val (.int i1), .val (.long j2), .second, .val (.long j4), .second, .val (.int i6), .val (.int i7), .val (.long j8), .second, .val (.long j10), .second, .val (.long j12), .second, .val (.long j14), .second, .val (.long j16), .second, .val (.double d18), .second, .val (.double d20), .second, .val (.int (1 : Int32))] [(.int (cmpValue (FP.dcmp d18 FP.dconst0) .l))])) _
  refine XS.ifNo X0.here hx rfl (hb hby at_255) rfl ((if0 _ _).trans (teq hc255).2) ?_
  show Steps p.tables e below (T0.setTop (mkF m 258 #[.val (.int i0), .val (.int i1), .val (.long j2), .second, .val (.long j4), .second, .val (.int i6), .val (.int i7), .val (.long j8), .second, .val (.long j10), .second, .val (.long j12), .second, .val (.long j14), .second, .val (.long j16), .second, .val (.double d18), .second, .val (.double d20), .second, .val (.int (1 : Int32))] [])) _
  refine XS.iconst X0.here hx rfl (hb hby at_258) ?_
  show Steps p.tables e below (T0.setTop (mkF m 259 #[.val (.int i0), .val (.int i1), .val (.long j2), .second, .val (.long j4), .second, .val (.int i6), .val (.int i7), .val (.long j8), .second, .val (.long j10), .second, .val (.long j12), .second, .val (.long j14), .second, .val (.long j16), .second, .val (.double d18), .second, .val (.double d20), .second, .val (.int (1 : Int32))] [(.int (1 : Int32))])) _
  refine XS.goto X0.here hx rfl (pc0 := 259) (pc' := 263) rfl (hb hby at_259) (by decide) (by decide) ?_
  show Steps p.tables e below (T0.setTop (mkF m 263 #[.val (.int i0), .val (.int i1), .val (.long j2), .second, .val (.long j4), .second, .val (.int i6), .val (.int i7), .val (.long j8), .second, .val (.long j10), .second, .val (.long j12), .second, .val (.long j14), .second, .val (.long j16), .second, .val (.double d18), .second, .val (.double d20), .second, .val (.int (1 : Int32))] [(.int (1 : Int32))])) _
  refine XS.istore X0.here hx rfl (hb hby at_263) rfl (l' := #[.val (.int i0), .val (.int i1), .val (.long j2), .second, .val (.long j4), .second, .val (.int i6), .val (.int i7), .val (.long j8), .second, .val (.long j10), .second, .val (.long j12), .second, .val (.long j14), .second, .val (.long j16), .second, .val (.double d18), .second, .val (.double d20), .second, .val (.int (1 : Int32))]) rfl ?_
  exact kt
set_option maxRecDepth 65536 in
set_option maxHeartbeats 40000000 in
theorem sgG {p : Program} {l : Launch} {e : Env} {R : Room} {s : State} {m : MethodId} {args : Array Value} {below : List Frame} {meth : Method} {c : Code} {T0 : State} {locs : List Loc} {cells slots : Nat} {Z : State} {a0 : Array Value} {h0 : Heap} (i0 : Int32) (i1 : Int32) (j2 : Int64) (j4 : Int64) (i6 : Int32) (i7 : Int32) (j8 : Int64) (j10 : Int64) (j12 : Int64) (j14 : Int64) (j16 : Int64) (d18 : UInt64) (d20 : UInt64)
    (X0 : Stand p l e R s m args below meth c T0 locs cells slots) (hx : p.tables.exec = Jvm.exec) (hZ : Z.Warmed39 s.vm) (hw : ∀ d ∈ tables_1, d.before a0 Z = true) (hby : c.code = code) (hml : c.maxLocals = 23) (hown : s.vm.findClass "com/example/bits_for_sets/bitsforsets/tool/ReplayCountsTruePositiveRatePinLaw" = some m.cls) (e0 : T0.heap = h0) (H : ((¬ ((lcmpW j14 j12) = (0 : Int32)))) ∨ (((lcmpW j14 j12) = (0 : Int32)) ∧ (¬ ((1 : Int32) = (0 : Int32))) ∧ ((cmpValue (FP.dcmp d18 FP.dconst0) .l) = (0 : Int32)))) :
    ∃ (T' : State), Stand p l e R s m args below meth c T' locs cells slots ∧ T'.heap = h0 ∧
      ∀ target, Steps p.tables e below (T'.setTop (mkF m 265 #[.val (.int i0), .val (.int i1), .val (.long j2), .second, .val (.long j4), .second, .val (.int i6), .val (.int i7), .val (.long j8), .second, .val (.long j10), .second, .val (.long j12), .second, .val (.long j14), .second, .val (.long j16), .second, .val (.double d18), .second, .val (.double d20), .second, .val (.int (1 : Int32))] [])) target → Steps p.tables e below (T0.setTop (mkF m 238 #[.val (.int i0), .val (.int i1), .val (.long j2), .second, .val (.long j4), .second, .val (.int i6), .val (.int i7), .val (.long j8), .second, .val (.long j10), .second, .val (.long j12), .second, .val (.long j14), .second, .val (.long j16), .second, .val (.double d18), .second, .val (.double d20), .second, .val (.int (1 : Int32))] [])) target := by
  rcases H with hc243 | ⟨hc243, hc248, hc255⟩
  · exact tn0_238_265_t_sgG i0 i1 j2 j4 i6 i7 j8 j10 j12 j14 j16 d18 d20 X0 hx hZ hw hby hml hown e0 hc243
  · exact tn0_238_265_fff_sgG i0 i1 j2 j4 i6 i7 j8 j10 j12 j14 j16 d18 d20 X0 hx hZ hw hby hml hown e0 hc243 hc248 hc255
set_option maxRecDepth 65536 in
set_option maxHeartbeats 40000000 in
theorem tn0_51_76_s_sgP {p : Program} {l : Launch} {e : Env} {R : Room} {s : State} {m : MethodId} {args : Array Value} {below : List Frame} {meth : Method} {c : Code} {T0 : State} {locs : List Loc} {cells slots : Nat} {Z : State} {a0 : Array Value} {h0 : Heap} (i0 : Int32) (i1 : Int32) (j2 : Int64) (j4 : Int64) (i6 : Int32) (i7 : Int32) (j8 : Int64) (j10 : Int64)
    (X0 : Stand p l e R s m args below meth c T0 locs cells slots) (hx : p.tables.exec = Jvm.exec) (hZ : Z.Warmed39 s.vm) (hw : ∀ d ∈ tables_1, d.before a0 Z = true) (hby : c.code = code) (hml : c.maxLocals = 23) (hown : s.vm.findClass "com/example/bits_for_sets/bitsforsets/tool/ReplayCountsTruePositiveRatePinLaw" = some m.cls) (e0 : T0.heap = h0) (hnz73 : ¬ ((((1 : Int64) <<< ((i0 &&& (31 : Int32)) &&& 0x3f).toInt64) + (1 : Int64)) = (0 : Int64))) :
    ∃ (T' : State), Stand p l e R s m args below meth c T' locs cells slots ∧ T'.heap = h0 ∧
      ∀ target, Steps p.tables e below (T'.setTop (mkF m 76 #[.val (.int i0), .val (.int i1), .val (.long j2), .second, .val (.long j4), .second, .val (.int i6), .val (.int i7), .val (.long j8), .second, .val (.long j10), .second, .val (.int (i0 &&& (31 : Int32))), .val (.long ((1 : Int64) <<< ((i0 &&& (31 : Int32)) &&& 0x3f).toInt64)), .second, .val (.long ((j4 &&& (9223372036854775807 : Int64)) - ((j4 &&& (9223372036854775807 : Int64)) / (((1 : Int64) <<< ((i0 &&& (31 : Int32)) &&& 0x3f).toInt64) + (1 : Int64))) * (((1 : Int64) <<< ((i0 &&& (31 : Int32)) &&& 0x3f).toInt64) + (1 : Int64)))), .second, .unset, .unset, .unset, .unset, .unset, .unset] [])) target → Steps p.tables e below (T0.setTop (mkF m 51 #[.val (.int i0), .val (.int i1), .val (.long j2), .second, .val (.long j4), .second, .val (.int i6), .val (.int i7), .val (.long j8), .second, .val (.long j10), .second, .unset, .unset, .unset, .unset, .unset, .unset, .unset, .unset, .unset, .unset, .unset] [])) target := by
  refine ⟨T0, X0, e0, fun target kt => ?_⟩
  show Steps p.tables e below (T0.setTop (mkF m 51 #[.val (.int i0), .val (.int i1), .val (.long j2), .second, .val (.long j4), .second, .val (.int i6), .val (.int i7), .val (.long j8), .second, .val (.long j10), .second, .unset, .unset, .unset, .unset, .unset, .unset, .unset, .unset, .unset, .unset, .unset] [])) _
  refine XS.iloadN X0.here hx rfl (hb hby at_51) rfl ?_
  show Steps p.tables e below (T0.setTop (mkF m 52 #[.val (.int i0), .val (.int i1), .val (.long j2), .second, .val (.long j4), .second, .val (.int i6), .val (.int i7), .val (.long j8), .second, .val (.long j10), .second, .unset, .unset, .unset, .unset, .unset, .unset, .unset, .unset, .unset, .unset, .unset] [(.int i0)])) _
  refine XS.bipush X0.here hx rfl (hb hby at_52) ?_
  show Steps p.tables e below (T0.setTop (mkF m 54 #[.val (.int i0), .val (.int i1), .val (.long j2), .second, .val (.long j4), .second, .val (.int i6), .val (.int i7), .val (.long j8), .second, .val (.long j10), .second, .unset, .unset, .unset, .unset, .unset, .unset, .unset, .unset, .unset, .unset, .unset] [(.int (31 : Int32)), (.int i0)])) _
  refine XS.iand X0.here hx rfl (hb hby at_54) rfl ?_
  show Steps p.tables e below (T0.setTop (mkF m 55 #[.val (.int i0), .val (.int i1), .val (.long j2), .second, .val (.long j4), .second, .val (.int i6), .val (.int i7), .val (.long j8), .second, .val (.long j10), .second, .unset, .unset, .unset, .unset, .unset, .unset, .unset, .unset, .unset, .unset, .unset] [(.int (i0 &&& (31 : Int32)))])) _
  refine XS.istore X0.here hx rfl (hb hby at_55) rfl (l' := #[.val (.int i0), .val (.int i1), .val (.long j2), .second, .val (.long j4), .second, .val (.int i6), .val (.int i7), .val (.long j8), .second, .val (.long j10), .second, .val (.int (i0 &&& (31 : Int32))), .unset, .unset, .unset, .unset, .unset, .unset, .unset, .unset, .unset, .unset]) rfl ?_
  show Steps p.tables e below (T0.setTop (mkF m 57 #[.val (.int i0), .val (.int i1), .val (.long j2), .second, .val (.long j4), .second, .val (.int i6), .val (.int i7), .val (.long j8), .second, .val (.long j10), .second, .val (.int (i0 &&& (31 : Int32))), .unset, .unset, .unset, .unset, .unset, .unset, .unset, .unset, .unset, .unset] [])) _
  refine XS.lconst X0.here hx rfl (hb hby at_57) ?_
  show Steps p.tables e below (T0.setTop (mkF m 58 #[.val (.int i0), .val (.int i1), .val (.long j2), .second, .val (.long j4), .second, .val (.int i6), .val (.int i7), .val (.long j8), .second, .val (.long j10), .second, .val (.int (i0 &&& (31 : Int32))), .unset, .unset, .unset, .unset, .unset, .unset, .unset, .unset, .unset, .unset] [(.long (1 : Int64))])) _
  refine XS.iload X0.here hx rfl (hb hby at_58) rfl ?_
  show Steps p.tables e below (T0.setTop (mkF m 60 #[.val (.int i0), .val (.int i1), .val (.long j2), .second, .val (.long j4), .second, .val (.int i6), .val (.int i7), .val (.long j8), .second, .val (.long j10), .second, .val (.int (i0 &&& (31 : Int32))), .unset, .unset, .unset, .unset, .unset, .unset, .unset, .unset, .unset, .unset] [(.int (i0 &&& (31 : Int32))), (.long (1 : Int64))])) _
  refine XS.lshl X0.here hx rfl (hb hby at_60) rfl ?_
  show Steps p.tables e below (T0.setTop (mkF m 61 #[.val (.int i0), .val (.int i1), .val (.long j2), .second, .val (.long j4), .second, .val (.int i6), .val (.int i7), .val (.long j8), .second, .val (.long j10), .second, .val (.int (i0 &&& (31 : Int32))), .unset, .unset, .unset, .unset, .unset, .unset, .unset, .unset, .unset, .unset] [(.long ((1 : Int64) <<< ((i0 &&& (31 : Int32)) &&& 0x3f).toInt64))])) _
  refine XS.lstore X0.here hx rfl (hb hby at_61) rfl (l' := #[.val (.int i0), .val (.int i1), .val (.long j2), .second, .val (.long j4), .second, .val (.int i6), .val (.int i7), .val (.long j8), .second, .val (.long j10), .second, .val (.int (i0 &&& (31 : Int32))), .val (.long ((1 : Int64) <<< ((i0 &&& (31 : Int32)) &&& 0x3f).toInt64)), .second, .unset, .unset, .unset, .unset, .unset, .unset, .unset, .unset]) rfl ?_
  show Steps p.tables e below (T0.setTop (mkF m 63 #[.val (.int i0), .val (.int i1), .val (.long j2), .second, .val (.long j4), .second, .val (.int i6), .val (.int i7), .val (.long j8), .second, .val (.long j10), .second, .val (.int (i0 &&& (31 : Int32))), .val (.long ((1 : Int64) <<< ((i0 &&& (31 : Int32)) &&& 0x3f).toInt64)), .second, .unset, .unset, .unset, .unset, .unset, .unset, .unset, .unset] [])) _
  refine XS.lload X0.here hx rfl (hb hby at_63) rfl ?_
  show Steps p.tables e below (T0.setTop (mkF m 65 #[.val (.int i0), .val (.int i1), .val (.long j2), .second, .val (.long j4), .second, .val (.int i6), .val (.int i7), .val (.long j8), .second, .val (.long j10), .second, .val (.int (i0 &&& (31 : Int32))), .val (.long ((1 : Int64) <<< ((i0 &&& (31 : Int32)) &&& 0x3f).toInt64)), .second, .unset, .unset, .unset, .unset, .unset, .unset, .unset, .unset] [(.long j4)])) _
  refine X0.ldc2Long hx hown (mvT hZ (hw _ (List.mem_of_getElem? (i := 2) rfl))) (g := (mkF m 65 #[.val (.int i0), .val (.int i1), .val (.long j2), .second, .val (.long j4), .second, .val (.int i6), .val (.int i7), .val (.long j8), .second, .val (.long j10), .second, .val (.int (i0 &&& (31 : Int32))), .val (.long ((1 : Int64) <<< ((i0 &&& (31 : Int32)) &&& 0x3f).toInt64)), .second, .unset, .unset, .unset, .unset, .unset, .unset, .unset, .unset] [(.long j4)])) rfl (hb hby at_65) _ ?_
  show Steps p.tables e below (T0.setTop (mkF m 68 #[.val (.int i0), .val (.int i1), .val (.long j2), .second, .val (.long j4), .second, .val (.int i6), .val (.int i7), .val (.long j8), .second, .val (.long j10), .second, .val (.int (i0 &&& (31 : Int32))), .val (.long ((1 : Int64) <<< ((i0 &&& (31 : Int32)) &&& 0x3f).toInt64)), .second, .unset, .unset, .unset, .unset, .unset, .unset, .unset, .unset] [(.long (9223372036854775807 : Int64)), (.long j4)])) _
  refine XS.land X0.here hx rfl (hb hby at_68) rfl ?_
  show Steps p.tables e below (T0.setTop (mkF m 69 #[.val (.int i0), .val (.int i1), .val (.long j2), .second, .val (.long j4), .second, .val (.int i6), .val (.int i7), .val (.long j8), .second, .val (.long j10), .second, .val (.int (i0 &&& (31 : Int32))), .val (.long ((1 : Int64) <<< ((i0 &&& (31 : Int32)) &&& 0x3f).toInt64)), .second, .unset, .unset, .unset, .unset, .unset, .unset, .unset, .unset] [(.long (j4 &&& (9223372036854775807 : Int64)))])) _
  refine XS.lload X0.here hx rfl (hb hby at_69) rfl ?_
  show Steps p.tables e below (T0.setTop (mkF m 71 #[.val (.int i0), .val (.int i1), .val (.long j2), .second, .val (.long j4), .second, .val (.int i6), .val (.int i7), .val (.long j8), .second, .val (.long j10), .second, .val (.int (i0 &&& (31 : Int32))), .val (.long ((1 : Int64) <<< ((i0 &&& (31 : Int32)) &&& 0x3f).toInt64)), .second, .unset, .unset, .unset, .unset, .unset, .unset, .unset, .unset] [(.long ((1 : Int64) <<< ((i0 &&& (31 : Int32)) &&& 0x3f).toInt64)), (.long (j4 &&& (9223372036854775807 : Int64)))])) _
  refine XS.lconst X0.here hx rfl (hb hby at_71) ?_
  show Steps p.tables e below (T0.setTop (mkF m 72 #[.val (.int i0), .val (.int i1), .val (.long j2), .second, .val (.long j4), .second, .val (.int i6), .val (.int i7), .val (.long j8), .second, .val (.long j10), .second, .val (.int (i0 &&& (31 : Int32))), .val (.long ((1 : Int64) <<< ((i0 &&& (31 : Int32)) &&& 0x3f).toInt64)), .second, .unset, .unset, .unset, .unset, .unset, .unset, .unset, .unset] [(.long (1 : Int64)), (.long ((1 : Int64) <<< ((i0 &&& (31 : Int32)) &&& 0x3f).toInt64)), (.long (j4 &&& (9223372036854775807 : Int64)))])) _
  refine XS.ladd X0.here hx rfl (hb hby at_72) rfl ?_
  show Steps p.tables e below (T0.setTop (mkF m 73 #[.val (.int i0), .val (.int i1), .val (.long j2), .second, .val (.long j4), .second, .val (.int i6), .val (.int i7), .val (.long j8), .second, .val (.long j10), .second, .val (.int (i0 &&& (31 : Int32))), .val (.long ((1 : Int64) <<< ((i0 &&& (31 : Int32)) &&& 0x3f).toInt64)), .second, .unset, .unset, .unset, .unset, .unset, .unset, .unset, .unset] [(.long (((1 : Int64) <<< ((i0 &&& (31 : Int32)) &&& 0x3f).toInt64) + (1 : Int64))), (.long (j4 &&& (9223372036854775807 : Int64)))])) _
  refine XS.lrem X0.here hx rfl (hb hby at_73) rfl hnz73 ?_
  show Steps p.tables e below (T0.setTop (mkF m 74 #[.val (.int i0), .val (.int i1), .val (.long j2), .second, .val (.long j4), .second, .val (.int i6), .val (.int i7), .val (.long j8), .second, .val (.long j10), .second, .val (.int (i0 &&& (31 : Int32))), .val (.long ((1 : Int64) <<< ((i0 &&& (31 : Int32)) &&& 0x3f).toInt64)), .second, .unset, .unset, .unset, .unset, .unset, .unset, .unset, .unset] [(.long ((j4 &&& (9223372036854775807 : Int64)) - ((j4 &&& (9223372036854775807 : Int64)) / (((1 : Int64) <<< ((i0 &&& (31 : Int32)) &&& 0x3f).toInt64) + (1 : Int64))) * (((1 : Int64) <<< ((i0 &&& (31 : Int32)) &&& 0x3f).toInt64) + (1 : Int64))))])) _
  refine XS.lstore X0.here hx rfl (hb hby at_74) rfl (l' := #[.val (.int i0), .val (.int i1), .val (.long j2), .second, .val (.long j4), .second, .val (.int i6), .val (.int i7), .val (.long j8), .second, .val (.long j10), .second, .val (.int (i0 &&& (31 : Int32))), .val (.long ((1 : Int64) <<< ((i0 &&& (31 : Int32)) &&& 0x3f).toInt64)), .second, .val (.long ((j4 &&& (9223372036854775807 : Int64)) - ((j4 &&& (9223372036854775807 : Int64)) / (((1 : Int64) <<< ((i0 &&& (31 : Int32)) &&& 0x3f).toInt64) + (1 : Int64))) * (((1 : Int64) <<< ((i0 &&& (31 : Int32)) &&& 0x3f).toInt64) + (1 : Int64)))), .second, .unset, .unset, .unset, .unset, .unset, .unset]) rfl ?_
  exact kt
set_option maxRecDepth 65536 in
set_option maxHeartbeats 40000000 in
theorem sgP {p : Program} {l : Launch} {e : Env} {R : Room} {s : State} {m : MethodId} {args : Array Value} {below : List Frame} {meth : Method} {c : Code} {T0 : State} {locs : List Loc} {cells slots : Nat} {Z : State} {a0 : Array Value} {h0 : Heap} (i0 : Int32) (i1 : Int32) (j2 : Int64) (j4 : Int64) (i6 : Int32) (i7 : Int32) (j8 : Int64) (j10 : Int64)
    (X0 : Stand p l e R s m args below meth c T0 locs cells slots) (hx : p.tables.exec = Jvm.exec) (hZ : Z.Warmed39 s.vm) (hw : ∀ d ∈ tables_1, d.before a0 Z = true) (hby : c.code = code) (hml : c.maxLocals = 23) (hown : s.vm.findClass "com/example/bits_for_sets/bitsforsets/tool/ReplayCountsTruePositiveRatePinLaw" = some m.cls) (e0 : T0.heap = h0) (hnz73 : ¬ ((((1 : Int64) <<< ((i0 &&& (31 : Int32)) &&& 0x3f).toInt64) + (1 : Int64)) = (0 : Int64))) :
    ∃ (T' : State), Stand p l e R s m args below meth c T' locs cells slots ∧ T'.heap = h0 ∧
      ∀ target, Steps p.tables e below (T'.setTop (mkF m 76 #[.val (.int i0), .val (.int i1), .val (.long j2), .second, .val (.long j4), .second, .val (.int i6), .val (.int i7), .val (.long j8), .second, .val (.long j10), .second, .val (.int (i0 &&& (31 : Int32))), .val (.long ((1 : Int64) <<< ((i0 &&& (31 : Int32)) &&& 0x3f).toInt64)), .second, .val (.long ((j4 &&& (9223372036854775807 : Int64)) - ((j4 &&& (9223372036854775807 : Int64)) / (((1 : Int64) <<< ((i0 &&& (31 : Int32)) &&& 0x3f).toInt64) + (1 : Int64))) * (((1 : Int64) <<< ((i0 &&& (31 : Int32)) &&& 0x3f).toInt64) + (1 : Int64)))), .second, .unset, .unset, .unset, .unset, .unset, .unset] [])) target → Steps p.tables e below (T0.setTop (mkF m 51 #[.val (.int i0), .val (.int i1), .val (.long j2), .second, .val (.long j4), .second, .val (.int i6), .val (.int i7), .val (.long j8), .second, .val (.long j10), .second, .unset, .unset, .unset, .unset, .unset, .unset, .unset, .unset, .unset, .unset, .unset] [])) target := by
  exact tn0_51_76_s_sgP i0 i1 j2 j4 i6 i7 j8 j10 X0 hx hZ hw hby hml hown e0 hnz73
set_option maxRecDepth 65536 in
set_option maxHeartbeats 40000000 in
theorem tn0_111_146_s_sgQ {p : Program} {l : Launch} {e : Env} {R : Room} {s : State} {m : MethodId} {args : Array Value} {below : List Frame} {meth : Method} {c : Code} {T0 : State} {locs : List Loc} {cells slots : Nat} {Z : State} {a0 : Array Value} {h0 : Heap} (i0 : Int32) (i1 : Int32) (j2 : Int64) (j4 : Int64) (i6 : Int32) (i7 : Int32) (j8 : Int64) (j10 : Int64)
    (X0 : Stand p l e R s m args below meth c T0 locs cells slots) (hx : p.tables.exec = Jvm.exec) (hZ : Z.Warmed39 s.vm) (hw : ∀ d ∈ tables_1, d.before a0 Z = true) (hby : c.code = code) (hml : c.maxLocals = 23) (hown : s.vm.findClass "com/example/bits_for_sets/bitsforsets/tool/ReplayCountsTruePositiveRatePinLaw" = some m.cls) (e0 : T0.heap = h0) (hnz143 : ¬ ((((1 : Int64) + (((i0.toInt64) &&& (2147483647 : Int64)) * ((1 : Int64) + ((((i6.toUInt32 >>> ((2 : Int32) &&& 31).toUInt32).toInt32).toInt64) &&& (65535 : Int64))))) + (1 : Int64)) = (0 : Int64))) :
    ∃ (T' : State), Stand p l e R s m args below meth c T' locs cells slots ∧ T'.heap = h0 ∧
      ∀ target, Steps p.tables e below (T'.setTop (mkF m 146 #[.val (.int i0), .val (.int i1), .val (.long j2), .second, .val (.long j4), .second, .val (.int i6), .val (.int i7), .val (.long j8), .second, .val (.long j10), .second, .val (.long ((1 : Int64) + (((i0.toInt64) &&& (2147483647 : Int64)) * ((1 : Int64) + ((((i6.toUInt32 >>> ((2 : Int32) &&& 31).toUInt32).toInt32).toInt64) &&& (65535 : Int64)))))), .second, .val (.long ((j4 &&& (9223372036854775807 : Int64)) - ((j4 &&& (9223372036854775807 : Int64)) / (((1 : Int64) + (((i0.toInt64) &&& (2147483647 : Int64)) * ((1 : Int64) + ((((i6.toUInt32 >>> ((2 : Int32) &&& 31).toUInt32).toInt32).toInt64) &&& (65535 : Int64))))) + (1 : Int64))) * (((1 : Int64) + (((i0.toInt64) &&& (2147483647 : Int64)) * ((1 : Int64) + ((((i6.toUInt32 >>> ((2 : Int32) &&& 31).toUInt32).toInt32).toInt64) &&& (65535 : Int64))))) + (1 : Int64)))), .second, .unset, .unset, .unset, .unset, .unset, .unset, .unset] [])) target → Steps p.tables e below (T0.setTop (mkF m 111 #[.val (.int i0), .val (.int i1), .val (.long j2), .second, .val (.long j4), .second, .val (.int i6), .val (.int i7), .val (.long j8), .second, .val (.long j10), .second, .unset, .unset, .unset, .unset, .unset, .unset, .unset, .unset, .unset, .unset, .unset] [])) target := by
  refine ⟨T0, X0, e0, fun target kt => ?_⟩
  show Steps p.tables e below (T0.setTop (mkF m 111 #[.val (.int i0), .val (.int i1), .val (.long j2), .second, .val (.long j4), .second, .val (.int i6), .val (.int i7), .val (.long j8), .second, .val (.long j10), .second, .unset, .unset, .unset, .unset, .unset, .unset, .unset, .unset, .unset, .unset, .unset] [])) _
  refine XS.lconst X0.here hx rfl (hb hby at_111) ?_
  show Steps p.tables e below (T0.setTop (mkF m 112 #[.val (.int i0), .val (.int i1), .val (.long j2), .second, .val (.long j4), .second, .val (.int i6), .val (.int i7), .val (.long j8), .second, .val (.long j10), .second, .unset, .unset, .unset, .unset, .unset, .unset, .unset, .unset, .unset, .unset, .unset] [(.long (1 : Int64))])) _
  refine XS.iloadN X0.here hx rfl (hb hby at_112) rfl ?_
  show Steps p.tables e below (T0.setTop (mkF m 113 #[.val (.int i0), .val (.int i1), .val (.long j2), .second, .val (.long j4), .second, .val (.int i6), .val (.int i7), .val (.long j8), .second, .val (.long j10), .second, .unset, .unset, .unset, .unset, .unset, .unset, .unset, .unset, .unset, .unset, .unset] [(.int i0), (.long (1 : Int64))])) _
  refine XS.i2l X0.here hx rfl (hb hby at_113) rfl ?_
  show Steps p.tables e below (T0.setTop (mkF m 114 #[.val (.int i0), .val (.int i1), .val (.long j2), .second, .val (.long j4), .second, .val (.int i6), .val (.int i7), .val (.long j8), .second, .val (.long j10), .second, .unset, .unset, .unset, .unset, .unset, .unset, .unset, .unset, .unset, .unset, .unset] [(.long (i0.toInt64)), (.long (1 : Int64))])) _
  refine X0.ldc2Long hx hown (mvT hZ (hw _ (List.mem_of_getElem? (i := 0) rfl))) (g := (mkF m 114 #[.val (.int i0), .val (.int i1), .val (.long j2), .second, .val (.long j4), .second, .val (.int i6), .val (.int i7), .val (.long j8), .second, .val (.long j10), .second, .unset, .unset, .unset, .unset, .unset, .unset, .unset, .unset, .unset, .unset, .unset] [(.long (i0.toInt64)), (.long (1 : Int64))])) rfl (hb hby at_114) _ ?_
  show Steps p.tables e below (T0.setTop (mkF m 117 #[.val (.int i0), .val (.int i1), .val (.long j2), .second, .val (.long j4), .second, .val (.int i6), .val (.int i7), .val (.long j8), .second, .val (.long j10), .second, .unset, .unset, .unset, .unset, .unset, .unset, .unset, .unset, .unset, .unset, .unset] [(.long (2147483647 : Int64)), (.long (i0.toInt64)), (.long (1 : Int64))])) _
  refine XS.land X0.here hx rfl (hb hby at_117) rfl ?_
  show Steps p.tables e below (T0.setTop (mkF m 118 #[.val (.int i0), .val (.int i1), .val (.long j2), .second, .val (.long j4), .second, .val (.int i6), .val (.int i7), .val (.long j8), .second, .val (.long j10), .second, .unset, .unset, .unset, .unset, .unset, .unset, .unset, .unset, .unset, .unset, .unset] [(.long ((i0.toInt64) &&& (2147483647 : Int64))), (.long (1 : Int64))])) _
  refine XS.lconst X0.here hx rfl (hb hby at_118) ?_
  show Steps p.tables e below (T0.setTop (mkF m 119 #[.val (.int i0), .val (.int i1), .val (.long j2), .second, .val (.long j4), .second, .val (.int i6), .val (.int i7), .val (.long j8), .second, .val (.long j10), .second, .unset, .unset, .unset, .unset, .unset, .unset, .unset, .unset, .unset, .unset, .unset] [(.long (1 : Int64)), (.long ((i0.toInt64) &&& (2147483647 : Int64))), (.long (1 : Int64))])) _
  refine XS.iload X0.here hx rfl (hb hby at_119) rfl ?_
  show Steps p.tables e below (T0.setTop (mkF m 121 #[.val (.int i0), .val (.int i1), .val (.long j2), .second, .val (.long j4), .second, .val (.int i6), .val (.int i7), .val (.long j8), .second, .val (.long j10), .second, .unset, .unset, .unset, .unset, .unset, .unset, .unset, .unset, .unset, .unset, .unset] [(.int i6), (.long (1 : Int64)), (.long ((i0.toInt64) &&& (2147483647 : Int64))), (.long (1 : Int64))])) _
  refine XS.iconst X0.here hx rfl (hb hby at_121) ?_
  show Steps p.tables e below (T0.setTop (mkF m 122 #[.val (.int i0), .val (.int i1), .val (.long j2), .second, .val (.long j4), .second, .val (.int i6), .val (.int i7), .val (.long j8), .second, .val (.long j10), .second, .unset, .unset, .unset, .unset, .unset, .unset, .unset, .unset, .unset, .unset, .unset] [(.int (2 : Int32)), (.int i6), (.long (1 : Int64)), (.long ((i0.toInt64) &&& (2147483647 : Int64))), (.long (1 : Int64))])) _
  refine XS.iushr X0.here hx rfl (hb hby at_122) rfl ?_
  show Steps p.tables e below (T0.setTop (mkF m 123 #[.val (.int i0), .val (.int i1), .val (.long j2), .second, .val (.long j4), .second, .val (.int i6), .val (.int i7), .val (.long j8), .second, .val (.long j10), .second, .unset, .unset, .unset, .unset, .unset, .unset, .unset, .unset, .unset, .unset, .unset] [(.int ((i6.toUInt32 >>> ((2 : Int32) &&& 31).toUInt32).toInt32)), (.long (1 : Int64)), (.long ((i0.toInt64) &&& (2147483647 : Int64))), (.long (1 : Int64))])) _
  refine XS.i2l X0.here hx rfl (hb hby at_123) rfl ?_
  show Steps p.tables e below (T0.setTop (mkF m 124 #[.val (.int i0), .val (.int i1), .val (.long j2), .second, .val (.long j4), .second, .val (.int i6), .val (.int i7), .val (.long j8), .second, .val (.long j10), .second, .unset, .unset, .unset, .unset, .unset, .unset, .unset, .unset, .unset, .unset, .unset] [(.long (((i6.toUInt32 >>> ((2 : Int32) &&& 31).toUInt32).toInt32).toInt64)), (.long (1 : Int64)), (.long ((i0.toInt64) &&& (2147483647 : Int64))), (.long (1 : Int64))])) _
  refine X0.ldc2Long hx hown (mvT hZ (hw _ (List.mem_of_getElem? (i := 1) rfl))) (g := (mkF m 124 #[.val (.int i0), .val (.int i1), .val (.long j2), .second, .val (.long j4), .second, .val (.int i6), .val (.int i7), .val (.long j8), .second, .val (.long j10), .second, .unset, .unset, .unset, .unset, .unset, .unset, .unset, .unset, .unset, .unset, .unset] [(.long (((i6.toUInt32 >>> ((2 : Int32) &&& 31).toUInt32).toInt32).toInt64)), (.long (1 : Int64)), (.long ((i0.toInt64) &&& (2147483647 : Int64))), (.long (1 : Int64))])) rfl (hb hby at_124) _ ?_
  show Steps p.tables e below (T0.setTop (mkF m 127 #[.val (.int i0), .val (.int i1), .val (.long j2), .second, .val (.long j4), .second, .val (.int i6), .val (.int i7), .val (.long j8), .second, .val (.long j10), .second, .unset, .unset, .unset, .unset, .unset, .unset, .unset, .unset, .unset, .unset, .unset] [(.long (65535 : Int64)), (.long (((i6.toUInt32 >>> ((2 : Int32) &&& 31).toUInt32).toInt32).toInt64)), (.long (1 : Int64)), (.long ((i0.toInt64) &&& (2147483647 : Int64))), (.long (1 : Int64))])) _
  refine XS.land X0.here hx rfl (hb hby at_127) rfl ?_
  show Steps p.tables e below (T0.setTop (mkF m 128 #[.val (.int i0), .val (.int i1), .val (.long j2), .second, .val (.long j4), .second, .val (.int i6), .val (.int i7), .val (.long j8), .second, .val (.long j10), .second, .unset, .unset, .unset, .unset, .unset, .unset, .unset, .unset, .unset, .unset, .unset] [(.long ((((i6.toUInt32 >>> ((2 : Int32) &&& 31).toUInt32).toInt32).toInt64) &&& (65535 : Int64))), (.long (1 : Int64)), (.long ((i0.toInt64) &&& (2147483647 : Int64))), (.long (1 : Int64))])) _
  refine XS.ladd X0.here hx rfl (hb hby at_128) rfl ?_
  show Steps p.tables e below (T0.setTop (mkF m 129 #[.val (.int i0), .val (.int i1), .val (.long j2), .second, .val (.long j4), .second, .val (.int i6), .val (.int i7), .val (.long j8), .second, .val (.long j10), .second, .unset, .unset, .unset, .unset, .unset, .unset, .unset, .unset, .unset, .unset, .unset] [(.long ((1 : Int64) + ((((i6.toUInt32 >>> ((2 : Int32) &&& 31).toUInt32).toInt32).toInt64) &&& (65535 : Int64)))), (.long ((i0.toInt64) &&& (2147483647 : Int64))), (.long (1 : Int64))])) _
  refine XS.lmul X0.here hx rfl (hb hby at_129) rfl ?_
  show Steps p.tables e below (T0.setTop (mkF m 130 #[.val (.int i0), .val (.int i1), .val (.long j2), .second, .val (.long j4), .second, .val (.int i6), .val (.int i7), .val (.long j8), .second, .val (.long j10), .second, .unset, .unset, .unset, .unset, .unset, .unset, .unset, .unset, .unset, .unset, .unset] [(.long (((i0.toInt64) &&& (2147483647 : Int64)) * ((1 : Int64) + ((((i6.toUInt32 >>> ((2 : Int32) &&& 31).toUInt32).toInt32).toInt64) &&& (65535 : Int64))))), (.long (1 : Int64))])) _
  refine XS.ladd X0.here hx rfl (hb hby at_130) rfl ?_
  show Steps p.tables e below (T0.setTop (mkF m 131 #[.val (.int i0), .val (.int i1), .val (.long j2), .second, .val (.long j4), .second, .val (.int i6), .val (.int i7), .val (.long j8), .second, .val (.long j10), .second, .unset, .unset, .unset, .unset, .unset, .unset, .unset, .unset, .unset, .unset, .unset] [(.long ((1 : Int64) + (((i0.toInt64) &&& (2147483647 : Int64)) * ((1 : Int64) + ((((i6.toUInt32 >>> ((2 : Int32) &&& 31).toUInt32).toInt32).toInt64) &&& (65535 : Int64))))))])) _
  refine XS.lstore X0.here hx rfl (hb hby at_131) rfl (l' := #[.val (.int i0), .val (.int i1), .val (.long j2), .second, .val (.long j4), .second, .val (.int i6), .val (.int i7), .val (.long j8), .second, .val (.long j10), .second, .val (.long ((1 : Int64) + (((i0.toInt64) &&& (2147483647 : Int64)) * ((1 : Int64) + ((((i6.toUInt32 >>> ((2 : Int32) &&& 31).toUInt32).toInt32).toInt64) &&& (65535 : Int64)))))), .second, .unset, .unset, .unset, .unset, .unset, .unset, .unset, .unset, .unset]) rfl ?_
  show Steps p.tables e below (T0.setTop (mkF m 133 #[.val (.int i0), .val (.int i1), .val (.long j2), .second, .val (.long j4), .second, .val (.int i6), .val (.int i7), .val (.long j8), .second, .val (.long j10), .second, .val (.long ((1 : Int64) + (((i0.toInt64) &&& (2147483647 : Int64)) * ((1 : Int64) + ((((i6.toUInt32 >>> ((2 : Int32) &&& 31).toUInt32).toInt32).toInt64) &&& (65535 : Int64)))))), .second, .unset, .unset, .unset, .unset, .unset, .unset, .unset, .unset, .unset] [])) _
  refine XS.lload X0.here hx rfl (hb hby at_133) rfl ?_
  show Steps p.tables e below (T0.setTop (mkF m 135 #[.val (.int i0), .val (.int i1), .val (.long j2), .second, .val (.long j4), .second, .val (.int i6), .val (.int i7), .val (.long j8), .second, .val (.long j10), .second, .val (.long ((1 : Int64) + (((i0.toInt64) &&& (2147483647 : Int64)) * ((1 : Int64) + ((((i6.toUInt32 >>> ((2 : Int32) &&& 31).toUInt32).toInt32).toInt64) &&& (65535 : Int64)))))), .second, .unset, .unset, .unset, .unset, .unset, .unset, .unset, .unset, .unset] [(.long j4)])) _
  refine X0.ldc2Long hx hown (mvT hZ (hw _ (List.mem_of_getElem? (i := 2) rfl))) (g := (mkF m 135 #[.val (.int i0), .val (.int i1), .val (.long j2), .second, .val (.long j4), .second, .val (.int i6), .val (.int i7), .val (.long j8), .second, .val (.long j10), .second, .val (.long ((1 : Int64) + (((i0.toInt64) &&& (2147483647 : Int64)) * ((1 : Int64) + ((((i6.toUInt32 >>> ((2 : Int32) &&& 31).toUInt32).toInt32).toInt64) &&& (65535 : Int64)))))), .second, .unset, .unset, .unset, .unset, .unset, .unset, .unset, .unset, .unset] [(.long j4)])) rfl (hb hby at_135) _ ?_
  show Steps p.tables e below (T0.setTop (mkF m 138 #[.val (.int i0), .val (.int i1), .val (.long j2), .second, .val (.long j4), .second, .val (.int i6), .val (.int i7), .val (.long j8), .second, .val (.long j10), .second, .val (.long ((1 : Int64) + (((i0.toInt64) &&& (2147483647 : Int64)) * ((1 : Int64) + ((((i6.toUInt32 >>> ((2 : Int32) &&& 31).toUInt32).toInt32).toInt64) &&& (65535 : Int64)))))), .second, .unset, .unset, .unset, .unset, .unset, .unset, .unset, .unset, .unset] [(.long (9223372036854775807 : Int64)), (.long j4)])) _
  refine XS.land X0.here hx rfl (hb hby at_138) rfl ?_
  show Steps p.tables e below (T0.setTop (mkF m 139 #[.val (.int i0), .val (.int i1), .val (.long j2), .second, .val (.long j4), .second, .val (.int i6), .val (.int i7), .val (.long j8), .second, .val (.long j10), .second, .val (.long ((1 : Int64) + (((i0.toInt64) &&& (2147483647 : Int64)) * ((1 : Int64) + ((((i6.toUInt32 >>> ((2 : Int32) &&& 31).toUInt32).toInt32).toInt64) &&& (65535 : Int64)))))), .second, .unset, .unset, .unset, .unset, .unset, .unset, .unset, .unset, .unset] [(.long (j4 &&& (9223372036854775807 : Int64)))])) _
  refine XS.lload X0.here hx rfl (hb hby at_139) rfl ?_
  show Steps p.tables e below (T0.setTop (mkF m 141 #[.val (.int i0), .val (.int i1), .val (.long j2), .second, .val (.long j4), .second, .val (.int i6), .val (.int i7), .val (.long j8), .second, .val (.long j10), .second, .val (.long ((1 : Int64) + (((i0.toInt64) &&& (2147483647 : Int64)) * ((1 : Int64) + ((((i6.toUInt32 >>> ((2 : Int32) &&& 31).toUInt32).toInt32).toInt64) &&& (65535 : Int64)))))), .second, .unset, .unset, .unset, .unset, .unset, .unset, .unset, .unset, .unset] [(.long ((1 : Int64) + (((i0.toInt64) &&& (2147483647 : Int64)) * ((1 : Int64) + ((((i6.toUInt32 >>> ((2 : Int32) &&& 31).toUInt32).toInt32).toInt64) &&& (65535 : Int64)))))), (.long (j4 &&& (9223372036854775807 : Int64)))])) _
  refine XS.lconst X0.here hx rfl (hb hby at_141) ?_
  show Steps p.tables e below (T0.setTop (mkF m 142 #[.val (.int i0), .val (.int i1), .val (.long j2), .second, .val (.long j4), .second, .val (.int i6), .val (.int i7), .val (.long j8), .second, .val (.long j10), .second, .val (.long ((1 : Int64) + (((i0.toInt64) &&& (2147483647 : Int64)) * ((1 : Int64) + ((((i6.toUInt32 >>> ((2 : Int32) &&& 31).toUInt32).toInt32).toInt64) &&& (65535 : Int64)))))), .second, .unset, .unset, .unset, .unset, .unset, .unset, .unset, .unset, .unset] [(.long (1 : Int64)), (.long ((1 : Int64) + (((i0.toInt64) &&& (2147483647 : Int64)) * ((1 : Int64) + ((((i6.toUInt32 >>> ((2 : Int32) &&& 31).toUInt32).toInt32).toInt64) &&& (65535 : Int64)))))), (.long (j4 &&& (9223372036854775807 : Int64)))])) _
  refine XS.ladd X0.here hx rfl (hb hby at_142) rfl ?_
  show Steps p.tables e below (T0.setTop (mkF m 143 #[.val (.int i0), .val (.int i1), .val (.long j2), .second, .val (.long j4), .second, .val (.int i6), .val (.int i7), .val (.long j8), .second, .val (.long j10), .second, .val (.long ((1 : Int64) + (((i0.toInt64) &&& (2147483647 : Int64)) * ((1 : Int64) + ((((i6.toUInt32 >>> ((2 : Int32) &&& 31).toUInt32).toInt32).toInt64) &&& (65535 : Int64)))))), .second, .unset, .unset, .unset, .unset, .unset, .unset, .unset, .unset, .unset] [(.long (((1 : Int64) + (((i0.toInt64) &&& (2147483647 : Int64)) * ((1 : Int64) + ((((i6.toUInt32 >>> ((2 : Int32) &&& 31).toUInt32).toInt32).toInt64) &&& (65535 : Int64))))) + (1 : Int64))), (.long (j4 &&& (9223372036854775807 : Int64)))])) _
  refine XS.lrem X0.here hx rfl (hb hby at_143) rfl hnz143 ?_
  show Steps p.tables e below (T0.setTop (mkF m 144 #[.val (.int i0), .val (.int i1), .val (.long j2), .second, .val (.long j4), .second, .val (.int i6), .val (.int i7), .val (.long j8), .second, .val (.long j10), .second, .val (.long ((1 : Int64) + (((i0.toInt64) &&& (2147483647 : Int64)) * ((1 : Int64) + ((((i6.toUInt32 >>> ((2 : Int32) &&& 31).toUInt32).toInt32).toInt64) &&& (65535 : Int64)))))), .second, .unset, .unset, .unset, .unset, .unset, .unset, .unset, .unset, .unset] [(.long ((j4 &&& (9223372036854775807 : Int64)) - ((j4 &&& (9223372036854775807 : Int64)) / (((1 : Int64) + (((i0.toInt64) &&& (2147483647 : Int64)) * ((1 : Int64) + ((((i6.toUInt32 >>> ((2 : Int32) &&& 31).toUInt32).toInt32).toInt64) &&& (65535 : Int64))))) + (1 : Int64))) * (((1 : Int64) + (((i0.toInt64) &&& (2147483647 : Int64)) * ((1 : Int64) + ((((i6.toUInt32 >>> ((2 : Int32) &&& 31).toUInt32).toInt32).toInt64) &&& (65535 : Int64))))) + (1 : Int64))))])) _
  refine XS.lstore X0.here hx rfl (hb hby at_144) rfl (l' := #[.val (.int i0), .val (.int i1), .val (.long j2), .second, .val (.long j4), .second, .val (.int i6), .val (.int i7), .val (.long j8), .second, .val (.long j10), .second, .val (.long ((1 : Int64) + (((i0.toInt64) &&& (2147483647 : Int64)) * ((1 : Int64) + ((((i6.toUInt32 >>> ((2 : Int32) &&& 31).toUInt32).toInt32).toInt64) &&& (65535 : Int64)))))), .second, .val (.long ((j4 &&& (9223372036854775807 : Int64)) - ((j4 &&& (9223372036854775807 : Int64)) / (((1 : Int64) + (((i0.toInt64) &&& (2147483647 : Int64)) * ((1 : Int64) + ((((i6.toUInt32 >>> ((2 : Int32) &&& 31).toUInt32).toInt32).toInt64) &&& (65535 : Int64))))) + (1 : Int64))) * (((1 : Int64) + (((i0.toInt64) &&& (2147483647 : Int64)) * ((1 : Int64) + ((((i6.toUInt32 >>> ((2 : Int32) &&& 31).toUInt32).toInt32).toInt64) &&& (65535 : Int64))))) + (1 : Int64)))), .second, .unset, .unset, .unset, .unset, .unset, .unset, .unset]) rfl ?_
  exact kt
set_option maxRecDepth 65536 in
set_option maxHeartbeats 40000000 in
theorem sgQ {p : Program} {l : Launch} {e : Env} {R : Room} {s : State} {m : MethodId} {args : Array Value} {below : List Frame} {meth : Method} {c : Code} {T0 : State} {locs : List Loc} {cells slots : Nat} {Z : State} {a0 : Array Value} {h0 : Heap} (i0 : Int32) (i1 : Int32) (j2 : Int64) (j4 : Int64) (i6 : Int32) (i7 : Int32) (j8 : Int64) (j10 : Int64)
    (X0 : Stand p l e R s m args below meth c T0 locs cells slots) (hx : p.tables.exec = Jvm.exec) (hZ : Z.Warmed39 s.vm) (hw : ∀ d ∈ tables_1, d.before a0 Z = true) (hby : c.code = code) (hml : c.maxLocals = 23) (hown : s.vm.findClass "com/example/bits_for_sets/bitsforsets/tool/ReplayCountsTruePositiveRatePinLaw" = some m.cls) (e0 : T0.heap = h0) (hnz143 : ¬ ((((1 : Int64) + (((i0.toInt64) &&& (2147483647 : Int64)) * ((1 : Int64) + ((((i6.toUInt32 >>> ((2 : Int32) &&& 31).toUInt32).toInt32).toInt64) &&& (65535 : Int64))))) + (1 : Int64)) = (0 : Int64))) :
    ∃ (T' : State), Stand p l e R s m args below meth c T' locs cells slots ∧ T'.heap = h0 ∧
      ∀ target, Steps p.tables e below (T'.setTop (mkF m 146 #[.val (.int i0), .val (.int i1), .val (.long j2), .second, .val (.long j4), .second, .val (.int i6), .val (.int i7), .val (.long j8), .second, .val (.long j10), .second, .val (.long ((1 : Int64) + (((i0.toInt64) &&& (2147483647 : Int64)) * ((1 : Int64) + ((((i6.toUInt32 >>> ((2 : Int32) &&& 31).toUInt32).toInt32).toInt64) &&& (65535 : Int64)))))), .second, .val (.long ((j4 &&& (9223372036854775807 : Int64)) - ((j4 &&& (9223372036854775807 : Int64)) / (((1 : Int64) + (((i0.toInt64) &&& (2147483647 : Int64)) * ((1 : Int64) + ((((i6.toUInt32 >>> ((2 : Int32) &&& 31).toUInt32).toInt32).toInt64) &&& (65535 : Int64))))) + (1 : Int64))) * (((1 : Int64) + (((i0.toInt64) &&& (2147483647 : Int64)) * ((1 : Int64) + ((((i6.toUInt32 >>> ((2 : Int32) &&& 31).toUInt32).toInt32).toInt64) &&& (65535 : Int64))))) + (1 : Int64)))), .second, .unset, .unset, .unset, .unset, .unset, .unset, .unset] [])) target → Steps p.tables e below (T0.setTop (mkF m 111 #[.val (.int i0), .val (.int i1), .val (.long j2), .second, .val (.long j4), .second, .val (.int i6), .val (.int i7), .val (.long j8), .second, .val (.long j10), .second, .unset, .unset, .unset, .unset, .unset, .unset, .unset, .unset, .unset, .unset, .unset] [])) target := by
  exact tn0_111_146_s_sgQ i0 i1 j2 j4 i6 i7 j8 j10 X0 hx hZ hw hby hml hown e0 hnz143
section OwnRate
open Jvm.FP.Core
theorem own_tpr0 (q f : Int64) : own_f6 (q + (0 : Int64)) q f = FP.dconst1 := by
  unfold own_f6
  rw [if_pos ((lw_eq _ _).mpr (own_asb q 0))]
theorem own_tpr (q f : Int64) {n : Int64} (hn : 0 < n.toInt) : own_f6 (q + n) q f = FP.dsub FP.dconst1 (FP.ddiv (FP.l2d f) (FP.l2d n)) := by
  unfold own_f6
  rw [own_asb, if_neg (fun h => by rw [lw_eq] at h; rw [h] at hn; exact absurd hn (by decide))]
theorem own_r {q f n : Int64} (hf : 0 ≤ f.toInt) (hfn : f.toInt ≤ n.toInt) (hn : 0 < n.toInt) : val64 (own_f6 (q + n) q f) ≠ .nan ∧ own_z (own_f6 (q + n) q f) = (own_tz n f : Int) := by
  rw [own_tpr q f hn]; exact own_t hf hfn hn
theorem own_e {f n : Int64} (hf : 0 ≤ f.toInt) (hfn : f.toInt ≤ n.toInt) (hn : 0 < n.toInt) : val64 (FP.ddiv (FP.l2d f) (FP.l2d n)) ≠ .nan ∧ own_z (FP.ddiv (FP.l2d f) (FP.l2d n)) = (own_rz n f : Int) := by
  have h := own_zr (own_div hf hn)
  refine ⟨h.1, h.2.trans ?_⟩
  unfold own_rz; rw [if_neg (by omega)]
theorem own_psB (p : Int32) : ∃ k : Nat, k ≤ 31 ∧ ((1 : Int64) <<< ((p &&& (31 : Int32)) &&& 0x3f).toInt64).toInt = ((2 ^ k : Nat) : Int) := by
  have hb : (p &&& (31 : Int32)).toBitVec.toNat ≤ 31 := by
    show (p.toBitVec &&& 31#32).toNat ≤ 31
    rw [BitVec.toNat_and]; exact Nat.and_le_right
  refine ⟨(p &&& (31 : Int32)).toBitVec.toNat % 64, by omega, ?_⟩
  have h := c_lshl (1 : Int64) (p &&& (31 : Int32)) _ rfl
  have h1 := Int64.toInt_lt ((1 : Int64) <<< ((p &&& (31 : Int32)) &&& 0x3f).toInt64)
  have h2 := Int64.le_toInt ((1 : Int64) <<< ((p &&& (31 : Int32)) &&& 0x3f).toInt64)
  have h3 : (2 : Nat) ^ ((p &&& (31 : Int32)).toBitVec.toNat % 64) ≤ 2 ^ 31 := Nat.pow_le_pow_right (by decide) (by omega)
  rw [show (1 : Int64).toInt = 1 from by decide] at h
  generalize (2 : Nat) ^ ((p &&& (31 : Int32)).toBitVec.toNat % 64) = K at *
  omega
theorem own_psC (x y : Int64) : 0 < ((1 : Int64) + ((x &&& (2147483647 : Int64)) * ((1 : Int64) + (y &&& (65535 : Int64))))).toInt ∧ ((1 : Int64) + ((x &&& (2147483647 : Int64)) * ((1 : Int64) + (y &&& (65535 : Int64))))).toInt < 9007199254740992 := by
  have h1 := own_land x 2147483647 (by decide)
  have h2 := own_land y 65535 (by decide)
  rw [show (2147483647 : Int64).toInt = 2147483647 from by decide] at h1
  rw [show (65535 : Int64).toInt = 65535 from by decide] at h2
  have e1 : (1 : Int64).toInt = 1 := by decide
  have h3 : ((1 : Int64) + (y &&& (65535 : Int64))).toInt = 1 + (y &&& (65535 : Int64)).toInt := by rw [Int64.toInt_add, e1, Int.bmod_def]; split <;> omega
  generalize (x &&& (2147483647 : Int64)) = u at *
  generalize (1 : Int64) + (y &&& (65535 : Int64)) = v at *
  have h4 : 0 ≤ u.toInt * v.toInt := Int.mul_nonneg h1.1 (by omega)
  have h5 : u.toInt * v.toInt ≤ 2147483647 * 65536 := Int.mul_le_mul h1.2 (by omega) (by omega) (by decide)
  have h6 : (u * v).toInt = u.toInt * v.toInt := by rw [Int64.toInt_mul, Int.bmod_def]; generalize u.toInt * v.toInt = w at *; split <;> omega
  have h7 : ((1 : Int64) + u * v).toInt = 1 + u.toInt * v.toInt := by rw [Int64.toInt_add, e1, h6, Int.bmod_def]; generalize u.toInt * v.toInt = w at *; split <;> omega
  rw [h7]; generalize u.toInt * v.toInt = w at *; omega
theorem own_f2 {f n : Int64} (hf : 0 ≤ f.toInt) (hfn : f.toInt ≤ n.toInt) (hn : n.toInt < 9007199254740992) : f.toInt ≤ (own_f1 (f + (1 : Int64)) n).toInt ∧ (own_f1 (f + (1 : Int64)) n).toInt ≤ n.toInt := by
  have e1 : (1 : Int64).toInt = 1 := by decide
  have h : (f + (1 : Int64)).toInt = f.toInt + 1 := by rw [Int64.toInt_add, e1, Int.bmod_def]; split <;> omega
  unfold own_f1
  by_cases q : (0 : Int32) < lcmpW (f + (1 : Int64)) n
  · rw [if_pos q]; omega
  · rw [if_neg q]; rw [lw_gt, Int64.lt_iff_toInt_lt] at q; omega
theorem own_HA {q f : Int64} {r1 : UInt64} (h1 : own_f6 (q + (0 : Int64)) q f = r1) : cmpValue (FP.dcmp r1 FP.dconst1) .l = (0 : Int32) := by
  rw [← h1, own_tpr0, own_eq0 own_z1.1 own_z1.1]
theorem own_HB {q f n : Int64} {r1 : UInt64} {k : Nat} (hk : k ≤ 31) (hp : n.toInt = ((2 ^ k : Nat) : Int)) (a1 : 0 ≤ f.toInt) (b1 : f.toInt ≤ n.toInt) (h1 : own_f6 (q + n) q f = r1) :
    Jvm.Free.Fl.NoNaN64 (FP.ddiv (FP.l2d (n - f)) (FP.l2d n)) ∧ cmpValue (FP.dcmp r1 (FP.ddiv (FP.l2d (n - f)) (FP.l2d n))) .l = (0 : Int32) := by
  have hpos : 0 < n.toInt := by have := Nat.two_pow_pos k; omega
  have e : (n - f).toInt = n.toInt - f.toInt := by
    have h1 := Int64.toInt_lt n
    rw [Int64.toInt_sub, Int.bmod_def]; split <;> omega
  have k1 := own_r (q := q) a1 b1 hpos
  have k2 := own_e (f := n - f) (n := n) (by omega) (by omega) hpos
  refine ⟨own_nn k2.1, ?_⟩
  rw [← h1, own_eq0 k1.1 k2.1, k1.2, k2.2, own_tz_pow hk (by unfold own_N; omega) hpos a1 b1]
theorem own_HC {q f g n : Int64} {r1 r2 : UInt64} (a1 : 0 ≤ f.toInt) (b1 : f.toInt ≤ n.toInt) (c1 : f.toInt ≤ g.toInt) (d1 : g.toInt ≤ n.toInt) (hp : 0 < n.toInt) (h1 : own_f6 (q + n) q f = r1) (h2 : own_f6 (q + n) q g = r2) :
    (¬ ((0 : Int32) < cmpValue (FP.dcmp FP.dconst0 r1) .g)) ∧ (¬ ((0 : Int32) < cmpValue (FP.dcmp r1 FP.dconst1) .g)) ∧ (¬ ((0 : Int32) < cmpValue (FP.dcmp r2 r1) .g)) ∧
    (((¬ ((lcmpW f (0 : Int64)) = (0 : Int32)))) ∨ (((lcmpW f (0 : Int64)) = (0 : Int32)) ∧ (¬ ((1 : Int32) = (0 : Int32))) ∧ ((cmpValue (FP.dcmp r1 FP.dconst1) .l) = (0 : Int32)))) ∧
    (((¬ ((lcmpW f n) = (0 : Int32)))) ∨ (((lcmpW f n) = (0 : Int32)) ∧ (¬ ((1 : Int32) = (0 : Int32))) ∧ ((cmpValue (FP.dcmp r1 FP.dconst0) .l) = (0 : Int32)))) := by
  have k1 := own_r (q := q) a1 b1 hp
  have k2 := own_r (q := q) (f := g) (n := n) (by omega) d1 hp
  rw [h1] at k1
  rw [h2] at k2
  have z0 := own_z0
  have z1 := own_z1
  have o1 : (own_tz n f : Int) ≤ own_P := Int.ofNat_le.mpr (own_tz_le n f)
  have o3 : (own_tz n g : Int) ≤ own_tz n f := Int.ofNat_le.mpr (own_tz_anti a1 c1 (by omega))
  have o4 : f.toInt = 0 → (own_tz n f : Int) = own_P := fun q => by rw [own_tz_zero q hp]
  have o5 : f.toInt = n.toInt → (own_tz n f : Int) = 0 := fun q => by rw [Int64.toInt_inj.mp q, own_tz_full hp]; rfl
  have i0 : (0 : Int64).toInt = 0 := by decide
  simp only [own_gt k1.1 z1.1, own_gt z0.1 k1.1, own_gt k2.1 k1.1, own_eq0 k1.1 z0.1, own_eq0 k1.1 z1.1, lw_eq, own_10, not_false_eq_true, true_and, and_true, ← Int64.toInt_inj, k1.2, k2.2, z0.2, z1.2, i0]
  omega
end OwnRate
theorem pn_0 : plainName "com/example/bits_for_sets/bitsforsets/tool/ReplayCountsTruePositiveRatePinLaw" = true := by first | (simp [plainName, overriddenIn]; done) | decide +kernel
theorem pd_0_1 : parseMethodDescriptor "(JJJJ)D" = some ⟨[.long, .long, .long, .long], some .double⟩ := by decide +kernel
theorem ef_0 (m : MethodId) (x0 : Int32) (x1 : Int32) (x2 : Int64) (x3 : Int64) (x4 : Int32) : entryFrame m #[(.int x0), (.int x1), (.long x2), (.long x3), (.int x4)] maxLocals = mkF m 0 #[.val (.int x0), .val (.int x1), .val (.long x2), .second, .val (.long x3), .second, .val (.int x4), .unset, .unset, .unset, .unset, .unset, .unset, .unset, .unset, .unset, .unset, .unset, .unset, .unset, .unset, .unset, .unset] [] := by first | (simp [entryFrame, mkF, argsToLocals, Value.category, maxLocals]; done) | rfl
def Q0 (Z : State) (h0 : Heap) (n0 : Nat) (v : Option Value) (h : Heap) (L : List Loc) : Prop := v = some (.int (1 : Int32)) ∧ Fr n0 L
set_option maxRecDepth 65536 in
set_option maxHeartbeats 40000000 in
theorem rm0A (l : Launch) (Z : State) (a0 : Array Value) (hw : ∀ d ∈ tables_1, d.before a0 Z = true) (ws : List Jvm.Cond) (p1 : Int32) (p2 : Int32) (q3 : Int64) (q4 : Int64) (p5 : Int32) (r1 : UInt64) (h0 : Heap) (n0 : Nat) (Z0 : n0 ≤ h0.size) (h_r1 : (own_f6 (q3 + (0 : Int64)) q3 q4) = r1) (hc21 : (p5 &&& (3 : Int32)) = (0 : Int32)) (hc36 : (cmpValue (FP.dcmp r1 FP.dconst1) .l) = (0 : Int32)) :
    MetFree l x (head1 (Jvm.Cond.code x code maxLocals ret :: ws) room_1) (fun a U => a = #[(.int p1), (.int p2), (.long q3), (.long q4), (.int p5)] ∧ Z.Warmed39 U.vm ∧ U.heap = h0) (fun _ _ _ _ _ => True) (fun _ U o U' => ∃ v L, o = .returned v ∧ Q0 Z h0 n0 v U'.heap L ∧ FrameEnd U o U' L room_1.cells room_1.slots) := by
  refine MetFree.of_bodySF (plainFor_of_name pn_0) hisR ?_
  intro p e s m args below meth c s₁ Bd hml0 hP hK
  obtain ⟨rfl, hZ, hh⟩ := hP
  have hx := Bd.exec
  have hby := Bd.bytes
  have hml : c.maxLocals = 23 := hml0
  have hown : s.vm.findClass "com/example/bits_for_sets/bitsforsets/tool/ReplayCountsTruePositiveRatePinLaw" = some m.cls := findClass_of_methodNamed Bd.named
  have hnm := (name_of_methodNamed Bd.named Bd.method).1
  have X0 : Stand p l e room_1 s m #[(.int p1), (.int p2), (.long q3), (.long q4), (.int p5)] below meth c s₁ [] 0 0 := Stand.of_body Bd
  have e0 : s₁.heap = h0 := by rw [← hh, Bd.state]; rfl
  have N0 := Fr.nil n0
  have pre0 : ∀ t, Steps p.tables e below (s₁.setTop (mkF m 0 #[.val (.int p1), .val (.int p2), .val (.long q3), .second, .val (.long q4), .second, .val (.int p5), .unset, .unset, .unset, .unset, .unset, .unset, .unset, .unset, .unset, .unset, .unset, .unset, .unset, .unset, .unset, .unset] [])) t → Steps p.tables e below (s₁.setTop (entryFrame m #[(.int p1), (.int p2), (.long q3), (.long q4), (.int p5)] maxLocals)) t := fun t k => castTop (ef_0 m p1 p2 q3 q4 p5) k
  obtain ⟨_, _, ⟨T6, L6, k6, n6⟩, -, X6, ⟨Lc6, hQ6, l6, y6, z6⟩, st6⟩ := Jvm.LawKit.callS X0 hx (y := (⟨"com/example/bits_for_sets/bitsforsets/tool/ReplayCountsTruePositiveRatePinLaw", "tpr", "(JJJJ)D"⟩ : MethodName)) hown (mvT hZ (hw _ (List.mem_of_getElem? (i := 7) rfl))) (mvT hZ (hw _ (List.mem_of_getElem? (i := 8) rfl))) (mvT hZ (hw _ (List.mem_of_getElem? (i := 9) rfl))) (mvT hZ (hw _ (List.mem_of_getElem? (i := 10) rfl))) (by decide) (backOf (W := 0) (rm2 l Z a0 hw [] q3 (0 : Int64) q4 (((p2.toInt64) <<< ((32 : Int32) &&& 0x3f).toInt64) ^^^ q4) h0 n0 Z0) hZ (hw _ (List.mem_of_getElem? (i := 10) rfl)) (hw _ (List.mem_of_getElem? (i := 9) rfl)) (by decide) (by decide)) (g := (mkF m 31 #[.val (.int p1), .val (.int p2), .val (.long q3), .second, .val (.long q4), .second, .val (.int p5), .val (.int (p5 &&& (3 : Int32))), .val (.long q3), .second, .val (.long (((p2.toInt64) <<< ((32 : Int32) &&& 0x3f).toInt64) ^^^ q4)), .second, .unset, .unset, .unset, .unset, .unset, .unset, .unset, .unset, .unset, .unset, .unset] [(.long (((p2.toInt64) <<< ((32 : Int32) &&& 0x3f).toInt64) ^^^ q4)), (.long q4), (.long (0 : Int64)), (.long q3)])) rfl (by rw [hml]; rfl) (argsL := [(.long q3), (.long (0 : Int64)), (.long q4), (.long (((p2.toInt64) <<< ((32 : Int32) &&& 0x3f).toInt64) ^^^ q4))]) (rest := []) (lenOf pd_0_1 rfl) rfl (by show 2 * 0 + _ ≤ _; exact Nat.le_of_eq rfl) (hb hby at_31) (fun _ _ => ⟨rfl, e0, (by decide : 0 + 1 ≤ _), (by decide : 0 + 8 ≤ _)⟩)
  dsimp only [Pt.U, Pt.locs, Pt.cells, Pt.slots] at X6 l6 y6 z6 st6 hQ6
  subst l6 y6 z6
  obtain ⟨rfl, N6q, K6⟩ := hQ6
  have N6 := Fr.app N0 N6q
  rw [h_r1] at st6
  obtain ⟨fs, hr, hrun, hended, hW, hsame⟩ := X6.leave (v := some (.int (1 : Int32))) (fun h => by rw [Bd.returns] at h; cases h)
  refine ⟨_, _, pre0 _ ?_, hrun, hended, _, _, rfl, ?_, ⟨_, rfl⟩, hW, hsame.mono (by decide) (by decide)⟩
  · show Steps p.tables e below (s₁.setTop (mkF m 0 #[.val (.int p1), .val (.int p2), .val (.long q3), .second, .val (.long q4), .second, .val (.int p5), .unset, .unset, .unset, .unset, .unset, .unset, .unset, .unset, .unset, .unset, .unset, .unset, .unset, .unset, .unset, .unset] [])) _
    refine XS.iload X0.here hx rfl (hb hby at_0) rfl ?_
    show Steps p.tables e below (s₁.setTop (mkF m 2 #[.val (.int p1), .val (.int p2), .val (.long q3), .second, .val (.long q4), .second, .val (.int p5), .unset, .unset, .unset, .unset, .unset, .unset, .unset, .unset, .unset, .unset, .unset, .unset, .unset, .unset, .unset, .unset] [(.int p5)])) _
    refine XS.iconst X0.here hx rfl (hb hby at_2) ?_
    show Steps p.tables e below (s₁.setTop (mkF m 3 #[.val (.int p1), .val (.int p2), .val (.long q3), .second, .val (.long q4), .second, .val (.int p5), .unset, .unset, .unset, .unset, .unset, .unset, .unset, .unset, .unset, .unset, .unset, .unset, .unset, .unset, .unset, .unset] [(.int (3 : Int32)), (.int p5)])) _
    refine XS.iand X0.here hx rfl (hb hby at_3) rfl ?_
    show Steps p.tables e below (s₁.setTop (mkF m 4 #[.val (.int p1), .val (.int p2), .val (.long q3), .second, .val (.long q4), .second, .val (.int p5), .unset, .unset, .unset, .unset, .unset, .unset, .unset, .unset, .unset, .unset, .unset, .unset, .unset, .unset, .unset, .unset] [(.int (p5 &&& (3 : Int32)))])) _
    refine XS.istore X0.here hx rfl (hb hby at_4) rfl (l' := #[.val (.int p1), .val (.int p2), .val (.long q3), .second, .val (.long q4), .second, .val (.int p5), .val (.int (p5 &&& (3 : Int32))), .unset, .unset, .unset, .unset, .unset, .unset, .unset, .unset, .unset, .unset, .unset, .unset, .unset, .unset, .unset]) rfl ?_
    show Steps p.tables e below (s₁.setTop (mkF m 6 #[.val (.int p1), .val (.int p2), .val (.long q3), .second, .val (.long q4), .second, .val (.int p5), .val (.int (p5 &&& (3 : Int32))), .unset, .unset, .unset, .unset, .unset, .unset, .unset, .unset, .unset, .unset, .unset, .unset, .unset, .unset, .unset] [])) _
    refine XS.lloadN X0.here hx rfl (hb hby at_6) rfl ?_
    show Steps p.tables e below (s₁.setTop (mkF m 7 #[.val (.int p1), .val (.int p2), .val (.long q3), .second, .val (.long q4), .second, .val (.int p5), .val (.int (p5 &&& (3 : Int32))), .unset, .unset, .unset, .unset, .unset, .unset, .unset, .unset, .unset, .unset, .unset, .unset, .unset, .unset, .unset] [(.long q3)])) _
    refine XS.lstore X0.here hx rfl (hb hby at_7) rfl (l' := #[.val (.int p1), .val (.int p2), .val (.long q3), .second, .val (.long q4), .second, .val (.int p5), .val (.int (p5 &&& (3 : Int32))), .val (.long q3), .second, .unset, .unset, .unset, .unset, .unset, .unset, .unset, .unset, .unset, .unset, .unset, .unset, .unset]) rfl ?_
    show Steps p.tables e below (s₁.setTop (mkF m 9 #[.val (.int p1), .val (.int p2), .val (.long q3), .second, .val (.long q4), .second, .val (.int p5), .val (.int (p5 &&& (3 : Int32))), .val (.long q3), .second, .unset, .unset, .unset, .unset, .unset, .unset, .unset, .unset, .unset, .unset, .unset, .unset, .unset] [])) _
    refine XS.iloadN X0.here hx rfl (hb hby at_9) rfl ?_
    show Steps p.tables e below (s₁.setTop (mkF m 10 #[.val (.int p1), .val (.int p2), .val (.long q3), .second, .val (.long q4), .second, .val (.int p5), .val (.int (p5 &&& (3 : Int32))), .val (.long q3), .second, .unset, .unset, .unset, .unset, .unset, .unset, .unset, .unset, .unset, .unset, .unset, .unset, .unset] [(.int p2)])) _
    refine XS.i2l X0.here hx rfl (hb hby at_10) rfl ?_
    show Steps p.tables e below (s₁.setTop (mkF m 11 #[.val (.int p1), .val (.int p2), .val (.long q3), .second, .val (.long q4), .second, .val (.int p5), .val (.int (p5 &&& (3 : Int32))), .val (.long q3), .second, .unset, .unset, .unset, .unset, .unset, .unset, .unset, .unset, .unset, .unset, .unset, .unset, .unset] [(.long (p2.toInt64))])) _
    refine XS.bipush X0.here hx rfl (hb hby at_11) ?_
    show Steps p.tables e below (s₁.setTop (mkF m 13 #[.val (.int p1), .val (.int p2), .val (.long q3), .second, .val (.long q4), .second, .val (.int p5), .val (.int (p5 &&& (3 : Int32))), .val (.long q3), .second, .unset, .unset, .unset, .unset, .unset, .unset, .unset, .unset, .unset, .unset, .unset, .unset, .unset] [(.int (32 : Int32)), (.long (p2.toInt64))])) _
    refine XS.lshl X0.here hx rfl (hb hby at_13) rfl ?_
    show Steps p.tables e below (s₁.setTop (mkF m 14 #[.val (.int p1), .val (.int p2), .val (.long q3), .second, .val (.long q4), .second, .val (.int p5), .val (.int (p5 &&& (3 : Int32))), .val (.long q3), .second, .unset, .unset, .unset, .unset, .unset, .unset, .unset, .unset, .unset, .unset, .unset, .unset, .unset] [(.long ((p2.toInt64) <<< ((32 : Int32) &&& 0x3f).toInt64))])) _
    refine XS.lload X0.here hx rfl (hb hby at_14) rfl ?_
    show Steps p.tables e below (s₁.setTop (mkF m 16 #[.val (.int p1), .val (.int p2), .val (.long q3), .second, .val (.long q4), .second, .val (.int p5), .val (.int (p5 &&& (3 : Int32))), .val (.long q3), .second, .unset, .unset, .unset, .unset, .unset, .unset, .unset, .unset, .unset, .unset, .unset, .unset, .unset] [(.long q4), (.long ((p2.toInt64) <<< ((32 : Int32) &&& 0x3f).toInt64))])) _
    refine XS.lxor X0.here hx rfl (hb hby at_16) rfl ?_
    show Steps p.tables e below (s₁.setTop (mkF m 17 #[.val (.int p1), .val (.int p2), .val (.long q3), .second, .val (.long q4), .second, .val (.int p5), .val (.int (p5 &&& (3 : Int32))), .val (.long q3), .second, .unset, .unset, .unset, .unset, .unset, .unset, .unset, .unset, .unset, .unset, .unset, .unset, .unset] [(.long (((p2.toInt64) <<< ((32 : Int32) &&& 0x3f).toInt64) ^^^ q4))])) _
    refine XS.lstore X0.here hx rfl (hb hby at_17) rfl (l' := #[.val (.int p1), .val (.int p2), .val (.long q3), .second, .val (.long q4), .second, .val (.int p5), .val (.int (p5 &&& (3 : Int32))), .val (.long q3), .second, .val (.long (((p2.toInt64) <<< ((32 : Int32) &&& 0x3f).toInt64) ^^^ q4)), .second, .unset, .unset, .unset, .unset, .unset, .unset, .unset, .unset, .unset, .unset, .unset]) rfl ?_
    show Steps p.tables e below (s₁.setTop (mkF m 19 #[.val (.int p1), .val (.int p2), .val (.long q3), .second, .val (.long q4), .second, .val (.int p5), .val (.int (p5 &&& (3 : Int32))), .val (.long q3), .second, .val (.long (((p2.toInt64) <<< ((32 : Int32) &&& 0x3f).toInt64) ^^^ q4)), .second, .unset, .unset, .unset, .unset, .unset, .unset, .unset, .unset, .unset, .unset, .unset] [])) _
    refine XS.iload X0.here hx rfl (hb hby at_19) rfl ?_
    show Steps p.tables e below (s₁.setTop (mkF m 21 #[.val (.int p1), .val (.int p2), .val (.long q3), .second, .val (.long q4), .second, .val (.int p5), .val (.int (p5 &&& (3 : Int32))), .val (.long q3), .second, .val (.long (((p2.toInt64) <<< ((32 : Int32) &&& 0x3f).toInt64) ^^^ q4)), .second, .unset, .unset, .unset, .unset, .unset, .unset, .unset, .unset, .unset, .unset, .unset] [(.int (p5 &&& (3 : Int32)))])) _
    refine XS.ifNo X0.here hx rfl (hb hby at_21) rfl ((if0 _ _).trans (teq hc21).2) ?_
    show Steps p.tables e below (s₁.setTop (mkF m 24 #[.val (.int p1), .val (.int p2), .val (.long q3), .second, .val (.long q4), .second, .val (.int p5), .val (.int (p5 &&& (3 : Int32))), .val (.long q3), .second, .val (.long (((p2.toInt64) <<< ((32 : Int32) &&& 0x3f).toInt64) ^^^ q4)), .second, .unset, .unset, .unset, .unset, .unset, .unset, .unset, .unset, .unset, .unset, .unset] [])) _
    refine XS.lload X0.here hx rfl (hb hby at_24) rfl ?_
    show Steps p.tables e below (s₁.setTop (mkF m 26 #[.val (.int p1), .val (.int p2), .val (.long q3), .second, .val (.long q4), .second, .val (.int p5), .val (.int (p5 &&& (3 : Int32))), .val (.long q3), .second, .val (.long (((p2.toInt64) <<< ((32 : Int32) &&& 0x3f).toInt64) ^^^ q4)), .second, .unset, .unset, .unset, .unset, .unset, .unset, .unset, .unset, .unset, .unset, .unset] [(.long q3)])) _
    refine XS.lconst X0.here hx rfl (hb hby at_26) ?_
    show Steps p.tables e below (s₁.setTop (mkF m 27 #[.val (.int p1), .val (.int p2), .val (.long q3), .second, .val (.long q4), .second, .val (.int p5), .val (.int (p5 &&& (3 : Int32))), .val (.long q3), .second, .val (.long (((p2.toInt64) <<< ((32 : Int32) &&& 0x3f).toInt64) ^^^ q4)), .second, .unset, .unset, .unset, .unset, .unset, .unset, .unset, .unset, .unset, .unset, .unset] [(.long (0 : Int64)), (.long q3)])) _
    refine XS.lload X0.here hx rfl (hb hby at_27) rfl ?_
    show Steps p.tables e below (s₁.setTop (mkF m 29 #[.val (.int p1), .val (.int p2), .val (.long q3), .second, .val (.long q4), .second, .val (.int p5), .val (.int (p5 &&& (3 : Int32))), .val (.long q3), .second, .val (.long (((p2.toInt64) <<< ((32 : Int32) &&& 0x3f).toInt64) ^^^ q4)), .second, .unset, .unset, .unset, .unset, .unset, .unset, .unset, .unset, .unset, .unset, .unset] [(.long q4), (.long (0 : Int64)), (.long q3)])) _
    refine XS.lload X0.here hx rfl (hb hby at_29) rfl ?_
    show Steps p.tables e below (s₁.setTop (mkF m 31 #[.val (.int p1), .val (.int p2), .val (.long q3), .second, .val (.long q4), .second, .val (.int p5), .val (.int (p5 &&& (3 : Int32))), .val (.long q3), .second, .val (.long (((p2.toInt64) <<< ((32 : Int32) &&& 0x3f).toInt64) ^^^ q4)), .second, .unset, .unset, .unset, .unset, .unset, .unset, .unset, .unset, .unset, .unset, .unset] [(.long (((p2.toInt64) <<< ((32 : Int32) &&& 0x3f).toInt64) ^^^ q4)), (.long q4), (.long (0 : Int64)), (.long q3)])) _
    refine st6 _ ?_
    show Steps p.tables e below (T6.setTop (mkF m 34 #[.val (.int p1), .val (.int p2), .val (.long q3), .second, .val (.long q4), .second, .val (.int p5), .val (.int (p5 &&& (3 : Int32))), .val (.long q3), .second, .val (.long (((p2.toInt64) <<< ((32 : Int32) &&& 0x3f).toInt64) ^^^ q4)), .second, .unset, .unset, .unset, .unset, .unset, .unset, .unset, .unset, .unset, .unset, .unset] [(.double r1)])) _
    refine XS.dconst1 X6.here hx rfl (hb hby at_34) rfl ?_
    show Steps p.tables e below (T6.setTop (mkF m 35 #[.val (.int p1), .val (.int p2), .val (.long q3), .second, .val (.long q4), .second, .val (.int p5), .val (.int (p5 &&& (3 : Int32))), .val (.long q3), .second, .val (.long (((p2.toInt64) <<< ((32 : Int32) &&& 0x3f).toInt64) ^^^ q4)), .second, .unset, .unset, .unset, .unset, .unset, .unset, .unset, .unset, .unset, .unset, .unset] [(.double FP.dconst1), (.double r1)])) _
    refine XS.dcmpS X6.here hx rfl (hb hby at_35) rfl rfl ?_
    show Steps p.tables e below (T6.setTop (mkF m 36 #[.val (.int p1), .val (.int p2), .val (.long q3), .second, .val (.long q4), .second, .val (.int p5), .val (.int (p5 &&& (3 : Int32))), .val (.long q3), .second, .val (.long (((p2.toInt64) <<< ((32 : Int32) &&& 0x3f).toInt64) ^^^ q4)), .second, .unset, .unset, .unset, .unset, .unset, .unset, .unset, .unset, .unset, .unset, .unset] [(.int (cmpValue (FP.dcmp r1 FP.dconst1) .l))])) _
    refine XS.ifNo X6.here hx rfl (hb hby at_36) rfl ((if0 _ _).trans (teq hc36).2) ?_
    show Steps p.tables e below (T6.setTop (mkF m 39 #[.val (.int p1), .val (.int p2), .val (.long q3), .second, .val (.long q4), .second, .val (.int p5), .val (.int (p5 &&& (3 : Int32))), .val (.long q3), .second, .val (.long (((p2.toInt64) <<< ((32 : Int32) &&& 0x3f).toInt64) ^^^ q4)), .second, .unset, .unset, .unset, .unset, .unset, .unset, .unset, .unset, .unset, .unset, .unset] [])) _
    refine XS.iconst X6.here hx rfl (hb hby at_39) ?_
    show Steps p.tables e below (T6.setTop (mkF m 40 #[.val (.int p1), .val (.int p2), .val (.long q3), .second, .val (.long q4), .second, .val (.int p5), .val (.int (p5 &&& (3 : Int32))), .val (.long q3), .second, .val (.long (((p2.toInt64) <<< ((32 : Int32) &&& 0x3f).toInt64) ^^^ q4)), .second, .unset, .unset, .unset, .unset, .unset, .unset, .unset, .unset, .unset, .unset, .unset] [(.int (1 : Int32))])) _
    refine XS.goto X6.here hx rfl (pc0 := 40) (pc' := 44) rfl (hb hby at_40) (by decide) (by decide) ?_
    show Steps p.tables e below (T6.setTop (mkF m 44 #[.val (.int p1), .val (.int p2), .val (.long q3), .second, .val (.long q4), .second, .val (.int p5), .val (.int (p5 &&& (3 : Int32))), .val (.long q3), .second, .val (.long (((p2.toInt64) <<< ((32 : Int32) &&& 0x3f).toInt64) ^^^ q4)), .second, .unset, .unset, .unset, .unset, .unset, .unset, .unset, .unset, .unset, .unset, .unset] [(.int (1 : Int32))])) _
    exact retN X6 hx (t := .boolean) Bd.returns (by simp) (hb hby at_44) hr
  · show Q0 Z h0 n0 _ T6.heap _
    exact ⟨rfl, N6⟩
set_option maxRecDepth 65536 in
set_option maxHeartbeats 40000000 in
theorem rm0B (l : Launch) (Z : State) (a0 : Array Value) (hw : ∀ d ∈ tables_1, d.before a0 Z = true) (ws : List Jvm.Cond) (p1 : Int32) (p2 : Int32) (q3 : Int64) (q4 : Int64) (p5 : Int32) (ps : Int64) (fn : Int64) (r1 : UInt64) (h0 : Heap) (n0 : Nat) (Z0 : n0 ≤ h0.size) (hnz73_sgP : ¬ ((((1 : Int64) <<< ((p1 &&& (31 : Int32)) &&& 0x3f).toInt64) + (1 : Int64)) = (0 : Int64))) (h_ps : ((1 : Int64) <<< ((p1 &&& (31 : Int32)) &&& 0x3f).toInt64) = ps) (h_fn : ((q4 &&& (9223372036854775807 : Int64)) - ((q4 &&& (9223372036854775807 : Int64)) / (ps + (1 : Int64))) * (ps + (1 : Int64))) = fn) (h_r1 : (own_f6 (q3 + ps) q3 fn) = r1) (hc21 : ¬ ((p5 &&& (3 : Int32)) = (0 : Int32))) (hc48 : (p5 &&& (3 : Int32)) = (1 : Int32)) (hnn85 : Jvm.Free.Fl.NoNaN64 (FP.ddiv (FP.l2d (ps - fn)) (FP.l2d ps))) (hc102 : (cmpValue (FP.dcmp r1 (FP.ddiv (FP.l2d (ps - fn)) (FP.l2d ps))) .l) = (0 : Int32)) :
    MetFree l x (head1 (Jvm.Cond.code x code maxLocals ret :: ws) room_1) (fun a U => a = #[(.int p1), (.int p2), (.long q3), (.long q4), (.int p5)] ∧ Z.Warmed39 U.vm ∧ U.heap = h0) (fun _ _ _ _ _ => True) (fun _ U o U' => ∃ v L, o = .returned v ∧ Q0 Z h0 n0 v U'.heap L ∧ FrameEnd U o U' L room_1.cells room_1.slots) := by
  refine MetFree.of_bodySF (plainFor_of_name pn_0) hisR ?_
  intro p e s m args below meth c s₁ Bd hml0 hP hK
  obtain ⟨rfl, hZ, hh⟩ := hP
  have hx := Bd.exec
  have hby := Bd.bytes
  have hml : c.maxLocals = 23 := hml0
  have hown : s.vm.findClass "com/example/bits_for_sets/bitsforsets/tool/ReplayCountsTruePositiveRatePinLaw" = some m.cls := findClass_of_methodNamed Bd.named
  have hnm := (name_of_methodNamed Bd.named Bd.method).1
  have X0 : Stand p l e room_1 s m #[(.int p1), (.int p2), (.long q3), (.long q4), (.int p5)] below meth c s₁ [] 0 0 := Stand.of_body Bd
  have e0 : s₁.heap = h0 := by rw [← hh, Bd.state]; rfl
  have N0 := Fr.nil n0
  have pre0 : ∀ t, Steps p.tables e below (s₁.setTop (mkF m 0 #[.val (.int p1), .val (.int p2), .val (.long q3), .second, .val (.long q4), .second, .val (.int p5), .unset, .unset, .unset, .unset, .unset, .unset, .unset, .unset, .unset, .unset, .unset, .unset, .unset, .unset, .unset, .unset] [])) t → Steps p.tables e below (s₁.setTop (entryFrame m #[(.int p1), (.int p2), (.long q3), (.long q4), (.int p5)] maxLocals)) t := fun t k => castTop (ef_0 m p1 p2 q3 q4 p5) k
  obtain ⟨T6, X6, e6, st6⟩ := sgP p1 p2 q3 q4 p5 ((p5 &&& (3 : Int32))) q3 ((((p2.toInt64) <<< ((32 : Int32) &&& 0x3f).toInt64) ^^^ q4)) X0 hx hZ hw hby hml hown e0 hnz73_sgP
  rw [h_ps] at st6
  rw [h_fn] at st6
  obtain ⟨_, _, ⟨T7, L7, k7, n7⟩, -, X7, ⟨Lc7, hQ7, l7, y7, z7⟩, st7⟩ := Jvm.LawKit.callS X6 hx (y := (⟨"com/example/bits_for_sets/bitsforsets/tool/ReplayCountsTruePositiveRatePinLaw", "tpr", "(JJJJ)D"⟩ : MethodName)) hown (mvT hZ (hw _ (List.mem_of_getElem? (i := 7) rfl))) (mvT hZ (hw _ (List.mem_of_getElem? (i := 8) rfl))) (mvT hZ (hw _ (List.mem_of_getElem? (i := 9) rfl))) (mvT hZ (hw _ (List.mem_of_getElem? (i := 10) rfl))) (by decide) (backOf (W := 0) (rm2 l Z a0 hw [] q3 ps fn (((p2.toInt64) <<< ((32 : Int32) &&& 0x3f).toInt64) ^^^ q4) h0 n0 Z0) hZ (hw _ (List.mem_of_getElem? (i := 10) rfl)) (hw _ (List.mem_of_getElem? (i := 9) rfl)) (by decide) (by decide)) (g := (mkF m 96 #[.val (.int p1), .val (.int p2), .val (.long q3), .second, .val (.long q4), .second, .val (.int p5), .val (.int (p5 &&& (3 : Int32))), .val (.long q3), .second, .val (.long (((p2.toInt64) <<< ((32 : Int32) &&& 0x3f).toInt64) ^^^ q4)), .second, .val (.int (p1 &&& (31 : Int32))), .val (.long ps), .second, .val (.long fn), .second, .val (.double (FP.ddiv (FP.l2d (ps - fn)) (FP.l2d ps))), .second, .unset, .unset, .unset, .unset] [(.long (((p2.toInt64) <<< ((32 : Int32) &&& 0x3f).toInt64) ^^^ q4)), (.long fn), (.long ps), (.long q3)])) rfl (by rw [hml]; rfl) (argsL := [(.long q3), (.long ps), (.long fn), (.long (((p2.toInt64) <<< ((32 : Int32) &&& 0x3f).toInt64) ^^^ q4))]) (rest := []) (lenOf pd_0_1 rfl) rfl (by show 2 * 0 + _ ≤ _; exact Nat.le_of_eq rfl) (hb hby at_96) (fun _ _ => ⟨rfl, e6, (by decide : 0 + 1 ≤ _), (by decide : 0 + 8 ≤ _)⟩)
  dsimp only [Pt.U, Pt.locs, Pt.cells, Pt.slots] at X7 l7 y7 z7 st7 hQ7
  subst l7 y7 z7
  obtain ⟨rfl, N7q, K7⟩ := hQ7
  have N7 := Fr.app N0 N7q
  rw [h_r1] at st7
  obtain ⟨fs, hr, hrun, hended, hW, hsame⟩ := X7.leave (v := some (.int (1 : Int32))) (fun h => by rw [Bd.returns] at h; cases h)
  refine ⟨_, _, pre0 _ ?_, hrun, hended, _, _, rfl, ?_, ⟨_, rfl⟩, hW, hsame.mono (by decide) (by decide)⟩
  · show Steps p.tables e below (s₁.setTop (mkF m 0 #[.val (.int p1), .val (.int p2), .val (.long q3), .second, .val (.long q4), .second, .val (.int p5), .unset, .unset, .unset, .unset, .unset, .unset, .unset, .unset, .unset, .unset, .unset, .unset, .unset, .unset, .unset, .unset] [])) _
    refine XS.iload X0.here hx rfl (hb hby at_0) rfl ?_
    show Steps p.tables e below (s₁.setTop (mkF m 2 #[.val (.int p1), .val (.int p2), .val (.long q3), .second, .val (.long q4), .second, .val (.int p5), .unset, .unset, .unset, .unset, .unset, .unset, .unset, .unset, .unset, .unset, .unset, .unset, .unset, .unset, .unset, .unset] [(.int p5)])) _
    refine XS.iconst X0.here hx rfl (hb hby at_2) ?_
    show Steps p.tables e below (s₁.setTop (mkF m 3 #[.val (.int p1), .val (.int p2), .val (.long q3), .second, .val (.long q4), .second, .val (.int p5), .unset, .unset, .unset, .unset, .unset, .unset, .unset, .unset, .unset, .unset, .unset, .unset, .unset, .unset, .unset, .unset] [(.int (3 : Int32)), (.int p5)])) _
    refine XS.iand X0.here hx rfl (hb hby at_3) rfl ?_
    show Steps p.tables e below (s₁.setTop (mkF m 4 #[.val (.int p1), .val (.int p2), .val (.long q3), .second, .val (.long q4), .second, .val (.int p5), .unset, .unset, .unset, .unset, .unset, .unset, .unset, .unset, .unset, .unset, .unset, .unset, .unset, .unset, .unset, .unset] [(.int (p5 &&& (3 : Int32)))])) _
    refine XS.istore X0.here hx rfl (hb hby at_4) rfl (l' := #[.val (.int p1), .val (.int p2), .val (.long q3), .second, .val (.long q4), .second, .val (.int p5), .val (.int (p5 &&& (3 : Int32))), .unset, .unset, .unset, .unset, .unset, .unset, .unset, .unset, .unset, .unset, .unset, .unset, .unset, .unset, .unset]) rfl ?_
    show Steps p.tables e below (s₁.setTop (mkF m 6 #[.val (.int p1), .val (.int p2), .val (.long q3), .second, .val (.long q4), .second, .val (.int p5), .val (.int (p5 &&& (3 : Int32))), .unset, .unset, .unset, .unset, .unset, .unset, .unset, .unset, .unset, .unset, .unset, .unset, .unset, .unset, .unset] [])) _
    refine XS.lloadN X0.here hx rfl (hb hby at_6) rfl ?_
    show Steps p.tables e below (s₁.setTop (mkF m 7 #[.val (.int p1), .val (.int p2), .val (.long q3), .second, .val (.long q4), .second, .val (.int p5), .val (.int (p5 &&& (3 : Int32))), .unset, .unset, .unset, .unset, .unset, .unset, .unset, .unset, .unset, .unset, .unset, .unset, .unset, .unset, .unset] [(.long q3)])) _
    refine XS.lstore X0.here hx rfl (hb hby at_7) rfl (l' := #[.val (.int p1), .val (.int p2), .val (.long q3), .second, .val (.long q4), .second, .val (.int p5), .val (.int (p5 &&& (3 : Int32))), .val (.long q3), .second, .unset, .unset, .unset, .unset, .unset, .unset, .unset, .unset, .unset, .unset, .unset, .unset, .unset]) rfl ?_
    show Steps p.tables e below (s₁.setTop (mkF m 9 #[.val (.int p1), .val (.int p2), .val (.long q3), .second, .val (.long q4), .second, .val (.int p5), .val (.int (p5 &&& (3 : Int32))), .val (.long q3), .second, .unset, .unset, .unset, .unset, .unset, .unset, .unset, .unset, .unset, .unset, .unset, .unset, .unset] [])) _
    refine XS.iloadN X0.here hx rfl (hb hby at_9) rfl ?_
    show Steps p.tables e below (s₁.setTop (mkF m 10 #[.val (.int p1), .val (.int p2), .val (.long q3), .second, .val (.long q4), .second, .val (.int p5), .val (.int (p5 &&& (3 : Int32))), .val (.long q3), .second, .unset, .unset, .unset, .unset, .unset, .unset, .unset, .unset, .unset, .unset, .unset, .unset, .unset] [(.int p2)])) _
    refine XS.i2l X0.here hx rfl (hb hby at_10) rfl ?_
    show Steps p.tables e below (s₁.setTop (mkF m 11 #[.val (.int p1), .val (.int p2), .val (.long q3), .second, .val (.long q4), .second, .val (.int p5), .val (.int (p5 &&& (3 : Int32))), .val (.long q3), .second, .unset, .unset, .unset, .unset, .unset, .unset, .unset, .unset, .unset, .unset, .unset, .unset, .unset] [(.long (p2.toInt64))])) _
    refine XS.bipush X0.here hx rfl (hb hby at_11) ?_
    show Steps p.tables e below (s₁.setTop (mkF m 13 #[.val (.int p1), .val (.int p2), .val (.long q3), .second, .val (.long q4), .second, .val (.int p5), .val (.int (p5 &&& (3 : Int32))), .val (.long q3), .second, .unset, .unset, .unset, .unset, .unset, .unset, .unset, .unset, .unset, .unset, .unset, .unset, .unset] [(.int (32 : Int32)), (.long (p2.toInt64))])) _
    refine XS.lshl X0.here hx rfl (hb hby at_13) rfl ?_
    show Steps p.tables e below (s₁.setTop (mkF m 14 #[.val (.int p1), .val (.int p2), .val (.long q3), .second, .val (.long q4), .second, .val (.int p5), .val (.int (p5 &&& (3 : Int32))), .val (.long q3), .second, .unset, .unset, .unset, .unset, .unset, .unset, .unset, .unset, .unset, .unset, .unset, .unset, .unset] [(.long ((p2.toInt64) <<< ((32 : Int32) &&& 0x3f).toInt64))])) _
    refine XS.lload X0.here hx rfl (hb hby at_14) rfl ?_
    show Steps p.tables e below (s₁.setTop (mkF m 16 #[.val (.int p1), .val (.int p2), .val (.long q3), .second, .val (.long q4), .second, .val (.int p5), .val (.int (p5 &&& (3 : Int32))), .val (.long q3), .second, .unset, .unset, .unset, .unset, .unset, .unset, .unset, .unset, .unset, .unset, .unset, .unset, .unset] [(.long q4), (.long ((p2.toInt64) <<< ((32 : Int32) &&& 0x3f).toInt64))])) _
    refine XS.lxor X0.here hx rfl (hb hby at_16) rfl ?_
    show Steps p.tables e below (s₁.setTop (mkF m 17 #[.val (.int p1), .val (.int p2), .val (.long q3), .second, .val (.long q4), .second, .val (.int p5), .val (.int (p5 &&& (3 : Int32))), .val (.long q3), .second, .unset, .unset, .unset, .unset, .unset, .unset, .unset, .unset, .unset, .unset, .unset, .unset, .unset] [(.long (((p2.toInt64) <<< ((32 : Int32) &&& 0x3f).toInt64) ^^^ q4))])) _
    refine XS.lstore X0.here hx rfl (hb hby at_17) rfl (l' := #[.val (.int p1), .val (.int p2), .val (.long q3), .second, .val (.long q4), .second, .val (.int p5), .val (.int (p5 &&& (3 : Int32))), .val (.long q3), .second, .val (.long (((p2.toInt64) <<< ((32 : Int32) &&& 0x3f).toInt64) ^^^ q4)), .second, .unset, .unset, .unset, .unset, .unset, .unset, .unset, .unset, .unset, .unset, .unset]) rfl ?_
    show Steps p.tables e below (s₁.setTop (mkF m 19 #[.val (.int p1), .val (.int p2), .val (.long q3), .second, .val (.long q4), .second, .val (.int p5), .val (.int (p5 &&& (3 : Int32))), .val (.long q3), .second, .val (.long (((p2.toInt64) <<< ((32 : Int32) &&& 0x3f).toInt64) ^^^ q4)), .second, .unset, .unset, .unset, .unset, .unset, .unset, .unset, .unset, .unset, .unset, .unset] [])) _
    refine XS.iload X0.here hx rfl (hb hby at_19) rfl ?_
    show Steps p.tables e below (s₁.setTop (mkF m 21 #[.val (.int p1), .val (.int p2), .val (.long q3), .second, .val (.long q4), .second, .val (.int p5), .val (.int (p5 &&& (3 : Int32))), .val (.long q3), .second, .val (.long (((p2.toInt64) <<< ((32 : Int32) &&& 0x3f).toInt64) ^^^ q4)), .second, .unset, .unset, .unset, .unset, .unset, .unset, .unset, .unset, .unset, .unset, .unset] [(.int (p5 &&& (3 : Int32)))])) _
    refine XS.ifYes X0.here hx rfl (pc0 := 21) (pc' := 45) rfl (hb hby at_21) rfl ((if0 _ _).trans (feq hc21).2) (by decide) (by decide) ?_
    show Steps p.tables e below (s₁.setTop (mkF m 45 #[.val (.int p1), .val (.int p2), .val (.long q3), .second, .val (.long q4), .second, .val (.int p5), .val (.int (p5 &&& (3 : Int32))), .val (.long q3), .second, .val (.long (((p2.toInt64) <<< ((32 : Int32) &&& 0x3f).toInt64) ^^^ q4)), .second, .unset, .unset, .unset, .unset, .unset, .unset, .unset, .unset, .unset, .unset, .unset] [])) _
    refine XS.iload X0.here hx rfl (hb hby at_45) rfl ?_
    show Steps p.tables e below (s₁.setTop (mkF m 47 #[.val (.int p1), .val (.int p2), .val (.long q3), .second, .val (.long q4), .second, .val (.int p5), .val (.int (p5 &&& (3 : Int32))), .val (.long q3), .second, .val (.long (((p2.toInt64) <<< ((32 : Int32) &&& 0x3f).toInt64) ^^^ q4)), .second, .unset, .unset, .unset, .unset, .unset, .unset, .unset, .unset, .unset, .unset, .unset] [(.int (p5 &&& (3 : Int32)))])) _
    refine XS.iconst X0.here hx rfl (hb hby at_47) ?_
    show Steps p.tables e below (s₁.setTop (mkF m 48 #[.val (.int p1), .val (.int p2), .val (.long q3), .second, .val (.long q4), .second, .val (.int p5), .val (.int (p5 &&& (3 : Int32))), .val (.long q3), .second, .val (.long (((p2.toInt64) <<< ((32 : Int32) &&& 0x3f).toInt64) ^^^ q4)), .second, .unset, .unset, .unset, .unset, .unset, .unset, .unset, .unset, .unset, .unset, .unset] [(.int (1 : Int32)), (.int (p5 &&& (3 : Int32)))])) _
    refine XS.icmpNo X0.here hx rfl (hb hby at_48) rfl (teq hc48).2 ?_
    show Steps p.tables e below (s₁.setTop (mkF m 51 #[.val (.int p1), .val (.int p2), .val (.long q3), .second, .val (.long q4), .second, .val (.int p5), .val (.int (p5 &&& (3 : Int32))), .val (.long q3), .second, .val (.long (((p2.toInt64) <<< ((32 : Int32) &&& 0x3f).toInt64) ^^^ q4)), .second, .unset, .unset, .unset, .unset, .unset, .unset, .unset, .unset, .unset, .unset, .unset] [])) _
    refine st6 _ ?_
    show Steps p.tables e below (T6.setTop (mkF m 76 #[.val (.int p1), .val (.int p2), .val (.long q3), .second, .val (.long q4), .second, .val (.int p5), .val (.int (p5 &&& (3 : Int32))), .val (.long q3), .second, .val (.long (((p2.toInt64) <<< ((32 : Int32) &&& 0x3f).toInt64) ^^^ q4)), .second, .val (.int (p1 &&& (31 : Int32))), .val (.long ps), .second, .val (.long fn), .second, .unset, .unset, .unset, .unset, .unset, .unset] [])) _
    refine XS.lload X6.here hx rfl (hb hby at_76) rfl ?_
    show Steps p.tables e below (T6.setTop (mkF m 78 #[.val (.int p1), .val (.int p2), .val (.long q3), .second, .val (.long q4), .second, .val (.int p5), .val (.int (p5 &&& (3 : Int32))), .val (.long q3), .second, .val (.long (((p2.toInt64) <<< ((32 : Int32) &&& 0x3f).toInt64) ^^^ q4)), .second, .val (.int (p1 &&& (31 : Int32))), .val (.long ps), .second, .val (.long fn), .second, .unset, .unset, .unset, .unset, .unset, .unset] [(.long ps)])) _
    refine XS.lload X6.here hx rfl (hb hby at_78) rfl ?_
    show Steps p.tables e below (T6.setTop (mkF m 80 #[.val (.int p1), .val (.int p2), .val (.long q3), .second, .val (.long q4), .second, .val (.int p5), .val (.int (p5 &&& (3 : Int32))), .val (.long q3), .second, .val (.long (((p2.toInt64) <<< ((32 : Int32) &&& 0x3f).toInt64) ^^^ q4)), .second, .val (.int (p1 &&& (31 : Int32))), .val (.long ps), .second, .val (.long fn), .second, .unset, .unset, .unset, .unset, .unset, .unset] [(.long fn), (.long ps)])) _
    refine XS.lsub X6.here hx rfl (hb hby at_80) rfl ?_
    show Steps p.tables e below (T6.setTop (mkF m 81 #[.val (.int p1), .val (.int p2), .val (.long q3), .second, .val (.long q4), .second, .val (.int p5), .val (.int (p5 &&& (3 : Int32))), .val (.long q3), .second, .val (.long (((p2.toInt64) <<< ((32 : Int32) &&& 0x3f).toInt64) ^^^ q4)), .second, .val (.int (p1 &&& (31 : Int32))), .val (.long ps), .second, .val (.long fn), .second, .unset, .unset, .unset, .unset, .unset, .unset] [(.long (ps - fn))])) _
    refine XS.l2dS X6.here hx rfl (hb hby at_81) rfl rfl ?_
    show Steps p.tables e below (T6.setTop (mkF m 82 #[.val (.int p1), .val (.int p2), .val (.long q3), .second, .val (.long q4), .second, .val (.int p5), .val (.int (p5 &&& (3 : Int32))), .val (.long q3), .second, .val (.long (((p2.toInt64) <<< ((32 : Int32) &&& 0x3f).toInt64) ^^^ q4)), .second, .val (.int (p1 &&& (31 : Int32))), .val (.long ps), .second, .val (.long fn), .second, .unset, .unset, .unset, .unset, .unset, .unset] [(.double (FP.l2d (ps - fn)))])) _
    refine XS.lload X6.here hx rfl (hb hby at_82) rfl ?_
    show Steps p.tables e below (T6.setTop (mkF m 84 #[.val (.int p1), .val (.int p2), .val (.long q3), .second, .val (.long q4), .second, .val (.int p5), .val (.int (p5 &&& (3 : Int32))), .val (.long q3), .second, .val (.long (((p2.toInt64) <<< ((32 : Int32) &&& 0x3f).toInt64) ^^^ q4)), .second, .val (.int (p1 &&& (31 : Int32))), .val (.long ps), .second, .val (.long fn), .second, .unset, .unset, .unset, .unset, .unset, .unset] [(.long ps), (.double (FP.l2d (ps - fn)))])) _
    refine XS.l2dS X6.here hx rfl (hb hby at_84) rfl rfl ?_
    show Steps p.tables e below (T6.setTop (mkF m 85 #[.val (.int p1), .val (.int p2), .val (.long q3), .second, .val (.long q4), .second, .val (.int p5), .val (.int (p5 &&& (3 : Int32))), .val (.long q3), .second, .val (.long (((p2.toInt64) <<< ((32 : Int32) &&& 0x3f).toInt64) ^^^ q4)), .second, .val (.int (p1 &&& (31 : Int32))), .val (.long ps), .second, .val (.long fn), .second, .unset, .unset, .unset, .unset, .unset, .unset] [(.double (FP.l2d ps)), (.double (FP.l2d (ps - fn)))])) _
    refine XS.ddivS X6.here hx rfl (hb hby at_85) rfl hnn85 rfl ?_
    show Steps p.tables e below (T6.setTop (mkF m 86 #[.val (.int p1), .val (.int p2), .val (.long q3), .second, .val (.long q4), .second, .val (.int p5), .val (.int (p5 &&& (3 : Int32))), .val (.long q3), .second, .val (.long (((p2.toInt64) <<< ((32 : Int32) &&& 0x3f).toInt64) ^^^ q4)), .second, .val (.int (p1 &&& (31 : Int32))), .val (.long ps), .second, .val (.long fn), .second, .unset, .unset, .unset, .unset, .unset, .unset] [(.double (FP.ddiv (FP.l2d (ps - fn)) (FP.l2d ps)))])) _
    refine XS.dstore X6.here hx rfl (hb hby at_86) rfl (l' := #[.val (.int p1), .val (.int p2), .val (.long q3), .second, .val (.long q4), .second, .val (.int p5), .val (.int (p5 &&& (3 : Int32))), .val (.long q3), .second, .val (.long (((p2.toInt64) <<< ((32 : Int32) &&& 0x3f).toInt64) ^^^ q4)), .second, .val (.int (p1 &&& (31 : Int32))), .val (.long ps), .second, .val (.long fn), .second, .val (.double (FP.ddiv (FP.l2d (ps - fn)) (FP.l2d ps))), .second, .unset, .unset, .unset, .unset]) rfl ?_
    show Steps p.tables e below (T6.setTop (mkF m 88 #[.val (.int p1), .val (.int p2), .val (.long q3), .second, .val (.long q4), .second, .val (.int p5), .val (.int (p5 &&& (3 : Int32))), .val (.long q3), .second, .val (.long (((p2.toInt64) <<< ((32 : Int32) &&& 0x3f).toInt64) ^^^ q4)), .second, .val (.int (p1 &&& (31 : Int32))), .val (.long ps), .second, .val (.long fn), .second, .val (.double (FP.ddiv (FP.l2d (ps - fn)) (FP.l2d ps))), .second, .unset, .unset, .unset, .unset] [])) _
    refine XS.lload X6.here hx rfl (hb hby at_88) rfl ?_
    show Steps p.tables e below (T6.setTop (mkF m 90 #[.val (.int p1), .val (.int p2), .val (.long q3), .second, .val (.long q4), .second, .val (.int p5), .val (.int (p5 &&& (3 : Int32))), .val (.long q3), .second, .val (.long (((p2.toInt64) <<< ((32 : Int32) &&& 0x3f).toInt64) ^^^ q4)), .second, .val (.int (p1 &&& (31 : Int32))), .val (.long ps), .second, .val (.long fn), .second, .val (.double (FP.ddiv (FP.l2d (ps - fn)) (FP.l2d ps))), .second, .unset, .unset, .unset, .unset] [(.long q3)])) _
    refine XS.lload X6.here hx rfl (hb hby at_90) rfl ?_
    show Steps p.tables e below (T6.setTop (mkF m 92 #[.val (.int p1), .val (.int p2), .val (.long q3), .second, .val (.long q4), .second, .val (.int p5), .val (.int (p5 &&& (3 : Int32))), .val (.long q3), .second, .val (.long (((p2.toInt64) <<< ((32 : Int32) &&& 0x3f).toInt64) ^^^ q4)), .second, .val (.int (p1 &&& (31 : Int32))), .val (.long ps), .second, .val (.long fn), .second, .val (.double (FP.ddiv (FP.l2d (ps - fn)) (FP.l2d ps))), .second, .unset, .unset, .unset, .unset] [(.long ps), (.long q3)])) _
    refine XS.lload X6.here hx rfl (hb hby at_92) rfl ?_
    show Steps p.tables e below (T6.setTop (mkF m 94 #[.val (.int p1), .val (.int p2), .val (.long q3), .second, .val (.long q4), .second, .val (.int p5), .val (.int (p5 &&& (3 : Int32))), .val (.long q3), .second, .val (.long (((p2.toInt64) <<< ((32 : Int32) &&& 0x3f).toInt64) ^^^ q4)), .second, .val (.int (p1 &&& (31 : Int32))), .val (.long ps), .second, .val (.long fn), .second, .val (.double (FP.ddiv (FP.l2d (ps - fn)) (FP.l2d ps))), .second, .unset, .unset, .unset, .unset] [(.long fn), (.long ps), (.long q3)])) _
    refine XS.lload X6.here hx rfl (hb hby at_94) rfl ?_
    show Steps p.tables e below (T6.setTop (mkF m 96 #[.val (.int p1), .val (.int p2), .val (.long q3), .second, .val (.long q4), .second, .val (.int p5), .val (.int (p5 &&& (3 : Int32))), .val (.long q3), .second, .val (.long (((p2.toInt64) <<< ((32 : Int32) &&& 0x3f).toInt64) ^^^ q4)), .second, .val (.int (p1 &&& (31 : Int32))), .val (.long ps), .second, .val (.long fn), .second, .val (.double (FP.ddiv (FP.l2d (ps - fn)) (FP.l2d ps))), .second, .unset, .unset, .unset, .unset] [(.long (((p2.toInt64) <<< ((32 : Int32) &&& 0x3f).toInt64) ^^^ q4)), (.long fn), (.long ps), (.long q3)])) _
    refine st7 _ ?_
    show Steps p.tables e below (T7.setTop (mkF m 99 #[.val (.int p1), .val (.int p2), .val (.long q3), .second, .val (.long q4), .second, .val (.int p5), .val (.int (p5 &&& (3 : Int32))), .val (.long q3), .second, .val (.long (((p2.toInt64) <<< ((32 : Int32) &&& 0x3f).toInt64) ^^^ q4)), .second, .val (.int (p1 &&& (31 : Int32))), .val (.long ps), .second, .val (.long fn), .second, .val (.double (FP.ddiv (FP.l2d (ps - fn)) (FP.l2d ps))), .second, .unset, .unset, .unset, .unset] [(.double r1)])) _
    refine XS.dload X7.here hx rfl (hb hby at_99) rfl ?_
    show Steps p.tables e below (T7.setTop (mkF m 101 #[.val (.int p1), .val (.int p2), .val (.long q3), .second, .val (.long q4), .second, .val (.int p5), .val (.int (p5 &&& (3 : Int32))), .val (.long q3), .second, .val (.long (((p2.toInt64) <<< ((32 : Int32) &&& 0x3f).toInt64) ^^^ q4)), .second, .val (.int (p1 &&& (31 : Int32))), .val (.long ps), .second, .val (.long fn), .second, .val (.double (FP.ddiv (FP.l2d (ps - fn)) (FP.l2d ps))), .second, .unset, .unset, .unset, .unset] [(.double (FP.ddiv (FP.l2d (ps - fn)) (FP.l2d ps))), (.double r1)])) _
    refine XS.dcmpS X7.here hx rfl (hb hby at_101) rfl rfl ?_
    show Steps p.tables e below (T7.setTop (mkF m 102 #[.val (.int p1), .val (.int p2), .val (.long q3), .second, .val (.long q4), .second, .val (.int p5), .val (.int (p5 &&& (3 : Int32))), .val (.long q3), .second, .val (.long (((p2.toInt64) <<< ((32 : Int32) &&& 0x3f).toInt64) ^^^ q4)), .second, .val (.int (p1 &&& (31 : Int32))), .val (.long ps), .second, .val (.long fn), .second, .val (.double (FP.ddiv (FP.l2d (ps - fn)) (FP.l2d ps))), .second, .unset, .unset, .unset, .unset] [(.int (cmpValue (FP.dcmp r1 (FP.ddiv (FP.l2d (ps - fn)) (FP.l2d ps))) .l))])) _
    refine XS.ifNo X7.here hx rfl (hb hby at_102) rfl ((if0 _ _).trans (teq hc102).2) ?_
    show Steps p.tables e below (T7.setTop (mkF m 105 #[.val (.int p1), .val (.int p2), .val (.long q3), .second, .val (.long q4), .second, .val (.int p5), .val (.int (p5 &&& (3 : Int32))), .val (.long q3), .second, .val (.long (((p2.toInt64) <<< ((32 : Int32) &&& 0x3f).toInt64) ^^^ q4)), .second, .val (.int (p1 &&& (31 : Int32))), .val (.long ps), .second, .val (.long fn), .second, .val (.double (FP.ddiv (FP.l2d (ps - fn)) (FP.l2d ps))), .second, .unset, .unset, .unset, .unset] [])) _
    refine XS.iconst X7.here hx rfl (hb hby at_105) ?_
    show Steps p.tables e below (T7.setTop (mkF m 106 #[.val (.int p1), .val (.int p2), .val (.long q3), .second, .val (.long q4), .second, .val (.int p5), .val (.int (p5 &&& (3 : Int32))), .val (.long q3), .second, .val (.long (((p2.toInt64) <<< ((32 : Int32) &&& 0x3f).toInt64) ^^^ q4)), .second, .val (.int (p1 &&& (31 : Int32))), .val (.long ps), .second, .val (.long fn), .second, .val (.double (FP.ddiv (FP.l2d (ps - fn)) (FP.l2d ps))), .second, .unset, .unset, .unset, .unset] [(.int (1 : Int32))])) _
    refine XS.goto X7.here hx rfl (pc0 := 106) (pc' := 110) rfl (hb hby at_106) (by decide) (by decide) ?_
    show Steps p.tables e below (T7.setTop (mkF m 110 #[.val (.int p1), .val (.int p2), .val (.long q3), .second, .val (.long q4), .second, .val (.int p5), .val (.int (p5 &&& (3 : Int32))), .val (.long q3), .second, .val (.long (((p2.toInt64) <<< ((32 : Int32) &&& 0x3f).toInt64) ^^^ q4)), .second, .val (.int (p1 &&& (31 : Int32))), .val (.long ps), .second, .val (.long fn), .second, .val (.double (FP.ddiv (FP.l2d (ps - fn)) (FP.l2d ps))), .second, .unset, .unset, .unset, .unset] [(.int (1 : Int32))])) _
    exact retN X7 hx (t := .boolean) Bd.returns (by simp) (hb hby at_110) hr
  · show Q0 Z h0 n0 _ T7.heap _
    exact ⟨rfl, N7⟩
theorem pd_0_0 : parseMethodDescriptor "(JJ)J" = some ⟨[.long, .long], some .long⟩ := by decide +kernel
set_option maxRecDepth 65536 in
set_option maxHeartbeats 40000000 in
theorem rm0C (l : Launch) (Z : State) (a0 : Array Value) (hw : ∀ d ∈ tables_1, d.before a0 Z = true) (ws : List Jvm.Cond) (p1 : Int32) (p2 : Int32) (q3 : Int64) (q4 : Int64) (p5 : Int32) (ps : Int64) (fn : Int64) (r1 : UInt64) (r2 : UInt64) (h0 : Heap) (n0 : Nat) (Z0 : n0 ≤ h0.size) (hnz143_sgQ : ¬ ((((1 : Int64) + (((p1.toInt64) &&& (2147483647 : Int64)) * ((1 : Int64) + ((((p5.toUInt32 >>> ((2 : Int32) &&& 31).toUInt32).toInt32).toInt64) &&& (65535 : Int64))))) + (1 : Int64)) = (0 : Int64))) (h_ps : ((1 : Int64) + (((p1.toInt64) &&& (2147483647 : Int64)) * ((1 : Int64) + ((((p5.toUInt32 >>> ((2 : Int32) &&& 31).toUInt32).toInt32).toInt64) &&& (65535 : Int64))))) = ps) (h_fn : ((q4 &&& (9223372036854775807 : Int64)) - ((q4 &&& (9223372036854775807 : Int64)) / (ps + (1 : Int64))) * (ps + (1 : Int64))) = fn) (h_r1 : (own_f6 (q3 + ps) q3 fn) = r1) (h_r2 : (own_f6 (q3 + ps) q3 (own_f1 (fn + (1 : Int64)) ps)) = r2) (H_sgF : ((¬ ((lcmpW fn (0 : Int64)) = (0 : Int32)))) ∨ (((lcmpW fn (0 : Int64)) = (0 : Int32)) ∧ (¬ ((1 : Int32) = (0 : Int32))) ∧ ((cmpValue (FP.dcmp r1 FP.dconst1) .l) = (0 : Int32)))) (H_sgG : ((¬ ((lcmpW fn ps) = (0 : Int32)))) ∨ (((lcmpW fn ps) = (0 : Int32)) ∧ (¬ ((1 : Int32) = (0 : Int32))) ∧ ((cmpValue (FP.dcmp r1 FP.dconst0) .l) = (0 : Int32)))) (hc21 : ¬ ((p5 &&& (3 : Int32)) = (0 : Int32))) (hc48 : ¬ ((p5 &&& (3 : Int32)) = (1 : Int32))) (hc187 : ¬ ((0 : Int32) < (cmpValue (FP.dcmp FP.dconst0 r1) .g))) (hc194 : ¬ ((0 : Int32) < (cmpValue (FP.dcmp r1 FP.dconst1) .g))) (hc202 : ¬ ((0 : Int32) < (cmpValue (FP.dcmp r2 r1) .g))) :
    MetFree l x (head1 (Jvm.Cond.code x code maxLocals ret :: ws) room_1) (fun a U => a = #[(.int p1), (.int p2), (.long q3), (.long q4), (.int p5)] ∧ Z.Warmed39 U.vm ∧ U.heap = h0) (fun _ _ _ _ _ => True) (fun _ U o U' => ∃ v L, o = .returned v ∧ Q0 Z h0 n0 v U'.heap L ∧ FrameEnd U o U' L room_1.cells room_1.slots) := by
  refine MetFree.of_bodySF (plainFor_of_name pn_0) hisR ?_
  intro p e s m args below meth c s₁ Bd hml0 hP hK
  obtain ⟨rfl, hZ, hh⟩ := hP
  have hx := Bd.exec
  have hby := Bd.bytes
  have hml : c.maxLocals = 23 := hml0
  have hown : s.vm.findClass "com/example/bits_for_sets/bitsforsets/tool/ReplayCountsTruePositiveRatePinLaw" = some m.cls := findClass_of_methodNamed Bd.named
  have hnm := (name_of_methodNamed Bd.named Bd.method).1
  have X0 : Stand p l e room_1 s m #[(.int p1), (.int p2), (.long q3), (.long q4), (.int p5)] below meth c s₁ [] 0 0 := Stand.of_body Bd
  have e0 : s₁.heap = h0 := by rw [← hh, Bd.state]; rfl
  have N0 := Fr.nil n0
  have pre0 : ∀ t, Steps p.tables e below (s₁.setTop (mkF m 0 #[.val (.int p1), .val (.int p2), .val (.long q3), .second, .val (.long q4), .second, .val (.int p5), .unset, .unset, .unset, .unset, .unset, .unset, .unset, .unset, .unset, .unset, .unset, .unset, .unset, .unset, .unset, .unset] [])) t → Steps p.tables e below (s₁.setTop (entryFrame m #[(.int p1), (.int p2), (.long q3), (.long q4), (.int p5)] maxLocals)) t := fun t k => castTop (ef_0 m p1 p2 q3 q4 p5) k
  obtain ⟨T6, X6, e6, st6⟩ := sgQ p1 p2 q3 q4 p5 ((p5 &&& (3 : Int32))) q3 ((((p2.toInt64) <<< ((32 : Int32) &&& 0x3f).toInt64) ^^^ q4)) X0 hx hZ hw hby hml hown e0 hnz143_sgQ
  rw [h_ps] at st6
  rw [h_fn] at st6
  obtain ⟨_, _, ⟨T7, L7, k7, n7⟩, -, X7, ⟨Lc7, hQ7, l7, y7, z7⟩, st7⟩ := Jvm.LawKit.callS X6 hx (y := (⟨"java/lang/Math", "min", "(JJ)J"⟩ : MethodName)) hown (mvT hZ (hw _ (List.mem_of_getElem? (i := 3) rfl))) (mvT hZ (hw _ (List.mem_of_getElem? (i := 4) rfl))) (mvT hZ (hw _ (List.mem_of_getElem? (i := 5) rfl))) (mvT hZ (hw _ (List.mem_of_getElem? (i := 6) rfl))) (by decide) (backOf (W := 0) (rm1 l Z a0 hw [] (fn + (1 : Int64)) ps h0 n0 Z0) hZ (hw _ (List.mem_of_getElem? (i := 6) rfl)) (hw _ (List.mem_of_getElem? (i := 5) rfl)) (by decide) (by decide)) (g := (mkF m 152 #[.val (.int p1), .val (.int p2), .val (.long q3), .second, .val (.long q4), .second, .val (.int p5), .val (.int (p5 &&& (3 : Int32))), .val (.long q3), .second, .val (.long (((p2.toInt64) <<< ((32 : Int32) &&& 0x3f).toInt64) ^^^ q4)), .second, .val (.long ps), .second, .val (.long fn), .second, .unset, .unset, .unset, .unset, .unset, .unset, .unset] [(.long ps), (.long (fn + (1 : Int64)))])) rfl (by rw [hml]; rfl) (argsL := [(.long (fn + (1 : Int64))), (.long ps)]) (rest := []) (lenOf pd_0_0 rfl) rfl (by show 2 * 0 + _ ≤ _; exact Nat.le_of_eq rfl) (hb hby at_152) (fun _ _ => ⟨rfl, e6, (by decide : 0 + 0 ≤ _), (by decide : 0 + 0 ≤ _)⟩)
  dsimp only [Pt.U, Pt.locs, Pt.cells, Pt.slots] at X7 l7 y7 z7 st7 hQ7
  subst l7 y7 z7
  obtain ⟨rfl, N7q, e7⟩ := hQ7
  have N7 := Fr.app N0 N7q
  obtain ⟨_, _, ⟨T8, L8, k8, n8⟩, -, X8, ⟨Lc8, hQ8, l8, y8, z8⟩, st8⟩ := Jvm.LawKit.callS X7 hx (y := (⟨"com/example/bits_for_sets/bitsforsets/tool/ReplayCountsTruePositiveRatePinLaw", "tpr", "(JJJJ)D"⟩ : MethodName)) hown (mvT hZ (hw _ (List.mem_of_getElem? (i := 7) rfl))) (mvT hZ (hw _ (List.mem_of_getElem? (i := 8) rfl))) (mvT hZ (hw _ (List.mem_of_getElem? (i := 9) rfl))) (mvT hZ (hw _ (List.mem_of_getElem? (i := 10) rfl))) (by decide) (backOf (W := 0) (rm2 l Z a0 hw [] q3 ps fn (((p2.toInt64) <<< ((32 : Int32) &&& 0x3f).toInt64) ^^^ q4) h0 n0 Z0) hZ (hw _ (List.mem_of_getElem? (i := 10) rfl)) (hw _ (List.mem_of_getElem? (i := 9) rfl)) (by decide) (by decide)) (g := (mkF m 165 #[.val (.int p1), .val (.int p2), .val (.long q3), .second, .val (.long q4), .second, .val (.int p5), .val (.int (p5 &&& (3 : Int32))), .val (.long q3), .second, .val (.long (((p2.toInt64) <<< ((32 : Int32) &&& 0x3f).toInt64) ^^^ q4)), .second, .val (.long ps), .second, .val (.long fn), .second, .val (.long (own_f1 (fn + (1 : Int64)) ps)), .second, .unset, .unset, .unset, .unset, .unset] [(.long (((p2.toInt64) <<< ((32 : Int32) &&& 0x3f).toInt64) ^^^ q4)), (.long fn), (.long ps), (.long q3)])) rfl (by rw [hml]; rfl) (argsL := [(.long q3), (.long ps), (.long fn), (.long (((p2.toInt64) <<< ((32 : Int32) &&& 0x3f).toInt64) ^^^ q4))]) (rest := []) (lenOf pd_0_1 rfl) rfl (by show 2 * 0 + _ ≤ _; exact Nat.le_of_eq rfl) (hb hby at_165) (fun _ _ => ⟨rfl, e7, (by decide : 0 + 1 ≤ _), (by decide : 0 + 8 ≤ _)⟩)
  dsimp only [Pt.U, Pt.locs, Pt.cells, Pt.slots] at X8 l8 y8 z8 st8 hQ8
  subst l8 y8 z8
  obtain ⟨rfl, N8q, K8⟩ := hQ8
  have N8 := Fr.app N7 N8q
  rw [h_r1] at st8
  obtain ⟨_, _, ⟨T9, L9, k9, n9⟩, -, X9, ⟨Lc9, hQ9, l9, y9, z9⟩, st9⟩ := Jvm.LawKit.callS X8 hx (y := (⟨"com/example/bits_for_sets/bitsforsets/tool/ReplayCountsTruePositiveRatePinLaw", "tpr", "(JJJJ)D"⟩ : MethodName)) hown (mvT hZ (hw _ (List.mem_of_getElem? (i := 7) rfl))) (mvT hZ (hw _ (List.mem_of_getElem? (i := 8) rfl))) (mvT hZ (hw _ (List.mem_of_getElem? (i := 9) rfl))) (mvT hZ (hw _ (List.mem_of_getElem? (i := 10) rfl))) (by decide) (backOf (W := 0) (rm2 l Z a0 hw [] q3 ps (own_f1 (fn + (1 : Int64)) ps) (((p2.toInt64) <<< ((32 : Int32) &&& 0x3f).toInt64) ^^^ q4) T8.heap n0 (Nat.le_trans Z0 K8.1)) hZ (hw _ (List.mem_of_getElem? (i := 10) rfl)) (hw _ (List.mem_of_getElem? (i := 9) rfl)) (by decide) (by decide)) (g := (mkF m 178 #[.val (.int p1), .val (.int p2), .val (.long q3), .second, .val (.long q4), .second, .val (.int p5), .val (.int (p5 &&& (3 : Int32))), .val (.long q3), .second, .val (.long (((p2.toInt64) <<< ((32 : Int32) &&& 0x3f).toInt64) ^^^ q4)), .second, .val (.long ps), .second, .val (.long fn), .second, .val (.long (own_f1 (fn + (1 : Int64)) ps)), .second, .val (.double r1), .second, .unset, .unset, .unset] [(.long (((p2.toInt64) <<< ((32 : Int32) &&& 0x3f).toInt64) ^^^ q4)), (.long (own_f1 (fn + (1 : Int64)) ps)), (.long ps), (.long q3)])) rfl (by rw [hml]; rfl) (argsL := [(.long q3), (.long ps), (.long (own_f1 (fn + (1 : Int64)) ps)), (.long (((p2.toInt64) <<< ((32 : Int32) &&& 0x3f).toInt64) ^^^ q4))]) (rest := []) (lenOf pd_0_1 rfl) rfl (by show 2 * 0 + _ ≤ _; exact Nat.le_of_eq rfl) (hb hby at_178) (fun _ _ => ⟨rfl, rfl, (by decide : 1 + 1 ≤ _), (by decide : 8 + 8 ≤ _)⟩)
  dsimp only [Pt.U, Pt.locs, Pt.cells, Pt.slots] at X9 l9 y9 z9 st9 hQ9
  subst l9 y9 z9
  obtain ⟨rfl, N9q, K9⟩ := hQ9
  have N9 := Fr.app N8 N9q
  rw [h_r2] at st9
  obtain ⟨T10, X10, e10, st10⟩ := sgF p1 p2 q3 q4 p5 ((p5 &&& (3 : Int32))) q3 ((((p2.toInt64) <<< ((32 : Int32) &&& 0x3f).toInt64) ^^^ q4)) ps fn ((own_f1 (fn + (1 : Int64)) ps)) r1 r2 X9 hx hZ hw hby hml hown rfl H_sgF
  obtain ⟨T11, X11, e11, st11⟩ := sgG p1 p2 q3 q4 p5 ((p5 &&& (3 : Int32))) q3 ((((p2.toInt64) <<< ((32 : Int32) &&& 0x3f).toInt64) ^^^ q4)) ps fn ((own_f1 (fn + (1 : Int64)) ps)) r1 r2 X10 hx hZ hw hby hml hown e10 H_sgG
  obtain ⟨fs, hr, hrun, hended, hW, hsame⟩ := X11.leave (v := some (.int (1 : Int32))) (fun h => by rw [Bd.returns] at h; cases h)
  refine ⟨_, _, pre0 _ ?_, hrun, hended, _, _, rfl, ?_, ⟨_, rfl⟩, hW, hsame.mono (by decide) (by decide)⟩
  · show Steps p.tables e below (s₁.setTop (mkF m 0 #[.val (.int p1), .val (.int p2), .val (.long q3), .second, .val (.long q4), .second, .val (.int p5), .unset, .unset, .unset, .unset, .unset, .unset, .unset, .unset, .unset, .unset, .unset, .unset, .unset, .unset, .unset, .unset] [])) _
    refine XS.iload X0.here hx rfl (hb hby at_0) rfl ?_
    show Steps p.tables e below (s₁.setTop (mkF m 2 #[.val (.int p1), .val (.int p2), .val (.long q3), .second, .val (.long q4), .second, .val (.int p5), .unset, .unset, .unset, .unset, .unset, .unset, .unset, .unset, .unset, .unset, .unset, .unset, .unset, .unset, .unset, .unset] [(.int p5)])) _
    refine XS.iconst X0.here hx rfl (hb hby at_2) ?_
    show Steps p.tables e below (s₁.setTop (mkF m 3 #[.val (.int p1), .val (.int p2), .val (.long q3), .second, .val (.long q4), .second, .val (.int p5), .unset, .unset, .unset, .unset, .unset, .unset, .unset, .unset, .unset, .unset, .unset, .unset, .unset, .unset, .unset, .unset] [(.int (3 : Int32)), (.int p5)])) _
    refine XS.iand X0.here hx rfl (hb hby at_3) rfl ?_
    show Steps p.tables e below (s₁.setTop (mkF m 4 #[.val (.int p1), .val (.int p2), .val (.long q3), .second, .val (.long q4), .second, .val (.int p5), .unset, .unset, .unset, .unset, .unset, .unset, .unset, .unset, .unset, .unset, .unset, .unset, .unset, .unset, .unset, .unset] [(.int (p5 &&& (3 : Int32)))])) _
    refine XS.istore X0.here hx rfl (hb hby at_4) rfl (l' := #[.val (.int p1), .val (.int p2), .val (.long q3), .second, .val (.long q4), .second, .val (.int p5), .val (.int (p5 &&& (3 : Int32))), .unset, .unset, .unset, .unset, .unset, .unset, .unset, .unset, .unset, .unset, .unset, .unset, .unset, .unset, .unset]) rfl ?_
    show Steps p.tables e below (s₁.setTop (mkF m 6 #[.val (.int p1), .val (.int p2), .val (.long q3), .second, .val (.long q4), .second, .val (.int p5), .val (.int (p5 &&& (3 : Int32))), .unset, .unset, .unset, .unset, .unset, .unset, .unset, .unset, .unset, .unset, .unset, .unset, .unset, .unset, .unset] [])) _
    refine XS.lloadN X0.here hx rfl (hb hby at_6) rfl ?_
    show Steps p.tables e below (s₁.setTop (mkF m 7 #[.val (.int p1), .val (.int p2), .val (.long q3), .second, .val (.long q4), .second, .val (.int p5), .val (.int (p5 &&& (3 : Int32))), .unset, .unset, .unset, .unset, .unset, .unset, .unset, .unset, .unset, .unset, .unset, .unset, .unset, .unset, .unset] [(.long q3)])) _
    refine XS.lstore X0.here hx rfl (hb hby at_7) rfl (l' := #[.val (.int p1), .val (.int p2), .val (.long q3), .second, .val (.long q4), .second, .val (.int p5), .val (.int (p5 &&& (3 : Int32))), .val (.long q3), .second, .unset, .unset, .unset, .unset, .unset, .unset, .unset, .unset, .unset, .unset, .unset, .unset, .unset]) rfl ?_
    show Steps p.tables e below (s₁.setTop (mkF m 9 #[.val (.int p1), .val (.int p2), .val (.long q3), .second, .val (.long q4), .second, .val (.int p5), .val (.int (p5 &&& (3 : Int32))), .val (.long q3), .second, .unset, .unset, .unset, .unset, .unset, .unset, .unset, .unset, .unset, .unset, .unset, .unset, .unset] [])) _
    refine XS.iloadN X0.here hx rfl (hb hby at_9) rfl ?_
    show Steps p.tables e below (s₁.setTop (mkF m 10 #[.val (.int p1), .val (.int p2), .val (.long q3), .second, .val (.long q4), .second, .val (.int p5), .val (.int (p5 &&& (3 : Int32))), .val (.long q3), .second, .unset, .unset, .unset, .unset, .unset, .unset, .unset, .unset, .unset, .unset, .unset, .unset, .unset] [(.int p2)])) _
    refine XS.i2l X0.here hx rfl (hb hby at_10) rfl ?_
    show Steps p.tables e below (s₁.setTop (mkF m 11 #[.val (.int p1), .val (.int p2), .val (.long q3), .second, .val (.long q4), .second, .val (.int p5), .val (.int (p5 &&& (3 : Int32))), .val (.long q3), .second, .unset, .unset, .unset, .unset, .unset, .unset, .unset, .unset, .unset, .unset, .unset, .unset, .unset] [(.long (p2.toInt64))])) _
    refine XS.bipush X0.here hx rfl (hb hby at_11) ?_
    show Steps p.tables e below (s₁.setTop (mkF m 13 #[.val (.int p1), .val (.int p2), .val (.long q3), .second, .val (.long q4), .second, .val (.int p5), .val (.int (p5 &&& (3 : Int32))), .val (.long q3), .second, .unset, .unset, .unset, .unset, .unset, .unset, .unset, .unset, .unset, .unset, .unset, .unset, .unset] [(.int (32 : Int32)), (.long (p2.toInt64))])) _
    refine XS.lshl X0.here hx rfl (hb hby at_13) rfl ?_
    show Steps p.tables e below (s₁.setTop (mkF m 14 #[.val (.int p1), .val (.int p2), .val (.long q3), .second, .val (.long q4), .second, .val (.int p5), .val (.int (p5 &&& (3 : Int32))), .val (.long q3), .second, .unset, .unset, .unset, .unset, .unset, .unset, .unset, .unset, .unset, .unset, .unset, .unset, .unset] [(.long ((p2.toInt64) <<< ((32 : Int32) &&& 0x3f).toInt64))])) _
    refine XS.lload X0.here hx rfl (hb hby at_14) rfl ?_
    show Steps p.tables e below (s₁.setTop (mkF m 16 #[.val (.int p1), .val (.int p2), .val (.long q3), .second, .val (.long q4), .second, .val (.int p5), .val (.int (p5 &&& (3 : Int32))), .val (.long q3), .second, .unset, .unset, .unset, .unset, .unset, .unset, .unset, .unset, .unset, .unset, .unset, .unset, .unset] [(.long q4), (.long ((p2.toInt64) <<< ((32 : Int32) &&& 0x3f).toInt64))])) _
    refine XS.lxor X0.here hx rfl (hb hby at_16) rfl ?_
    show Steps p.tables e below (s₁.setTop (mkF m 17 #[.val (.int p1), .val (.int p2), .val (.long q3), .second, .val (.long q4), .second, .val (.int p5), .val (.int (p5 &&& (3 : Int32))), .val (.long q3), .second, .unset, .unset, .unset, .unset, .unset, .unset, .unset, .unset, .unset, .unset, .unset, .unset, .unset] [(.long (((p2.toInt64) <<< ((32 : Int32) &&& 0x3f).toInt64) ^^^ q4))])) _
    refine XS.lstore X0.here hx rfl (hb hby at_17) rfl (l' := #[.val (.int p1), .val (.int p2), .val (.long q3), .second, .val (.long q4), .second, .val (.int p5), .val (.int (p5 &&& (3 : Int32))), .val (.long q3), .second, .val (.long (((p2.toInt64) <<< ((32 : Int32) &&& 0x3f).toInt64) ^^^ q4)), .second, .unset, .unset, .unset, .unset, .unset, .unset, .unset, .unset, .unset, .unset, .unset]) rfl ?_
    show Steps p.tables e below (s₁.setTop (mkF m 19 #[.val (.int p1), .val (.int p2), .val (.long q3), .second, .val (.long q4), .second, .val (.int p5), .val (.int (p5 &&& (3 : Int32))), .val (.long q3), .second, .val (.long (((p2.toInt64) <<< ((32 : Int32) &&& 0x3f).toInt64) ^^^ q4)), .second, .unset, .unset, .unset, .unset, .unset, .unset, .unset, .unset, .unset, .unset, .unset] [])) _
    refine XS.iload X0.here hx rfl (hb hby at_19) rfl ?_
    show Steps p.tables e below (s₁.setTop (mkF m 21 #[.val (.int p1), .val (.int p2), .val (.long q3), .second, .val (.long q4), .second, .val (.int p5), .val (.int (p5 &&& (3 : Int32))), .val (.long q3), .second, .val (.long (((p2.toInt64) <<< ((32 : Int32) &&& 0x3f).toInt64) ^^^ q4)), .second, .unset, .unset, .unset, .unset, .unset, .unset, .unset, .unset, .unset, .unset, .unset] [(.int (p5 &&& (3 : Int32)))])) _
    refine XS.ifYes X0.here hx rfl (pc0 := 21) (pc' := 45) rfl (hb hby at_21) rfl ((if0 _ _).trans (feq hc21).2) (by decide) (by decide) ?_
    show Steps p.tables e below (s₁.setTop (mkF m 45 #[.val (.int p1), .val (.int p2), .val (.long q3), .second, .val (.long q4), .second, .val (.int p5), .val (.int (p5 &&& (3 : Int32))), .val (.long q3), .second, .val (.long (((p2.toInt64) <<< ((32 : Int32) &&& 0x3f).toInt64) ^^^ q4)), .second, .unset, .unset, .unset, .unset, .unset, .unset, .unset, .unset, .unset, .unset, .unset] [])) _
    refine XS.iload X0.here hx rfl (hb hby at_45) rfl ?_
    show Steps p.tables e below (s₁.setTop (mkF m 47 #[.val (.int p1), .val (.int p2), .val (.long q3), .second, .val (.long q4), .second, .val (.int p5), .val (.int (p5 &&& (3 : Int32))), .val (.long q3), .second, .val (.long (((p2.toInt64) <<< ((32 : Int32) &&& 0x3f).toInt64) ^^^ q4)), .second, .unset, .unset, .unset, .unset, .unset, .unset, .unset, .unset, .unset, .unset, .unset] [(.int (p5 &&& (3 : Int32)))])) _
    refine XS.iconst X0.here hx rfl (hb hby at_47) ?_
    show Steps p.tables e below (s₁.setTop (mkF m 48 #[.val (.int p1), .val (.int p2), .val (.long q3), .second, .val (.long q4), .second, .val (.int p5), .val (.int (p5 &&& (3 : Int32))), .val (.long q3), .second, .val (.long (((p2.toInt64) <<< ((32 : Int32) &&& 0x3f).toInt64) ^^^ q4)), .second, .unset, .unset, .unset, .unset, .unset, .unset, .unset, .unset, .unset, .unset, .unset] [(.int (1 : Int32)), (.int (p5 &&& (3 : Int32)))])) _
    refine XS.icmpYes X0.here hx rfl (pc0 := 48) (pc' := 111) rfl (hb hby at_48) rfl (feq hc48).2 (by decide) (by decide) ?_
    show Steps p.tables e below (s₁.setTop (mkF m 111 #[.val (.int p1), .val (.int p2), .val (.long q3), .second, .val (.long q4), .second, .val (.int p5), .val (.int (p5 &&& (3 : Int32))), .val (.long q3), .second, .val (.long (((p2.toInt64) <<< ((32 : Int32) &&& 0x3f).toInt64) ^^^ q4)), .second, .unset, .unset, .unset, .unset, .unset, .unset, .unset, .unset, .unset, .unset, .unset] [])) _
    refine st6 _ ?_
    show Steps p.tables e below (T6.setTop (mkF m 146 #[.val (.int p1), .val (.int p2), .val (.long q3), .second, .val (.long q4), .second, .val (.int p5), .val (.int (p5 &&& (3 : Int32))), .val (.long q3), .second, .val (.long (((p2.toInt64) <<< ((32 : Int32) &&& 0x3f).toInt64) ^^^ q4)), .second, .val (.long ps), .second, .val (.long fn), .second, .unset, .unset, .unset, .unset, .unset, .unset, .unset] [])) _
    refine XS.lload X6.here hx rfl (hb hby at_146) rfl ?_
    show Steps p.tables e below (T6.setTop (mkF m 148 #[.val (.int p1), .val (.int p2), .val (.long q3), .second, .val (.long q4), .second, .val (.int p5), .val (.int (p5 &&& (3 : Int32))), .val (.long q3), .second, .val (.long (((p2.toInt64) <<< ((32 : Int32) &&& 0x3f).toInt64) ^^^ q4)), .second, .val (.long ps), .second, .val (.long fn), .second, .unset, .unset, .unset, .unset, .unset, .unset, .unset] [(.long fn)])) _
    refine XS.lconst X6.here hx rfl (hb hby at_148) ?_
    show Steps p.tables e below (T6.setTop (mkF m 149 #[.val (.int p1), .val (.int p2), .val (.long q3), .second, .val (.long q4), .second, .val (.int p5), .val (.int (p5 &&& (3 : Int32))), .val (.long q3), .second, .val (.long (((p2.toInt64) <<< ((32 : Int32) &&& 0x3f).toInt64) ^^^ q4)), .second, .val (.long ps), .second, .val (.long fn), .second, .unset, .unset, .unset, .unset, .unset, .unset, .unset] [(.long (1 : Int64)), (.long fn)])) _
    refine XS.ladd X6.here hx rfl (hb hby at_149) rfl ?_
    show Steps p.tables e below (T6.setTop (mkF m 150 #[.val (.int p1), .val (.int p2), .val (.long q3), .second, .val (.long q4), .second, .val (.int p5), .val (.int (p5 &&& (3 : Int32))), .val (.long q3), .second, .val (.long (((p2.toInt64) <<< ((32 : Int32) &&& 0x3f).toInt64) ^^^ q4)), .second, .val (.long ps), .second, .val (.long fn), .second, .unset, .unset, .unset, .unset, .unset, .unset, .unset] [(.long (fn + (1 : Int64)))])) _
    refine XS.lload X6.here hx rfl (hb hby at_150) rfl ?_
    show Steps p.tables e below (T6.setTop (mkF m 152 #[.val (.int p1), .val (.int p2), .val (.long q3), .second, .val (.long q4), .second, .val (.int p5), .val (.int (p5 &&& (3 : Int32))), .val (.long q3), .second, .val (.long (((p2.toInt64) <<< ((32 : Int32) &&& 0x3f).toInt64) ^^^ q4)), .second, .val (.long ps), .second, .val (.long fn), .second, .unset, .unset, .unset, .unset, .unset, .unset, .unset] [(.long ps), (.long (fn + (1 : Int64)))])) _
    refine st7 _ ?_
    show Steps p.tables e below (T7.setTop (mkF m 155 #[.val (.int p1), .val (.int p2), .val (.long q3), .second, .val (.long q4), .second, .val (.int p5), .val (.int (p5 &&& (3 : Int32))), .val (.long q3), .second, .val (.long (((p2.toInt64) <<< ((32 : Int32) &&& 0x3f).toInt64) ^^^ q4)), .second, .val (.long ps), .second, .val (.long fn), .second, .unset, .unset, .unset, .unset, .unset, .unset, .unset] [(.long (own_f1 (fn + (1 : Int64)) ps))])) _
    refine XS.lstore X7.here hx rfl (hb hby at_155) rfl (l' := #[.val (.int p1), .val (.int p2), .val (.long q3), .second, .val (.long q4), .second, .val (.int p5), .val (.int (p5 &&& (3 : Int32))), .val (.long q3), .second, .val (.long (((p2.toInt64) <<< ((32 : Int32) &&& 0x3f).toInt64) ^^^ q4)), .second, .val (.long ps), .second, .val (.long fn), .second, .val (.long (own_f1 (fn + (1 : Int64)) ps)), .second, .unset, .unset, .unset, .unset, .unset]) rfl ?_
    show Steps p.tables e below (T7.setTop (mkF m 157 #[.val (.int p1), .val (.int p2), .val (.long q3), .second, .val (.long q4), .second, .val (.int p5), .val (.int (p5 &&& (3 : Int32))), .val (.long q3), .second, .val (.long (((p2.toInt64) <<< ((32 : Int32) &&& 0x3f).toInt64) ^^^ q4)), .second, .val (.long ps), .second, .val (.long fn), .second, .val (.long (own_f1 (fn + (1 : Int64)) ps)), .second, .unset, .unset, .unset, .unset, .unset] [])) _
    refine XS.lload X7.here hx rfl (hb hby at_157) rfl ?_
    show Steps p.tables e below (T7.setTop (mkF m 159 #[.val (.int p1), .val (.int p2), .val (.long q3), .second, .val (.long q4), .second, .val (.int p5), .val (.int (p5 &&& (3 : Int32))), .val (.long q3), .second, .val (.long (((p2.toInt64) <<< ((32 : Int32) &&& 0x3f).toInt64) ^^^ q4)), .second, .val (.long ps), .second, .val (.long fn), .second, .val (.long (own_f1 (fn + (1 : Int64)) ps)), .second, .unset, .unset, .unset, .unset, .unset] [(.long q3)])) _
    refine XS.lload X7.here hx rfl (hb hby at_159) rfl ?_
    show Steps p.tables e below (T7.setTop (mkF m 161 #[.val (.int p1), .val (.int p2), .val (.long q3), .second, .val (.long q4), .second, .val (.int p5), .val (.int (p5 &&& (3 : Int32))), .val (.long q3), .second, .val (.long (((p2.toInt64) <<< ((32 : Int32) &&& 0x3f).toInt64) ^^^ q4)), .second, .val (.long ps), .second, .val (.long fn), .second, .val (.long (own_f1 (fn + (1 : Int64)) ps)), .second, .unset, .unset, .unset, .unset, .unset] [(.long ps), (.long q3)])) _
    refine XS.lload X7.here hx rfl (hb hby at_161) rfl ?_
    show Steps p.tables e below (T7.setTop (mkF m 163 #[.val (.int p1), .val (.int p2), .val (.long q3), .second, .val (.long q4), .second, .val (.int p5), .val (.int (p5 &&& (3 : Int32))), .val (.long q3), .second, .val (.long (((p2.toInt64) <<< ((32 : Int32) &&& 0x3f).toInt64) ^^^ q4)), .second, .val (.long ps), .second, .val (.long fn), .second, .val (.long (own_f1 (fn + (1 : Int64)) ps)), .second, .unset, .unset, .unset, .unset, .unset] [(.long fn), (.long ps), (.long q3)])) _
    refine XS.lload X7.here hx rfl (hb hby at_163) rfl ?_
    show Steps p.tables e below (T7.setTop (mkF m 165 #[.val (.int p1), .val (.int p2), .val (.long q3), .second, .val (.long q4), .second, .val (.int p5), .val (.int (p5 &&& (3 : Int32))), .val (.long q3), .second, .val (.long (((p2.toInt64) <<< ((32 : Int32) &&& 0x3f).toInt64) ^^^ q4)), .second, .val (.long ps), .second, .val (.long fn), .second, .val (.long (own_f1 (fn + (1 : Int64)) ps)), .second, .unset, .unset, .unset, .unset, .unset] [(.long (((p2.toInt64) <<< ((32 : Int32) &&& 0x3f).toInt64) ^^^ q4)), (.long fn), (.long ps), (.long q3)])) _
    refine st8 _ ?_
    show Steps p.tables e below (T8.setTop (mkF m 168 #[.val (.int p1), .val (.int p2), .val (.long q3), .second, .val (.long q4), .second, .val (.int p5), .val (.int (p5 &&& (3 : Int32))), .val (.long q3), .second, .val (.long (((p2.toInt64) <<< ((32 : Int32) &&& 0x3f).toInt64) ^^^ q4)), .second, .val (.long ps), .second, .val (.long fn), .second, .val (.long (own_f1 (fn + (1 : Int64)) ps)), .second, .unset, .unset, .unset, .unset, .unset] [(.double r1)])) _
    refine XS.dstore X8.here hx rfl (hb hby at_168) rfl (l' := #[.val (.int p1), .val (.int p2), .val (.long q3), .second, .val (.long q4), .second, .val (.int p5), .val (.int (p5 &&& (3 : Int32))), .val (.long q3), .second, .val (.long (((p2.toInt64) <<< ((32 : Int32) &&& 0x3f).toInt64) ^^^ q4)), .second, .val (.long ps), .second, .val (.long fn), .second, .val (.long (own_f1 (fn + (1 : Int64)) ps)), .second, .val (.double r1), .second, .unset, .unset, .unset]) rfl ?_
    show Steps p.tables e below (T8.setTop (mkF m 170 #[.val (.int p1), .val (.int p2), .val (.long q3), .second, .val (.long q4), .second, .val (.int p5), .val (.int (p5 &&& (3 : Int32))), .val (.long q3), .second, .val (.long (((p2.toInt64) <<< ((32 : Int32) &&& 0x3f).toInt64) ^^^ q4)), .second, .val (.long ps), .second, .val (.long fn), .second, .val (.long (own_f1 (fn + (1 : Int64)) ps)), .second, .val (.double r1), .second, .unset, .unset, .unset] [])) _
    refine XS.lload X8.here hx rfl (hb hby at_170) rfl ?_
    show Steps p.tables e below (T8.setTop (mkF m 172 #[.val (.int p1), .val (.int p2), .val (.long q3), .second, .val (.long q4), .second, .val (.int p5), .val (.int (p5 &&& (3 : Int32))), .val (.long q3), .second, .val (.long (((p2.toInt64) <<< ((32 : Int32) &&& 0x3f).toInt64) ^^^ q4)), .second, .val (.long ps), .second, .val (.long fn), .second, .val (.long (own_f1 (fn + (1 : Int64)) ps)), .second, .val (.double r1), .second, .unset, .unset, .unset] [(.long q3)])) _
    refine XS.lload X8.here hx rfl (hb hby at_172) rfl ?_
    show Steps p.tables e below (T8.setTop (mkF m 174 #[.val (.int p1), .val (.int p2), .val (.long q3), .second, .val (.long q4), .second, .val (.int p5), .val (.int (p5 &&& (3 : Int32))), .val (.long q3), .second, .val (.long (((p2.toInt64) <<< ((32 : Int32) &&& 0x3f).toInt64) ^^^ q4)), .second, .val (.long ps), .second, .val (.long fn), .second, .val (.long (own_f1 (fn + (1 : Int64)) ps)), .second, .val (.double r1), .second, .unset, .unset, .unset] [(.long ps), (.long q3)])) _
    refine XS.lload X8.here hx rfl (hb hby at_174) rfl ?_
    show Steps p.tables e below (T8.setTop (mkF m 176 #[.val (.int p1), .val (.int p2), .val (.long q3), .second, .val (.long q4), .second, .val (.int p5), .val (.int (p5 &&& (3 : Int32))), .val (.long q3), .second, .val (.long (((p2.toInt64) <<< ((32 : Int32) &&& 0x3f).toInt64) ^^^ q4)), .second, .val (.long ps), .second, .val (.long fn), .second, .val (.long (own_f1 (fn + (1 : Int64)) ps)), .second, .val (.double r1), .second, .unset, .unset, .unset] [(.long (own_f1 (fn + (1 : Int64)) ps)), (.long ps), (.long q3)])) _
    refine XS.lload X8.here hx rfl (hb hby at_176) rfl ?_
    show Steps p.tables e below (T8.setTop (mkF m 178 #[.val (.int p1), .val (.int p2), .val (.long q3), .second, .val (.long q4), .second, .val (.int p5), .val (.int (p5 &&& (3 : Int32))), .val (.long q3), .second, .val (.long (((p2.toInt64) <<< ((32 : Int32) &&& 0x3f).toInt64) ^^^ q4)), .second, .val (.long ps), .second, .val (.long fn), .second, .val (.long (own_f1 (fn + (1 : Int64)) ps)), .second, .val (.double r1), .second, .unset, .unset, .unset] [(.long (((p2.toInt64) <<< ((32 : Int32) &&& 0x3f).toInt64) ^^^ q4)), (.long (own_f1 (fn + (1 : Int64)) ps)), (.long ps), (.long q3)])) _
    refine st9 _ ?_
    show Steps p.tables e below (T9.setTop (mkF m 181 #[.val (.int p1), .val (.int p2), .val (.long q3), .second, .val (.long q4), .second, .val (.int p5), .val (.int (p5 &&& (3 : Int32))), .val (.long q3), .second, .val (.long (((p2.toInt64) <<< ((32 : Int32) &&& 0x3f).toInt64) ^^^ q4)), .second, .val (.long ps), .second, .val (.long fn), .second, .val (.long (own_f1 (fn + (1 : Int64)) ps)), .second, .val (.double r1), .second, .unset, .unset, .unset] [(.double r2)])) _
    refine XS.dstore X9.here hx rfl (hb hby at_181) rfl (l' := #[.val (.int p1), .val (.int p2), .val (.long q3), .second, .val (.long q4), .second, .val (.int p5), .val (.int (p5 &&& (3 : Int32))), .val (.long q3), .second, .val (.long (((p2.toInt64) <<< ((32 : Int32) &&& 0x3f).toInt64) ^^^ q4)), .second, .val (.long ps), .second, .val (.long fn), .second, .val (.long (own_f1 (fn + (1 : Int64)) ps)), .second, .val (.double r1), .second, .val (.double r2), .second, .unset]) rfl ?_
    show Steps p.tables e below (T9.setTop (mkF m 183 #[.val (.int p1), .val (.int p2), .val (.long q3), .second, .val (.long q4), .second, .val (.int p5), .val (.int (p5 &&& (3 : Int32))), .val (.long q3), .second, .val (.long (((p2.toInt64) <<< ((32 : Int32) &&& 0x3f).toInt64) ^^^ q4)), .second, .val (.long ps), .second, .val (.long fn), .second, .val (.long (own_f1 (fn + (1 : Int64)) ps)), .second, .val (.double r1), .second, .val (.double r2), .second, .unset] [])) _
    refine XS.dconst0 X9.here hx rfl (hb hby at_183) rfl ?_
    show Steps p.tables e below (T9.setTop (mkF m 184 #[.val (.int p1), .val (.int p2), .val (.long q3), .second, .val (.long q4), .second, .val (.int p5), .val (.int (p5 &&& (3 : Int32))), .val (.long q3), .second, .val (.long (((p2.toInt64) <<< ((32 : Int32) &&& 0x3f).toInt64) ^^^ q4)), .second, .val (.long ps), .second, .val (.long fn), .second, .val (.long (own_f1 (fn + (1 : Int64)) ps)), .second, .val (.double r1), .second, .val (.double r2), .second, .unset] [(.double FP.dconst0)])) _
    refine XS.dload X9.here hx rfl (hb hby at_184) rfl ?_
    show Steps p.tables e below (T9.setTop (mkF m 186 #[.val (.int p1), .val (.int p2), .val (.long q3), .second, .val (.long q4), .second, .val (.int p5), .val (.int (p5 &&& (3 : Int32))), .val (.long q3), .second, .val (.long (((p2.toInt64) <<< ((32 : Int32) &&& 0x3f).toInt64) ^^^ q4)), .second, .val (.long ps), .second, .val (.long fn), .second, .val (.long (own_f1 (fn + (1 : Int64)) ps)), .second, .val (.double r1), .second, .val (.double r2), .second, .unset] [(.double r1), (.double FP.dconst0)])) _
    refine XS.dcmpS X9.here hx rfl (hb hby at_186) rfl rfl ?_
    show Steps p.tables e below (T9.setTop (mkF m 187 #[.val (.int p1), .val (.int p2), .val (.long q3), .second, .val (.long q4), .second, .val (.int p5), .val (.int (p5 &&& (3 : Int32))), .val (.long q3), .second, .val (.long (((p2.toInt64) <<< ((32 : Int32) &&& 0x3f).toInt64) ^^^ q4)), .second, .val (.long ps), .second, .val (.long fn), .second, .val (.long (own_f1 (fn + (1 : Int64)) ps)), .second, .val (.double r1), .second, .val (.double r2), .second, .unset] [(.int (cmpValue (FP.dcmp FP.dconst0 r1) .g))])) _
    refine XS.ifNo X9.here hx rfl (hb hby at_187) rfl ((if0 _ _).trans (flt hc187).2.2.1) ?_
    show Steps p.tables e below (T9.setTop (mkF m 190 #[.val (.int p1), .val (.int p2), .val (.long q3), .second, .val (.long q4), .second, .val (.int p5), .val (.int (p5 &&& (3 : Int32))), .val (.long q3), .second, .val (.long (((p2.toInt64) <<< ((32 : Int32) &&& 0x3f).toInt64) ^^^ q4)), .second, .val (.long ps), .second, .val (.long fn), .second, .val (.long (own_f1 (fn + (1 : Int64)) ps)), .second, .val (.double r1), .second, .val (.double r2), .second, .unset] [])) _
    refine XS.dload X9.here hx rfl (hb hby at_190) rfl ?_
    show Steps p.tables e below (T9.setTop (mkF m 192 #[.val (.int p1), .val (.int p2), .val (.long q3), .second, .val (.long q4), .second, .val (.int p5), .val (.int (p5 &&& (3 : Int32))), .val (.long q3), .second, .val (.long (((p2.toInt64) <<< ((32 : Int32) &&& 0x3f).toInt64) ^^^ q4)), .second, .val (.long ps), .second, .val (.long fn), .second, .val (.long (own_f1 (fn + (1 : Int64)) ps)), .second, .val (.double r1), .second, .val (.double r2), .second, .unset] [(.double r1)])) _
    refine XS.dconst1 X9.here hx rfl (hb hby at_192) rfl ?_
    show Steps p.tables e below (T9.setTop (mkF m 193 #[.val (.int p1), .val (.int p2), .val (.long q3), .second, .val (.long q4), .second, .val (.int p5), .val (.int (p5 &&& (3 : Int32))), .val (.long q3), .second, .val (.long (((p2.toInt64) <<< ((32 : Int32) &&& 0x3f).toInt64) ^^^ q4)), .second, .val (.long ps), .second, .val (.long fn), .second, .val (.long (own_f1 (fn + (1 : Int64)) ps)), .second, .val (.double r1), .second, .val (.double r2), .second, .unset] [(.double FP.dconst1), (.double r1)])) _
    refine XS.dcmpS X9.here hx rfl (hb hby at_193) rfl rfl ?_
    show Steps p.tables e below (T9.setTop (mkF m 194 #[.val (.int p1), .val (.int p2), .val (.long q3), .second, .val (.long q4), .second, .val (.int p5), .val (.int (p5 &&& (3 : Int32))), .val (.long q3), .second, .val (.long (((p2.toInt64) <<< ((32 : Int32) &&& 0x3f).toInt64) ^^^ q4)), .second, .val (.long ps), .second, .val (.long fn), .second, .val (.long (own_f1 (fn + (1 : Int64)) ps)), .second, .val (.double r1), .second, .val (.double r2), .second, .unset] [(.int (cmpValue (FP.dcmp r1 FP.dconst1) .g))])) _
    refine XS.ifNo X9.here hx rfl (hb hby at_194) rfl ((if0 _ _).trans (flt hc194).2.2.1) ?_
    show Steps p.tables e below (T9.setTop (mkF m 197 #[.val (.int p1), .val (.int p2), .val (.long q3), .second, .val (.long q4), .second, .val (.int p5), .val (.int (p5 &&& (3 : Int32))), .val (.long q3), .second, .val (.long (((p2.toInt64) <<< ((32 : Int32) &&& 0x3f).toInt64) ^^^ q4)), .second, .val (.long ps), .second, .val (.long fn), .second, .val (.long (own_f1 (fn + (1 : Int64)) ps)), .second, .val (.double r1), .second, .val (.double r2), .second, .unset] [])) _
    refine XS.dload X9.here hx rfl (hb hby at_197) rfl ?_
    show Steps p.tables e below (T9.setTop (mkF m 199 #[.val (.int p1), .val (.int p2), .val (.long q3), .second, .val (.long q4), .second, .val (.int p5), .val (.int (p5 &&& (3 : Int32))), .val (.long q3), .second, .val (.long (((p2.toInt64) <<< ((32 : Int32) &&& 0x3f).toInt64) ^^^ q4)), .second, .val (.long ps), .second, .val (.long fn), .second, .val (.long (own_f1 (fn + (1 : Int64)) ps)), .second, .val (.double r1), .second, .val (.double r2), .second, .unset] [(.double r2)])) _
    refine XS.dload X9.here hx rfl (hb hby at_199) rfl ?_
    show Steps p.tables e below (T9.setTop (mkF m 201 #[.val (.int p1), .val (.int p2), .val (.long q3), .second, .val (.long q4), .second, .val (.int p5), .val (.int (p5 &&& (3 : Int32))), .val (.long q3), .second, .val (.long (((p2.toInt64) <<< ((32 : Int32) &&& 0x3f).toInt64) ^^^ q4)), .second, .val (.long ps), .second, .val (.long fn), .second, .val (.long (own_f1 (fn + (1 : Int64)) ps)), .second, .val (.double r1), .second, .val (.double r2), .second, .unset] [(.double r1), (.double r2)])) _
    refine XS.dcmpS X9.here hx rfl (hb hby at_201) rfl rfl ?_
    show Steps p.tables e below (T9.setTop (mkF m 202 #[.val (.int p1), .val (.int p2), .val (.long q3), .second, .val (.long q4), .second, .val (.int p5), .val (.int (p5 &&& (3 : Int32))), .val (.long q3), .second, .val (.long (((p2.toInt64) <<< ((32 : Int32) &&& 0x3f).toInt64) ^^^ q4)), .second, .val (.long ps), .second, .val (.long fn), .second, .val (.long (own_f1 (fn + (1 : Int64)) ps)), .second, .val (.double r1), .second, .val (.double r2), .second, .unset] [(.int (cmpValue (FP.dcmp r2 r1) .g))])) _
    refine XS.ifNo X9.here hx rfl (hb hby at_202) rfl ((if0 _ _).trans (flt hc202).2.2.1) ?_
    show Steps p.tables e below (T9.setTop (mkF m 205 #[.val (.int p1), .val (.int p2), .val (.long q3), .second, .val (.long q4), .second, .val (.int p5), .val (.int (p5 &&& (3 : Int32))), .val (.long q3), .second, .val (.long (((p2.toInt64) <<< ((32 : Int32) &&& 0x3f).toInt64) ^^^ q4)), .second, .val (.long ps), .second, .val (.long fn), .second, .val (.long (own_f1 (fn + (1 : Int64)) ps)), .second, .val (.double r1), .second, .val (.double r2), .second, .unset] [])) _
    refine XS.iconst X9.here hx rfl (hb hby at_205) ?_
    show Steps p.tables e below (T9.setTop (mkF m 206 #[.val (.int p1), .val (.int p2), .val (.long q3), .second, .val (.long q4), .second, .val (.int p5), .val (.int (p5 &&& (3 : Int32))), .val (.long q3), .second, .val (.long (((p2.toInt64) <<< ((32 : Int32) &&& 0x3f).toInt64) ^^^ q4)), .second, .val (.long ps), .second, .val (.long fn), .second, .val (.long (own_f1 (fn + (1 : Int64)) ps)), .second, .val (.double r1), .second, .val (.double r2), .second, .unset] [(.int (1 : Int32))])) _
    refine XS.goto X9.here hx rfl (pc0 := 206) (pc' := 210) rfl (hb hby at_206) (by decide) (by decide) ?_
    show Steps p.tables e below (T9.setTop (mkF m 210 #[.val (.int p1), .val (.int p2), .val (.long q3), .second, .val (.long q4), .second, .val (.int p5), .val (.int (p5 &&& (3 : Int32))), .val (.long q3), .second, .val (.long (((p2.toInt64) <<< ((32 : Int32) &&& 0x3f).toInt64) ^^^ q4)), .second, .val (.long ps), .second, .val (.long fn), .second, .val (.long (own_f1 (fn + (1 : Int64)) ps)), .second, .val (.double r1), .second, .val (.double r2), .second, .unset] [(.int (1 : Int32))])) _
    refine XS.istore X9.here hx rfl (hb hby at_210) rfl (l' := #[.val (.int p1), .val (.int p2), .val (.long q3), .second, .val (.long q4), .second, .val (.int p5), .val (.int (p5 &&& (3 : Int32))), .val (.long q3), .second, .val (.long (((p2.toInt64) <<< ((32 : Int32) &&& 0x3f).toInt64) ^^^ q4)), .second, .val (.long ps), .second, .val (.long fn), .second, .val (.long (own_f1 (fn + (1 : Int64)) ps)), .second, .val (.double r1), .second, .val (.double r2), .second, .val (.int (1 : Int32))]) rfl ?_
    show Steps p.tables e below (T9.setTop (mkF m 212 #[.val (.int p1), .val (.int p2), .val (.long q3), .second, .val (.long q4), .second, .val (.int p5), .val (.int (p5 &&& (3 : Int32))), .val (.long q3), .second, .val (.long (((p2.toInt64) <<< ((32 : Int32) &&& 0x3f).toInt64) ^^^ q4)), .second, .val (.long ps), .second, .val (.long fn), .second, .val (.long (own_f1 (fn + (1 : Int64)) ps)), .second, .val (.double r1), .second, .val (.double r2), .second, .val (.int (1 : Int32))] [])) _
    refine st10 _ ?_
    show Steps p.tables e below (T10.setTop (mkF m 238 #[.val (.int p1), .val (.int p2), .val (.long q3), .second, .val (.long q4), .second, .val (.int p5), .val (.int (p5 &&& (3 : Int32))), .val (.long q3), .second, .val (.long (((p2.toInt64) <<< ((32 : Int32) &&& 0x3f).toInt64) ^^^ q4)), .second, .val (.long ps), .second, .val (.long fn), .second, .val (.long (own_f1 (fn + (1 : Int64)) ps)), .second, .val (.double r1), .second, .val (.double r2), .second, .val (.int (1 : Int32))] [])) _
    refine st11 _ ?_
    show Steps p.tables e below (T11.setTop (mkF m 265 #[.val (.int p1), .val (.int p2), .val (.long q3), .second, .val (.long q4), .second, .val (.int p5), .val (.int (p5 &&& (3 : Int32))), .val (.long q3), .second, .val (.long (((p2.toInt64) <<< ((32 : Int32) &&& 0x3f).toInt64) ^^^ q4)), .second, .val (.long ps), .second, .val (.long fn), .second, .val (.long (own_f1 (fn + (1 : Int64)) ps)), .second, .val (.double r1), .second, .val (.double r2), .second, .val (.int (1 : Int32))] [])) _
    refine XS.iload X11.here hx rfl (hb hby at_265) rfl ?_
    show Steps p.tables e below (T11.setTop (mkF m 267 #[.val (.int p1), .val (.int p2), .val (.long q3), .second, .val (.long q4), .second, .val (.int p5), .val (.int (p5 &&& (3 : Int32))), .val (.long q3), .second, .val (.long (((p2.toInt64) <<< ((32 : Int32) &&& 0x3f).toInt64) ^^^ q4)), .second, .val (.long ps), .second, .val (.long fn), .second, .val (.long (own_f1 (fn + (1 : Int64)) ps)), .second, .val (.double r1), .second, .val (.double r2), .second, .val (.int (1 : Int32))] [(.int (1 : Int32))])) _
    exact retN X11 hx (t := .boolean) Bd.returns (by simp) (hb hby at_267) hr
  · show Q0 Z h0 n0 _ T11.heap _
    rw [e11]
    exact ⟨rfl, N9⟩
set_option maxRecDepth 65536 in
set_option maxHeartbeats 40000000 in
theorem comes_1 {Post : Tables → Env → Array Value → State → Outcome → State → Prop} (hpost : ∀ tb e args s v u, (limb_1_1.after args s (.returned v) u = true ∧ limb_1_2.after args s (.returned v) u = true ∧ True) → FrameEnd s (.returned v) u (Jvm.fieldLocs frame_1_writes args s ++ Jvm.arrayLocs frame_1_arrays args s ++ Jvm.staticLocs frame_1_statics s) 16 128 → Post tb e args s (.returned v) u) :
    ArmFor flags0 classFile x code maxLocals ret World_1 tables_1 room_1 Calls_1 rest_1 Pre_1 Post := by
  intro l hfl _ _ p e ha hc hk s m args below hf hA hF happ hP
  obtain ⟨hcalls, hrest, hpre⟩ := hP
  obtain ⟨-, -, -, hnamed, -, -, -, hat⟩ := (Spec.applies_iff hf).mp happ
  obtain ⟨hg, hn⟩ := and_e (Cond.before_iff.mp (show (Jvm.Cond.and given_1 narrow_1).before args s = true from hpre))
  obtain ⟨g7, g8⟩ := and_e hg
  obtain ⟨g9, g10⟩ := and_e g8
  obtain ⟨g11, g12⟩ := and_e g10
  obtain ⟨g13, g14⟩ := and_e g12
  obtain ⟨g15, g16⟩ := and_e g14
  obtain ⟨w0, w1, w2, w3, w4, rfl⟩ : ∃ w0 w1 w2 w3 w4 : Value, args = #[w0, w1, w2, w3, w4] := by
    have hs : args.size = 5 := by simpa [Cond.value, given_1] using g7
    obtain ⟨L⟩ := args
    match L, hs with
    | [w0, w1, w2, w3, w4], _ => exact ⟨w0, w1, w2, w3, w4, rfl⟩
  have hw := fun d (hd : d ∈ tables_1) => atoms_spec (ws := Jvm.Cond.code x code maxLocals ret :: tables_1) hat d (List.mem_cons_of_mem _ hd)
  have hfit : Fit s := fun {y c} hc i hi => by
    obtain ⟨ha, rfl⟩ := Array.getElem?_eq_some_iff.mp hc
    have q := List.all_eq_true.mp ((Array.all_eq_true_iff_forall_mem.mp hF) _ (Array.getElem_mem ha)) i (List.mem_range.mpr hi)
    simpa [Array.getElem?_eq_getElem hi] using q
  obtain ⟨i0, ei0⟩ := is_v g9
  obtain rfl : w0 = (.int i0) := Option.some.inj ei0
  obtain ⟨i1, ei1⟩ := is_v g11
  obtain rfl : w1 = (.int i1) := Option.some.inj ei1
  obtain ⟨i2, ei2⟩ := isL_v g13
  obtain rfl : w2 = (.long i2) := Option.some.inj ei2
  obtain ⟨i3, ei3⟩ := isL_v g15
  obtain rfl : w3 = (.long i3) := Option.some.inj ei3
  obtain ⟨i4, ei4⟩ := is_v g16
  obtain rfl : w4 = (.int i4) := Option.some.inj ei4
  by_cases h21 : (i4 &&& (3 : Int32)) = (0 : Int32)
  · obtain ⟨r1, h_r1⟩ : ∃ z, (own_f6 (i2 + (0 : Int64)) i2 i3) = z := ⟨_, rfl⟩
    obtain ⟨n, o, h1, h2, h3, _, L, rfl, ⟨rfl, N⟩, hq⟩ := rm0A l s _ hw tables_1 i0 i1 i2 i3 i4 r1 s.heap s.heap.size (Nat.le_refl _) h_r1 h21 (own_HA h_r1) p e ha hc hk s m _ below hf ((Spec.applies_iff_loose hf).mp happ).1 ⟨rfl, State.Warmed39.refl s, rfl⟩ trivial
    refine ⟨n, _, h1, h2, h3, hpost _ _ _ _ _ _ ⟨Cond.after_iff.mpr rfl, Cond.after_iff.mpr (eq_i res_at (Term.int_eval (1)) rfl), trivial⟩ ⟨hq.1, hq.2.1, (hq.2.2.sift fun y hy => Or.inr (N y hy)).mono (by decide) (by decide)⟩⟩
  · by_cases h48 : (i4 &&& (3 : Int32)) = (1 : Int32)
    · obtain ⟨k, hk31, hpk⟩ := own_psB i0
      obtain ⟨ps, h_ps⟩ : ∃ z, ((1 : Int64) <<< ((i0 &&& (31 : Int32)) &&& 0x3f).toInt64) = z := ⟨_, rfl⟩
      rw [h_ps] at hpk
      have hps : 0 < ps.toInt := by have := Nat.two_pow_pos k; omega
      obtain ⟨fn, h_fn⟩ : ∃ z, ((i3 &&& (9223372036854775807 : Int64)) - ((i3 &&& (9223372036854775807 : Int64)) / (ps + (1 : Int64))) * (ps + (1 : Int64))) = z := ⟨_, rfl⟩
      have hfn : 0 ≤ fn.toInt ∧ fn.toInt ≤ ps.toInt := by rw [← h_fn]; exact own_rem (own_land i3 _ (by decide)).1 (by omega)
      obtain ⟨r1, h_r1⟩ : ∃ z, (own_f6 (i2 + ps) i2 fn) = z := ⟨_, rfl⟩
      have hB := own_HB hk31 hpk hfn.1 hfn.2 h_r1
      obtain ⟨n, o, h1, h2, h3, _, L, rfl, ⟨rfl, N⟩, hq⟩ := rm0B l s _ hw tables_1 i0 i1 i2 i3 i4 ps fn r1 s.heap s.heap.size (Nat.le_refl _) (by rw [h_ps]; exact own_n1 (by omega)) h_ps h_fn h_r1 h21 h48 hB.1 hB.2 p e ha hc hk s m _ below hf ((Spec.applies_iff_loose hf).mp happ).1 ⟨rfl, State.Warmed39.refl s, rfl⟩ trivial
      refine ⟨n, _, h1, h2, h3, hpost _ _ _ _ _ _ ⟨Cond.after_iff.mpr rfl, Cond.after_iff.mpr (eq_i res_at (Term.int_eval (1)) rfl), trivial⟩ ⟨hq.1, hq.2.1, (hq.2.2.sift fun y hy => Or.inr (N y hy)).mono (by decide) (by decide)⟩⟩
    · obtain ⟨ps, h_ps⟩ : ∃ z, ((1 : Int64) + (((i0.toInt64) &&& (2147483647 : Int64)) * ((1 : Int64) + ((((i4.toUInt32 >>> ((2 : Int32) &&& 31).toUInt32).toInt32).toInt64) &&& (65535 : Int64))))) = z := ⟨_, rfl⟩
      have hps : 0 < ps.toInt ∧ ps.toInt < 9007199254740992 := by rw [← h_ps]; exact own_psC _ _
      obtain ⟨fn, h_fn⟩ : ∃ z, ((i3 &&& (9223372036854775807 : Int64)) - ((i3 &&& (9223372036854775807 : Int64)) / (ps + (1 : Int64))) * (ps + (1 : Int64))) = z := ⟨_, rfl⟩
      have hfn : 0 ≤ fn.toInt ∧ fn.toInt ≤ ps.toInt := by rw [← h_fn]; exact own_rem (own_land i3 _ (by decide)).1 (by omega)
      obtain ⟨r1, h_r1⟩ : ∃ z, (own_f6 (i2 + ps) i2 fn) = z := ⟨_, rfl⟩
      obtain ⟨r2, h_r2⟩ : ∃ z, (own_f6 (i2 + ps) i2 (own_f1 (fn + (1 : Int64)) ps)) = z := ⟨_, rfl⟩
      have hf2 := own_f2 hfn.1 hfn.2 hps.2
      have hC := own_HC hfn.1 hfn.2 hf2.1 hf2.2 hps.1 h_r1 h_r2
      obtain ⟨n, o, h1, h2, h3, _, L, rfl, ⟨rfl, N⟩, hq⟩ := rm0C l s _ hw tables_1 i0 i1 i2 i3 i4 ps fn r1 r2 s.heap s.heap.size (Nat.le_refl _) (by rw [h_ps]; exact own_n1 (by omega)) h_ps h_fn h_r1 h_r2 hC.2.2.2.1 hC.2.2.2.2 h21 h48 hC.1 hC.2.1 hC.2.2.1 p e ha hc hk s m _ below hf ((Spec.applies_iff_loose hf).mp happ).1 ⟨rfl, State.Warmed39.refl s, rfl⟩ trivial
      refine ⟨n, _, h1, h2, h3, hpost _ _ _ _ _ _ ⟨Cond.after_iff.mpr rfl, Cond.after_iff.mpr (eq_i res_at (Term.int_eval (1)) rfl), trivial⟩ ⟨hq.1, hq.2.1, (hq.2.2.sift fun y hy => Or.inr (N y hy)).mono (by decide) (by decide)⟩⟩
theorem main_1_1 : Claimed_1_1 := comes_1 fun _ _ _ _ _ _ h hF => ⟨h.1, hF⟩
theorem main_1_2 : Claimed_1_2 := comes_1 fun _ _ _ _ _ _ h hF => ⟨h.2.1, hF⟩
end Jvm.Pilot.@@N@@
namespace Jvm.Pilot.@@N@@
open Jvm Jvm.ClassFile Sem Op Lib Jvm.Free Jvm.Stand Jvm.Pilot.@@N@@.Jvm.D
/-! MADE BY PROGRAM (witnessworld.py) out of the Statement's table words and the real class files: 11 classes; the members and pool entries that the words name. The judged class is class 1, her method 2. -/
namespace start1
open Jvm.ClassFile
def u (s : String) : CpInfo := .utf8 (stringToUtf16 s)
/-- a pool by its gaps: so many unusable entries, then the entry; so many at the end -/
def gap : Nat → List CpInfo → List CpInfo
  | 0, r => r
  | n + 1, r => .unusable :: gap n r
def poolList (es : List (Nat × CpInfo)) (last : Nat) : List CpInfo := es.foldr (fun e r => gap e.1 (e.2 :: r)) (gap last [])
def pool (es : List (Nat × CpInfo)) (last : Nat) : Array CpInfo := ⟨poolList es last⟩
def fileOf (pool : Array CpInfo) (this : Nat) (attrs : Array Attribute := #[]) (ms : Array MethodInfo := #[]) (fl : Nat := 33) (sup : Nat := 0) (ifs : Array Nat := #[]) (fds : Array FieldInfo := #[]) : ClassFile where
  minorVersion := 0
  majorVersion := 65
  constantPool := pool
  accessFlags := fl
  thisClass := this
  superClass := sup
  interfaces := ifs
  fields := fds
  methods := ms
  attributes := attrs
def plain (name : String) (sup : Option ClassId) : Class where
  name := name
  kind := .ordinary
  loader := none
  accessFlags := 33
  super := sup
  interfaces := #[]
  cf := none
  fields := #[]
  methods := #[]
  instanceTypes := #[]
  staticTypes := #[]
  resolved := #[]
  callSites := []
  init := .initialized
  statics := none
  mirror := none

def pool0 : Array CpInfo := pool [(5, u "<init>"), (0, u "()V"), (1, .class_ 10), (1, u "java/lang/Object")] 113

def k0c0 : Code := { maxStack := 0, maxLocals := 1, code := object_method_1_code, exceptionTable := #[], attributes := #[] }
def k0m0 : Method := { name := "<init>", desc := "()V", sig := { parameters := [], returnType := none }, accessFlags := 1, code := some k0c0 }
/-- java/lang/Object -/
def k0 : Class := { plain "java/lang/Object" none with
  accessFlags := 33
  interfaces := #[]
  cf := some (fileOf pool0 8 #[] #[{ accessFlags := 1, nameIndex := 5, descriptorIndex := 6, attributes := #[] }] 33 0 #[] #[])
  fields := #[]
  methods := #[k0m0]
  instanceTypes := #[]
  staticTypes := #[]
  resolved := Array.replicate 124 none
  statics := none }

def pool1 : Array CpInfo := pool [(2, .class_ 4), (1, u "java/lang/Object"), (0, u "<init>"), (0, u "()V"), (0, .class_ 8), (0, u "com/example/bits_for_sets/bitsforsets/tool/ReplayCounts"), (0, .long 18446744073709551615), (1, .methodref 7 12), (0, .nameAndType 5 13), (0, u "(JJJJJJLjava/util/Optional;Ljava/util/Optional;)V"), (0, .methodref 7 15), (0, .nameAndType 16 17), (0, u "truePositiveRate"), (0, u "()D"), (0, .methodref 19 20), (0, .class_ 21), (0, .nameAndType 22 23), (0, u "com/example/bits_for_sets/bitsforsets/tool/ReplayCountsTruePositiveRatePinLaw"), (0, u "tpr"), (0, u "(JJJJ)D"), (2, .long 9223372036854775807), (1, .long 2147483647), (1, .long 65535), (1, .methodref 33 34), (0, .class_ 35), (0, .nameAndType 36 37), (0, u "java/lang/Math"), (0, u "min"), (0, u "(JJ)J"), (2, u "law"), (0, u "(IIJJI)Z")] 3

def k1m0 : Method := { name := "<init>", desc := "()V", sig := { parameters := [], returnType := none }, accessFlags := 1, code := none }
def k1c1 : Code := { maxStack := 16, maxLocals := 9, code := method_2_code, exceptionTable := #[], attributes := #[] }
def k1m1 : Method := { name := "tpr", desc := "(JJJJ)D", sig := { parameters := [.long, .long, .long, .long], returnType := some .double }, accessFlags := 10, code := some k1c1 }
def k1c2 : Code := { maxStack := 10, maxLocals := 23, code := code, exceptionTable := #[], attributes := #[] }
def k1m2 : Method := { name := "law", desc := "(IIJJI)Z", sig := { parameters := [.int, .int, .long, .long, .int], returnType := some .boolean }, accessFlags := 9, code := some k1c2 }
/-- com/example/bits_for_sets/bitsforsets/tool/ReplayCountsTruePositiveRatePinLaw -/
def k1 : Class := { plain "com/example/bits_for_sets/bitsforsets/tool/ReplayCountsTruePositiveRatePinLaw" (some 0) with
  accessFlags := 49
  interfaces := #[]
  cf := some (fileOf pool1 19 #[] #[{ accessFlags := 1, nameIndex := 5, descriptorIndex := 6, attributes := #[] }, { accessFlags := 10, nameIndex := 22, descriptorIndex := 23, attributes := #[] }, { accessFlags := 9, nameIndex := 40, descriptorIndex := 41, attributes := #[] }] 49 2 #[] #[])
  fields := #[]
  methods := #[k1m0, k1m1, k1m2]
  instanceTypes := #[]
  staticTypes := #[]
  resolved := Array.replicate 45 none
  statics := none }

def pool2 : Array CpInfo := pool [(1, .class_ 2), (0, u "java/lang/Math"), (1, .class_ 6), (1, u "java/lang/Object"), (0, u "<init>"), (0, u "()V"), (89, .class_ 100), (1, u "java/lang/Math$RandomNumberGeneratorHolder"), (20, u "(JJ)J"), (50, u "negativeZeroFloatBits"), (0, u "J"), (2, u "negativeZeroDoubleBits"), (24, u "min"), (43, u "$assertionsDisabled"), (0, u "Z"), (91, u "twoToTheDoubleScaleDown"), (0, u "D"), (4, u "twoToTheDoubleScaleUp"), (9, u "E"), (3, u "PI"), (2, u "TAU"), (2, u "DEGREES_TO_RADIANS"), (0, u "RADIANS_TO_DEGREES")] 94

def k2m0 : Method := { name := "<init>", desc := "()V", sig := { parameters := [], returnType := none }, accessFlags := 2, code := none }
def k2c1 : Code := { maxStack := 4, maxLocals := 4, code := jdk_29_method_70_code, exceptionTable := #[], attributes := #[] }
def k2m1 : Method := { name := "min", desc := "(JJ)J", sig := { parameters := [.long, .long], returnType := some .long }, accessFlags := 9, code := some k2c1 }
/-- java/lang/Math -/
def k2 : Class := { plain "java/lang/Math" (some 0) with
  accessFlags := 49
  interfaces := #[]
  cf := some (fileOf pool2 1 #[.nestMembers #[98]] #[{ accessFlags := 2, nameIndex := 7, descriptorIndex := 8, attributes := #[] }, { accessFlags := 9, nameIndex := 201, descriptorIndex := 121, attributes := #[] }] 49 4 #[] #[{ accessFlags := 25, nameIndex := 354, descriptorIndex := 339, attributes := #[] }, { accessFlags := 25, nameIndex := 358, descriptorIndex := 339, attributes := #[] }, { accessFlags := 25, nameIndex := 361, descriptorIndex := 339, attributes := #[] }, { accessFlags := 26, nameIndex := 364, descriptorIndex := 339, attributes := #[] }, { accessFlags := 26, nameIndex := 365, descriptorIndex := 339, attributes := #[] }, { accessFlags := 26, nameIndex := 172, descriptorIndex := 173, attributes := #[] }, { accessFlags := 26, nameIndex := 176, descriptorIndex := 173, attributes := #[] }, { accessFlags := 8, nameIndex := 344, descriptorIndex := 339, attributes := #[] }, { accessFlags := 8, nameIndex := 338, descriptorIndex := 339, attributes := #[] }, { accessFlags := 4120, nameIndex := 245, descriptorIndex := 246, attributes := #[] }])
  fields := #[{ name := "E", type := .double, accessFlags := 25, slot := 0, constantValue := 0 }, { name := "PI", type := .double, accessFlags := 25, slot := 1, constantValue := 0 }, { name := "TAU", type := .double, accessFlags := 25, slot := 2, constantValue := 0 }, { name := "DEGREES_TO_RADIANS", type := .double, accessFlags := 26, slot := 3, constantValue := 0 }, { name := "RADIANS_TO_DEGREES", type := .double, accessFlags := 26, slot := 4, constantValue := 0 }, { name := "negativeZeroFloatBits", type := .long, accessFlags := 26, slot := 5, constantValue := 0 }, { name := "negativeZeroDoubleBits", type := .long, accessFlags := 26, slot := 6, constantValue := 0 }, { name := "twoToTheDoubleScaleUp", type := .double, accessFlags := 8, slot := 7, constantValue := 0 }, { name := "twoToTheDoubleScaleDown", type := .double, accessFlags := 8, slot := 8, constantValue := 0 }, { name := "$assertionsDisabled", type := .boolean, accessFlags := 4120, slot := 9, constantValue := 0 }]
  methods := #[k2m0, k2m1]
  instanceTypes := #[]
  staticTypes := #[.double, .double, .double, .double, .double, .long, .long, .double, .double, .boolean]
  resolved := Array.replicate 460 none
  statics := none }

def pool3 : Array CpInfo := pool [(1, .methodref 2 3), (0, .class_ 4), (0, .nameAndType 5 6), (0, u "java/lang/Object"), (0, u "<init>"), (0, u "()V"), (0, .class_ 8), (0, u "java/lang/Record")] 13

def k3c0 : Code := { maxStack := 1, maxLocals := 1, code := jdk_30_method_1_code, exceptionTable := #[], attributes := #[] }
def k3m0 : Method := { name := "<init>", desc := "()V", sig := { parameters := [], returnType := none }, accessFlags := 4, code := some k3c0 }
/-- java/lang/Record -/
def k3 : Class := { plain "java/lang/Record" (some 0) with
  accessFlags := 1057
  interfaces := #[]
  cf := some (fileOf pool3 7 #[] #[{ accessFlags := 4, nameIndex := 5, descriptorIndex := 6, attributes := #[] }] 1057 2 #[] #[])
  fields := #[]
  methods := #[k3m0]
  instanceTypes := #[]
  staticTypes := #[]
  resolved := Array.replicate 22 none
  statics := none }

def pool4 : Array CpInfo := pool [(1, .methodref 2 3), (0, .class_ 4), (0, .nameAndType 5 6), (0, u "java/lang/Record"), (0, u "<init>"), (0, u "()V"), (0, .fieldref 8 9), (0, .class_ 10), (0, .nameAndType 11 12), (0, u "com/example/bits_for_sets/bitsforsets/tool/ReplayCounts"), (0, u "inserted"), (0, u "J"), (0, .fieldref 8 14), (0, .nameAndType 15 12), (0, u "held"), (0, .fieldref 8 17), (0, .nameAndType 18 12), (0, u "queries"), (0, .fieldref 8 20), (0, .nameAndType 21 12), (0, u "negatives"), (0, .fieldref 8 23), (0, .nameAndType 24 12), (0, u "falsePositives"), (0, .fieldref 8 26), (0, .nameAndType 27 12), (0, u "falseNegatives"), (0, .fieldref 8 29), (0, .nameAndType 30 31), (0, u "deletions"), (0, u "Ljava/util/Optional;"), (0, .fieldref 8 33), (0, .nameAndType 34 31), (0, u "adaptations"), (15, u "(JJJJJJLjava/util/Optional;Ljava/util/Optional;)V"), (5, u "()D"), (1, u "truePositiveRate"), (10, .class_ 70), (0, u "com/example/bits_for_sets/bitsforsets/tool/ReplayCounts$Adaptations"), (0, .class_ 72), (0, u "com/example/bits_for_sets/bitsforsets/tool/ReplayCounts$Deletions")] 27

def k4c0 : Code := { maxStack := 3, maxLocals := 15, code := prog_13_method_1_code, exceptionTable := #[], attributes := #[] }
def k4m0 : Method := { name := "<init>", desc := "(JJJJJJLjava/util/Optional;Ljava/util/Optional;)V", sig := { parameters := [.long, .long, .long, .long, .long, .long, (.object "java/util/Optional"), (.object "java/util/Optional")], returnType := none }, accessFlags := 0, code := some k4c0 }
def k4c1 : Code := { maxStack := 6, maxLocals := 3, code := prog_13_method_3_code, exceptionTable := #[], attributes := #[] }
def k4m1 : Method := { name := "truePositiveRate", desc := "()D", sig := { parameters := [], returnType := some .double }, accessFlags := 0, code := some k4c1 }
/-- com/example/bits_for_sets/bitsforsets/tool/ReplayCounts -/
def k4 : Class := { plain "com/example/bits_for_sets/bitsforsets/tool/ReplayCounts" (some 3) with
  accessFlags := 48
  interfaces := #[]
  cf := some (fileOf pool4 8 #[.nestMembers #[69, 71]] #[{ accessFlags := 0, nameIndex := 5, descriptorIndex := 50, attributes := #[] }, { accessFlags := 0, nameIndex := 58, descriptorIndex := 56, attributes := #[] }] 48 2 #[] #[{ accessFlags := 18, nameIndex := 11, descriptorIndex := 12, attributes := #[] }, { accessFlags := 18, nameIndex := 15, descriptorIndex := 12, attributes := #[] }, { accessFlags := 18, nameIndex := 18, descriptorIndex := 12, attributes := #[] }, { accessFlags := 18, nameIndex := 21, descriptorIndex := 12, attributes := #[] }, { accessFlags := 18, nameIndex := 24, descriptorIndex := 12, attributes := #[] }, { accessFlags := 18, nameIndex := 27, descriptorIndex := 12, attributes := #[] }, { accessFlags := 18, nameIndex := 30, descriptorIndex := 31, attributes := #[] }, { accessFlags := 18, nameIndex := 34, descriptorIndex := 31, attributes := #[] }])
  fields := #[{ name := "inserted", type := .long, accessFlags := 18, slot := 0, constantValue := 0 }, { name := "held", type := .long, accessFlags := 18, slot := 1, constantValue := 0 }, { name := "queries", type := .long, accessFlags := 18, slot := 2, constantValue := 0 }, { name := "negatives", type := .long, accessFlags := 18, slot := 3, constantValue := 0 }, { name := "falsePositives", type := .long, accessFlags := 18, slot := 4, constantValue := 0 }, { name := "falseNegatives", type := .long, accessFlags := 18, slot := 5, constantValue := 0 }, { name := "deletions", type := (.object "java/util/Optional"), accessFlags := 18, slot := 6, constantValue := 0 }, { name := "adaptations", type := (.object "java/util/Optional"), accessFlags := 18, slot := 7, constantValue := 0 }]
  methods := #[k4m0, k4m1]
  instanceTypes := #[.long, .long, .long, .long, .long, .long, (.object "java/util/Optional"), (.object "java/util/Optional")]
  staticTypes := #[]
  resolved := Array.replicate 100 none
  statics := none }

def pool5 : Array CpInfo := pool [(1, u "java/lang/Cloneable"), (0, .class_ 1), (0, u "java/lang/Object"), (0, .class_ 3)] 3

/-- java/lang/Cloneable -/
def k5 : Class := { plain "java/lang/Cloneable" (some 0) with
  accessFlags := 1537
  interfaces := #[]
  cf := some (fileOf pool5 2 #[] #[] 1537 4 #[] #[])
  fields := #[]
  methods := #[]
  instanceTypes := #[]
  staticTypes := #[]
  resolved := Array.replicate 8 none
  statics := none }

def pool6 : Array CpInfo := pool [(1, u "java/io/Serializable"), (0, .class_ 1), (0, u "java/lang/Object"), (0, .class_ 3)] 3

/-- java/io/Serializable -/
def k6 : Class := { plain "java/io/Serializable" (some 0) with
  accessFlags := 1537
  interfaces := #[]
  cf := some (fileOf pool6 2 #[] #[] 1537 4 #[] #[])
  fields := #[]
  methods := #[]
  instanceTypes := #[]
  staticTypes := #[]
  resolved := Array.replicate 8 none
  statics := none }

/-- the primitive byte -/
def k7 : Class := { plain "byte" none with kind := .primitive 'B', accessFlags := 0x411 }
/-- [B -/
def k8 : Class := { plain "[B" (some 0) with kind := .array 7 .byte, interfaces := #[5, 6], accessFlags := 1041 }

/-- the primitive int -/
def k9 : Class := { plain "int" none with kind := .primitive 'I', accessFlags := 0x411 }
/-- [I -/
def k10 : Class := { plain "[I" (some 0) with kind := .array 9 .int, interfaces := #[5, 6], accessFlags := 1041 }

def heap : Heap := #[]
def classes : Array Class := #[k0, k1, k2, k3, k4, k5, k6, k7, k8, k9, k10]
def interned : List (Array UInt16 × Addr) := []
def slotsUsed : Nat := 0
def theMethod : MethodId := ⟨1, 2⟩
def args0 : Array Value := #[.int 5, .int 7, .long 9, .long 2, .int 2]
def aboutOver (below : List Frame) : State where
  vm := { classes := classes, interned := interned.toArray }
  heap := heap
  slotsUsed := slotsUsed
  threads := #[{ frames := .invoking theMethod args0 :: below }]
def below0 : List Frame := [.native { method := ⟨0, 0⟩, args := #[] }]
def about1 : State := aboutOver below0
def p0 : Program := .bare "" "" ""
def e0 : Env := launch0.env 0 0 0
theorem w_frames : about1.frames = Frame.invoking theMethod args0 :: below0 := rfl
set_option maxRecDepth 65536 in
theorem w_args : argsFit about1.vm theMethod args0 = true := by decide +kernel
set_option maxRecDepth 65536 in
theorem w_heap : heapFits about1 = true := by decide +kernel
set_option maxRecDepth 65536 in
theorem w_runnable : about1.curStatus? = some .runnable := by decide +kernel
set_option maxRecDepth 65536 in
theorem w_alone : about1.alone = true := by decide +kernel
set_option maxRecDepth 65536 in
theorem w_named : about1.methodNamed? x = some theMethod := by decide +kernel
set_option maxRecDepth 65536 in
theorem w_hears : about1.hears theMethod below0 = true := by decide +kernel
set_option maxRecDepth 65536 in
theorem w_ripe : about1.ripe theMethod args0 below0 = true := by decide +kernel
theorem w_running : about1.status = .running := rfl
set_option maxRecDepth 65536 in
theorem w_room : about1.hasRoom e0.platform room_1 = true :=
  launch0.hasRoom_least _ room_1 (by decide +kernel) (by decide +kernel) (by decide +kernel) (by decide +kernel) (by decide +kernel) (by decide +kernel)
theorem allAtoms_all (ts : List Jvm.Cond) (a : Array Jvm.Value) (st : Jvm.State) : (allAtoms ts).before a st = ts.all (fun c => c.before a st) := by
  induction ts with
  | nil => rfl
  | cons c t ih =>
    show (Jvm.Cond.and c (allAtoms t)).before a st = _
    rw [Jvm.Cond.before_and, ih, List.all_cons]
def words1 : List Jvm.Cond := Jvm.Cond.code x code maxLocals ret :: tables_1
/-- a 'code' word, met by the world's own term for the bytes: nothing is compared byte by byte -/
theorem code_word {y : MethodName} {bytes : ByteArray} {mx : Nat} {rt : Option FieldType} {a : Array Value} {s : State} {m : MethodId} {meth : Method} {c : Code} (h1 : s.methodNamed? y = some m) (h2 : s.vm.method? m = some meth) (h3 : meth.code = some c) (h4 : c.code = bytes)
    (h5 : (c.maxLocals == mx && c.exceptionTable.isEmpty && decide (c.maxStack ≤ mostOperands) && decide (meth.sig.returnType = rt) && !meth.locks && decide (parseMethodDescriptor y.desc = some meth.sig)) = true) : (Jvm.Cond.code y bytes mx rt).before a s = true := by
  simp only [Bool.and_eq_true, beq_iff_eq, Bool.not_eq_true', decide_eq_true_eq] at h5
  obtain ⟨⟨⟨⟨⟨g1, g2⟩, g3⟩, g4⟩, g5⟩, g6⟩ := h5
  simp [Cond.before, Cond.holds, Cond.value, h1, h2, h3, h4, g1, g2, g3, g4, g5, g6]
def isCode : Jvm.Cond → Bool
  | .code _ _ _ _ => true
  | _ => false
theorem all_split {L : List Jvm.Cond} {P : Jvm.Cond → Bool} (h1 : L.all (fun c => isCode c || P c) = true) (h2 : ∀ c ∈ L.filter isCode, P c = true) : L.all P = true := by
  refine List.all_eq_true.mpr fun c hc => ?_
  have h := List.all_eq_true.mp h1 c hc
  rcases Bool.eq_false_or_eq_true (isCode c) with hi | hi
  · exact h2 c (List.mem_filter.mpr ⟨hc, hi⟩)
  · simpa [hi] using h
set_option maxRecDepth 65536 in
theorem w_c0 : (Jvm.Cond.code x code maxLocals ret).before args0 about1 = true := code_word (m := ⟨1, 2⟩) (meth := k1m2) (c := k1c2) (by decide +kernel) rfl rfl rfl (by decide +kernel)
set_option maxRecDepth 65536 in
theorem w_c1 : (Jvm.Cond.code ({ cls := "java/lang/Math", name := "min", desc := "(JJ)J" } : Jvm.MethodName) jdk_29_method_70_code (4 : Nat) (Option.some Jvm.ClassFile.FieldType.long)).before args0 about1 = true := code_word (m := ⟨2, 1⟩) (meth := k2m1) (c := k2c1) (by decide +kernel) rfl rfl rfl (by decide +kernel)
set_option maxRecDepth 65536 in
theorem w_c2 : (Jvm.Cond.code ({ cls := "com/example/bits_for_sets/bitsforsets/tool/ReplayCountsTruePositiveRatePinLaw", name := "tpr", desc := "(JJJJ)D" } : Jvm.MethodName) method_2_code (9 : Nat) (Option.some Jvm.ClassFile.FieldType.double)).before args0 about1 = true := code_word (m := ⟨1, 1⟩) (meth := k1m1) (c := k1c1) (by decide +kernel) rfl rfl rfl (by decide +kernel)
set_option maxRecDepth 65536 in
theorem w_c3 : (Jvm.Cond.code ({ cls := "com/example/bits_for_sets/bitsforsets/tool/ReplayCounts", name := "<init>", desc := "(JJJJJJLjava/util/Optional;Ljava/util/Optional;)V" } : Jvm.MethodName) prog_13_method_1_code (15 : Nat) (Option.none : Option Jvm.ClassFile.FieldType)).before args0 about1 = true := code_word (m := ⟨4, 0⟩) (meth := k4m0) (c := k4c0) (by decide +kernel) rfl rfl rfl (by decide +kernel)
set_option maxRecDepth 65536 in
theorem w_c4 : (Jvm.Cond.code ({ cls := "java/lang/Record", name := "<init>", desc := "()V" } : Jvm.MethodName) jdk_30_method_1_code (1 : Nat) (Option.none : Option Jvm.ClassFile.FieldType)).before args0 about1 = true := code_word (m := ⟨3, 0⟩) (meth := k3m0) (c := k3c0) (by decide +kernel) rfl rfl rfl (by decide +kernel)
set_option maxRecDepth 65536 in
theorem w_c5 : (Jvm.Cond.code ({ cls := "java/lang/Object", name := "<init>", desc := "()V" } : Jvm.MethodName) object_method_1_code (1 : Nat) (Option.none : Option Jvm.ClassFile.FieldType)).before args0 about1 = true := code_word (m := ⟨0, 0⟩) (meth := k0m0) (c := k0c0) (by decide +kernel) rfl rfl rfl (by decide +kernel)
set_option maxRecDepth 65536 in
theorem w_c6 : (Jvm.Cond.code ({ cls := "com/example/bits_for_sets/bitsforsets/tool/ReplayCounts", name := "truePositiveRate", desc := "()D" } : Jvm.MethodName) prog_13_method_3_code (3 : Nat) (Option.some Jvm.ClassFile.FieldType.double)).before args0 about1 = true := code_word (m := ⟨4, 1⟩) (meth := k4m1) (c := k4c1) (by decide +kernel) rfl rfl rfl (by decide +kernel)
def codes1 : List Jvm.Cond := [Jvm.Cond.code x code maxLocals ret, Jvm.Cond.code ({ cls := "java/lang/Math", name := "min", desc := "(JJ)J" } : Jvm.MethodName) jdk_29_method_70_code (4 : Nat) (Option.some Jvm.ClassFile.FieldType.long), Jvm.Cond.code ({ cls := "com/example/bits_for_sets/bitsforsets/tool/ReplayCountsTruePositiveRatePinLaw", name := "tpr", desc := "(JJJJ)D" } : Jvm.MethodName) method_2_code (9 : Nat) (Option.some Jvm.ClassFile.FieldType.double), Jvm.Cond.code ({ cls := "com/example/bits_for_sets/bitsforsets/tool/ReplayCounts", name := "<init>", desc := "(JJJJJJLjava/util/Optional;Ljava/util/Optional;)V" } : Jvm.MethodName) prog_13_method_1_code (15 : Nat) (Option.none : Option Jvm.ClassFile.FieldType), Jvm.Cond.code ({ cls := "java/lang/Record", name := "<init>", desc := "()V" } : Jvm.MethodName) jdk_30_method_1_code (1 : Nat) (Option.none : Option Jvm.ClassFile.FieldType), Jvm.Cond.code ({ cls := "java/lang/Object", name := "<init>", desc := "()V" } : Jvm.MethodName) object_method_1_code (1 : Nat) (Option.none : Option Jvm.ClassFile.FieldType), Jvm.Cond.code ({ cls := "com/example/bits_for_sets/bitsforsets/tool/ReplayCounts", name := "truePositiveRate", desc := "()D" } : Jvm.MethodName) prog_13_method_3_code (3 : Nat) (Option.some Jvm.ClassFile.FieldType.double)]
set_option maxRecDepth 65536 in
theorem codes_eq : words1.filter isCode = codes1 := rfl
theorem w_codes : ∀ c ∈ words1.filter isCode, c.before args0 about1 = true := by
  rw [codes_eq]
  intro c hc
  simp only [codes1, List.mem_cons, List.not_mem_nil, or_false] at hc
  rcases hc with rfl | rfl | rfl | rfl | rfl | rfl | rfl
  · exact w_c0
  · exact w_c1
  · exact w_c2
  · exact w_c3
  · exact w_c4
  · exact w_c5
  · exact w_c6
set_option maxRecDepth 65536 in
theorem w_t1 : (words1.take 24).all (fun c => isCode c || c.before args0 about1) = true := by decide +kernel
set_option maxRecDepth 65536 in
theorem w_t2 : (words1.drop 24).all (fun c => isCode c || c.before args0 about1) = true := by decide +kernel
theorem w_tables : (allAtoms (Jvm.Cond.code x code maxLocals ret :: tables_1)).before args0 about1 = true := by
  rw [allAtoms_all]
  show words1.all (fun c => c.before args0 about1) = true
  refine all_split ?_ w_codes
  rw [← List.take_append_drop 24 words1, List.all_append, w_t1, w_t2]
  rfl
set_option maxRecDepth 65536 in
theorem w_case : (Jvm.Cond.and given_1 narrow_1).before args0 about1 = true := by decide +kernel
theorem w_applies : (headSpec (Jvm.Cond.code x code maxLocals ret :: tables_1) room_1).applies x e0.platform about1 = true :=
  (Spec.applies_iff w_frames).mpr ⟨w_running, w_runnable, w_alone, w_named, w_hears, w_ripe, w_room, w_tables⟩
theorem atStart : AtStart classFile x code maxLocals ret World_1 tables_1 room_1 Calls_1 rest_1 Pre_1 launch0 p0 e0 about1 theMethod args0 below0 :=
  ⟨lists_1, trivial, launch0.admits_env _ _ _, launch0.least_env, fairChoices_fair.cas, fairChoices_fair.clock, w_frames, w_args, w_heap, w_applies, trivial, trivial, w_case⟩
end start1
theorem witness_1 : WitnessClaimed_1 := ⟨start1.p0, start1.e0, start1.about1, start1.theMethod, start1.args0, start1.below0, start1.atStart⟩
end Jvm.Pilot.@@N@@
