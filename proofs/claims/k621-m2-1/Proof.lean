import JvmDerived
import JvmDerived.Pilot.@@N@@Statement
import JvmDerived.Pilot.@@N@@Code
set_option linter.unusedVariables false
set_option linter.unusedSimpArgs false
namespace Jvm.RoadKit
open Sem ClassFile Op Lib Jvm.Stand Jvm.Free Jvm.LawKit
section New
variable {p : Program} {l : Launch} {e : Env} {R : Room} {s : State} {m : MethodId} {args : Array Value} {below : List Frame} {meth : Method} {c : Code} {T : State} {locs : List Loc} {cells slots : Nat}
theorem retI (X : Stand p l e R s m args below meth c T locs cells slots) (hx : p.tables.exec = Jvm.exec) {pc : Nat} {Ls : Array Slot} {z : Int32} {rest : List Value} (hret : meth.sig.returnType = some .int) (hd : decode c.code pc = .ok (.ireturn, 1)) {fs : List Frame}
    (hl : ∀ (f : JFrame) (acts : List Action), f.method = m → f.locked = none → f.entered = [] → (doReturn e (T.setTop f) acts (some (.int z))).1 = T.setFrames fs) : Steps p.tables e below (T.setTop (mkF m pc Ls (.int z :: rest))) (T.setFrames fs) := by
  have hm' : T.vm.method? m = some meth := X.method'
  have hn : narrow .int (.int z) = .int z := rfl
  show Steps p.tables e below (T.setTop { method := m, pc := pc, locals := Ls, stack := _ :: rest, locked := none }) _
  jvm_step X.here [X.here.top, hx, hd, hm', hret, hn]
  first | (intro acts; rw [hl _ acts rfl rfl rfl]) | rw [hl _ _ rfl rfl rfl]
  exact Steps.refl _
theorem own_retD (X : Stand p l e R s m args below meth c T locs cells slots) (hx : p.tables.exec = Jvm.exec) {pc : Nat} {Ls : Array Slot} {z : UInt64} {rest : List Value} (hret : meth.sig.returnType = some .double) (hd : decode c.code pc = .ok (.dreturn, 1)) {fs : List Frame}
    (hl : ∀ (f : JFrame) (acts : List Action), f.method = m → f.locked = none → f.entered = [] → (doReturn e (T.setTop f) acts (some (.double z))).1 = T.setFrames fs) : Steps p.tables e below (T.setTop (mkF m pc Ls (.double z :: rest))) (T.setFrames fs) := by
  have hm' : T.vm.method? m = some meth := X.method'
  show Steps p.tables e below (T.setTop { method := m, pc := pc, locals := Ls, stack := _ :: rest, locked := none }) _
  jvm_step X.here [X.here.top, hx, hd, hm', hret, narrow]
  first | (intro acts; rw [hl _ acts rfl rfl rfl]) | rw [hl _ _ rfl rfl rfl]
  exact Steps.refl _
end New
end Jvm.RoadKit
namespace Jvm.Pilot.@@N@@
open Jvm Jvm.ClassFile Sem Op Lib Jvm.Free Jvm.Stand Jvm.LawKit Jvm.RoadKit Bundle Jvm.Pilot.@@N@@.Jvm.D
def QV (Z : State) (u : Value) (h0 : Heap) (n0 : Nat) (v : Option Value) (h : Heap) (L : List Loc) : Prop := v = some u ∧ Fr n0 L ∧ h = h0
section OwnFloat
open Jvm.FP.Core
/-- the rounded X / Y, in units of the least double -/
def own_Q (X Y : Nat) : Nat := zmag b64 (roundRatio b64 false X Y 0)
/-- how many of the least double make 1 -/
def own_P : Nat := 2 ^ (0 - b64.qmin).toNat
theorem own_P_pos : 0 < own_P := Nat.two_pow_pos _
theorem own_unit (X : Nat) : inUnits X 0 b64.qmin = X * own_P := rfl
theorem own_near {X Y : Nat} (hY : 0 < Y) {c : Nat} {q : Int} (h : roundRatio b64 false X Y 0 = .fin false c q) (c' : Nat) (q' : Int) (hf : FP.Core.fits b64 (.fin false c' q')) :
    (((X * own_P : Nat) : Int) - (inUnits c q b64.qmin : Int) * (Y : Int)).natAbs ≤ (((X * own_P : Nat) : Int) - (inUnits c' q' b64.qmin : Int) * (Y : Int)).natAbs :=
  roundRatio_nearest good_b64 hY h hf.1 hf.2.1 (Int.le_refl _) (by decide)
/-- two numbers, each the nearest to its ratio, the greater ratio's the lesser: the two ratios are one -/
theorem own_mid {X Y X' Y' R R' P : Nat} (hP : 0 < P) (hY : 0 < Y) (hY' : 0 < Y') (hlt : R' < R)
    (n1 : (((X * P : Nat) : Int) - (R : Int) * (Y : Int)).natAbs ≤ (((X * P : Nat) : Int) - (R' : Int) * (Y : Int)).natAbs)
    (n2 : (((X' * P : Nat) : Int) - (R' : Int) * (Y' : Int)).natAbs ≤ (((X' * P : Nat) : Int) - (R : Int) * (Y' : Int)).natAbs) : X' * Y ≤ X * Y' := by
  have k1 : (R + R') * Y ≤ 2 * (X * P) := by
    have g : R' * Y < R * Y := Nat.mul_lt_mul_of_pos_right hlt hY
    rw [Nat.add_mul]
    rw [← Int.natCast_mul, ← Int.natCast_mul] at n1
    generalize R * Y = a at *
    generalize R' * Y = b at *
    generalize X * P = x at *
    omega
  have k2 : 2 * (X' * P) ≤ (R + R') * Y' := by
    have g : R' * Y' < R * Y' := Nat.mul_lt_mul_of_pos_right hlt hY'
    rw [Nat.add_mul]
    rw [← Int.natCast_mul, ← Int.natCast_mul] at n2
    generalize R * Y' = a at *
    generalize R' * Y' = b at *
    generalize X' * P = x at *
    omega
  have m1 := Nat.mul_le_mul_right Y' k1
  have m2 := Nat.mul_le_mul_right Y k2
  have m3 : (R + R') * Y * Y' = (R + R') * Y' * Y := by ac_rfl
  rw [m3] at m1
  have m4 := Nat.le_trans m2 m1
  have m5 : 2 * (X' * P) * Y = (2 * P) * (X' * Y) := by ac_rfl
  have m6 : 2 * (X * P) * Y' = (2 * P) * (X * Y') := by ac_rfl
  rw [m5, m6] at m4
  exact Nat.le_of_mul_le_mul_left m4 (by omega)
theorem own_same {X Y X' Y' : Nat} (hY : 0 < Y) (hY' : 0 < Y') (h : X * Y' = X' * Y) : roundRatio b64 false X Y 0 = roundRatio b64 false X' Y' 0 :=
  roundRatio_congr hY hY' (by rw [h])
/-- rounding is monotone -/
theorem own_mono {X Y X' Y' : Nat} (hY : 0 < Y) (hY' : 0 < Y') (h : X * Y' ≤ X' * Y) : own_Q X Y ≤ own_Q X' Y' := by
  unfold own_Q
  have hfit := roundRatio_fits good_b64 false X hY 0
  have hfit' := roundRatio_fits good_b64 false X' hY' 0
  refine Nat.le_of_not_lt fun hlt => ?_
  have hne : X * Y' ≠ X' * Y := fun q => by rw [own_same hY hY' q] at hlt; exact Nat.lt_irrefl _ hlt
  rcases roundRatio_cases b64 false X' Y' 0 with ⟨c', q', h'⟩ | h'
  · rcases roundRatio_cases b64 false X Y 0 with ⟨c, q, hR⟩ | hR
    · rw [hR] at hfit hlt
      rw [h'] at hfit' hlt
      have k3 := own_mid own_P_pos hY hY' (R := inUnits c q b64.qmin) (R' := inUnits c' q' b64.qmin) hlt (own_near hY hR c' q' hfit') (own_near hY' h' c q hfit)
      exact hne (Nat.le_antisymm h k3)
    · -- the lesser one is infinite, the greater is not: not so
      have i1 := (roundRatio_inf good_b64 (e0 := b64.qmin - 1) hY (by omega) (by decide)).mp hR
      have i2 : ¬ roundRatio b64 false X' Y' 0 = .inf false := by rw [h']; exact Datum.noConfusion
      rw [roundRatio_inf good_b64 (e0 := b64.qmin - 1) hY' (by omega) (by decide)] at i2
      refine i2 ?_
      have u : ∀ Z : Nat, inUnits Z 0 (b64.qmin - 1) = Z * 2 ^ (0 - (b64.qmin - 1)).toNat := fun _ => rfl
      rw [u] at i1 ⊢
      generalize 2 ^ (0 - (b64.qmin - 1)).toNat = P at *
      generalize (2 ^ (b64.p + 1) - 1) * 2 ^ (b64.qmax - 1 - (b64.qmin - 1)).toNat = K at *
      have j1 := Nat.mul_le_mul_right Y' i1
      have j2 := Nat.mul_le_mul_left P h
      have j3 : K * Y' * Y ≤ X' * P * Y := by
        calc K * Y' * Y = K * Y * Y' := by ac_rfl
          _ ≤ X * P * Y' := j1
          _ = P * (X * Y') := by ac_rfl
          _ ≤ P * (X' * Y) := j2
          _ = X' * P * Y := by ac_rfl
      exact Nat.le_of_mul_le_mul_right j3 hY
  · rw [h'] at hlt
    exact Nat.lt_irrefl _ (Nat.lt_of_lt_of_le hlt (zmag_le_top good_b64 hfit))
theorem own_eq {X Y X' Y' : Nat} (hY : 0 < Y) (hY' : 0 < Y') (h : X * Y' = X' * Y) : own_Q X Y = own_Q X' Y' := by unfold own_Q; rw [own_same hY hY' h]
set_option maxRecDepth 65536 in
theorem own_Q11 : own_Q 1 1 = own_P := by decide +kernel
set_option maxRecDepth 65536 in
theorem own_Q12 : 2 * own_Q 1 2 = own_P := by decide +kernel
set_option maxRecDepth 65536 in
theorem own_Qtiny : 0 < own_Q 1 (2 ^ 64) := by decide +kernel
set_option maxRecDepth 65536 in
theorem own_Qnear : own_Q (2 ^ 53 - 1) (2 ^ 53) < own_P := by decide +kernel
theorem own_Q0 (Y : Nat) : own_Q 0 Y = 0 := by unfold own_Q roundRatio; rw [if_pos rfl]; exact Nat.zero_mul _
set_option maxRecDepth 65536 in
theorem own_Qbig : own_Q (2 ^ 63) 1 = 2 ^ 63 * own_P := by decide +kernel
def own_z (x : UInt64) : Int := zval b64 (val64 x)
def own_N (a : Int64) : Nat := a.toInt.natAbs
def own_M (a : Int64) : Nat := own_Q (own_N a) 1
theorem own_l2d {a : Int64} (h : 0 ≤ a.toInt) : val64 (FP.l2d a) = roundRatio b64 false (own_N a) 1 0 := by
  have h1 : val64 (FP.l2d a) = roundRatio b64 (decide (a.toInt < 0)) a.toInt.natAbs 1 0 := val64_l2d a
  rw [h1, show decide (a.toInt < 0) = false from decide_eq_false (by omega)]; rfl
theorem own_fin {a : Int64} (h : 0 ≤ a.toInt) : ∃ c q, val64 (FP.l2d a) = .fin false c q ∧ b64.qmin ≤ q ∧ inUnits c q b64.qmin = own_M a := by
  obtain ⟨c, q, hs⟩ := l2d_shape a
  rw [show decide (a.toInt < 0) = false from decide_eq_false (by omega)] at hs
  have hf := val64_fits (FP.l2d a)
  have hs' : val64 (FP.l2d a) = .fin false c q := hs
  rw [hs'] at hf
  refine ⟨c, q, hs, hf.2.1, ?_⟩
  unfold own_M own_Q
  rw [← own_l2d h, hs']; rfl
theorem own_M_le {a b : Int64} (h : own_N a ≤ own_N b) : own_M a ≤ own_M b := own_mono (by decide) (by decide) (by rw [Nat.mul_one, Nat.mul_one]; exact h)
theorem own_M_pos {a : Int64} (h : 0 < own_N a) : own_P ≤ own_M a := by
  rw [← own_Q11]; exact own_mono (by decide) (by decide) (by rw [Nat.mul_one, Nat.mul_one]; exact h)
theorem own_N_lt (a : Int64) : own_N a ≤ 2 ^ 63 := by have h1 := Int64.toInt_lt a; have h2 := Int64.le_toInt a; unfold own_N; omega
theorem own_M_big (a : Int64) : own_M a ≤ 2 ^ 63 * own_P := by
  rw [← own_Qbig]; exact own_mono (by decide) (by decide) (by rw [Nat.mul_one, Nat.mul_one]; exact own_N_lt a)
theorem own_div {a b : Int64} (ha : 0 ≤ a.toInt) (hb : 0 < b.toInt) : val64 (FP.ddiv (FP.l2d a) (FP.l2d b)) = roundRatio b64 false (own_M a) (own_M b) 0 := by
  obtain ⟨c, q, h1, hq, m1⟩ := own_fin ha
  obtain ⟨d, r, h2, hr, m2⟩ := own_fin (Int.le_of_lt hb)
  have hMb : 0 < own_M b := Nat.lt_of_lt_of_le own_P_pos (own_M_pos (by unfold own_N; omega))
  have hd : d ≠ 0 := fun q => by rw [q] at m2; unfold inUnits at m2; rw [Nat.zero_mul] at m2; omega
  have e : val64 (FP.ddiv (FP.l2d a) (FP.l2d b)) = quotient b64 (val64 (FP.l2d a)) (val64 (FP.l2d b)) := val64_ddiv _ _
  rw [e, h1, h2]
  show (if d = 0 then _ else roundRatio b64 (false != false) c d (q - r)) = _
  rw [if_neg hd]
  show roundRatio b64 false c d (q - r) = _
  rw [← m1, ← m2]
  refine roundRatio_congr (Nat.pos_of_ne_zero hd) (by rw [m2]; exact hMb) ?_
  unfold inUnits
  rcases Int.le_total r q with hrq | hrq
  · rw [show (q - r - 0).toNat = (q - r).toNat by omega, show (0 - (q - r)).toNat = 0 by omega, show (q - b64.qmin).toNat = (r - b64.qmin).toNat + (q - r).toNat by omega, Nat.pow_add]
    ac_rfl
  · rw [show (q - r - 0).toNat = 0 by omega, show (r - b64.qmin).toNat = (q - b64.qmin).toNat + (0 - (q - r)).toNat by omega, Nat.pow_add]
    ac_rfl
theorem own_zr {x : UInt64} {X Y : Nat} (h : val64 x = roundRatio b64 false X Y 0) : val64 x ≠ .nan ∧ own_z x = (own_Q X Y : Int) := by
  refine ⟨by rw [h]; exact roundRatio_ne_nan _ _ _ _ _, ?_⟩
  unfold own_z zval
  rw [h, sgn_roundRatio]; rfl
theorem own_exact {a : Int64} (h0 : 0 ≤ a.toInt) (h : a.toInt < 9007199254740992) : own_M a = own_N a * own_P := by
  obtain ⟨c, q, h1, hq, m1⟩ := own_fin h0
  have w : Whole a.toInt (val64 (FP.l2d a)) := l2d_whole ⟨by omega, h⟩
  rw [h1] at w
  have w' : ((c * 2 ^ q.toNat : Nat) : Int) = a.toInt * ((2 ^ (-q).toNat : Nat) : Int) := w
  have e : (own_N a : Int) = a.toInt := by unfold own_N; omega
  rw [← e, ← Int.natCast_mul] at w'
  have w2 : c * 2 ^ q.toNat = own_N a * 2 ^ (-q).toNat := by exact_mod_cast w'
  rw [← m1]
  unfold inUnits own_P
  have hm : b64.qmin ≤ 0 := by decide
  rcases Int.le_total 0 q with hz | hz
  · rw [show (-q).toNat = 0 by omega, Nat.pow_zero, Nat.mul_one] at w2
    rw [show (q - b64.qmin).toNat = q.toNat + (0 - b64.qmin).toNat by omega, Nat.pow_add, ← Nat.mul_assoc, w2]
  · rw [show q.toNat = 0 by omega, Nat.pow_zero, Nat.mul_one] at w2
    rw [w2, Nat.mul_assoc, ← Nat.pow_add, show (-q).toNat + (q - b64.qmin).toNat = (0 - b64.qmin).toNat by omega]
theorem own_dcmp {x y : UInt64} (hx : val64 x ≠ .nan) (hy : val64 y ≠ .nan) (o : CmpOp) : cmpValue (FP.dcmp x y) o = if own_z x < own_z y then -1 else if own_z x = own_z y then 0 else 1 := by
  rw [show FP.dcmp x y = some (compare (own_z x) (own_z y)) from dcmp_zval hx hy, compare_ite]
  by_cases h1 : own_z x < own_z y
  · rw [if_pos h1, if_pos h1]; cases o <;> rfl
  · rw [if_neg h1, if_neg h1]
    by_cases h2 : own_z x = own_z y
    · rw [if_pos h2, if_pos h2]; cases o <;> rfl
    · rw [if_neg h2, if_neg h2]; cases o <;> rfl
theorem own_z0 : val64 FP.dconst0 ≠ .nan ∧ own_z FP.dconst0 = 0 := by decide +kernel
set_option maxRecDepth 65536 in
theorem own_z1 : val64 FP.dconst1 ≠ .nan ∧ own_z FP.dconst1 = (own_P : Int) := by decide +kernel
set_option maxRecDepth 65536 in
theorem own_zh : val64 4602678819172646912 ≠ .nan ∧ own_z 4602678819172646912 = (own_Q 1 2 : Int) := by decide +kernel
theorem own_nn {x : UInt64} (h : val64 x ≠ .nan) : Jvm.Free.Fl.NoNaN64 x := Jvm.Free.Fl.val64_no.mpr h
theorem own_gt {x y : UInt64} (hx : val64 x ≠ .nan) (hy : val64 y ≠ .nan) (o : CmpOp) : (0 : Int32) < cmpValue (FP.dcmp x y) o ↔ own_z y < own_z x := by
  rw [own_dcmp hx hy]
  by_cases h1 : own_z x < own_z y
  · rw [if_pos h1]; exact ⟨fun q => absurd q (by decide), fun q => by omega⟩
  · rw [if_neg h1]
    by_cases h2 : own_z x = own_z y
    · rw [if_pos h2]; exact ⟨fun q => absurd q (by decide), fun q => by omega⟩
    · rw [if_neg h2]; exact ⟨fun _ => by omega, fun _ => by decide⟩
theorem own_eq0 {x y : UInt64} (hx : val64 x ≠ .nan) (hy : val64 y ≠ .nan) (o : CmpOp) : cmpValue (FP.dcmp x y) o = (0 : Int32) ↔ own_z x = own_z y := by
  rw [own_dcmp hx hy]
  by_cases h1 : own_z x < own_z y
  · rw [if_pos h1]; exact ⟨fun q => absurd q (by decide), fun q => by omega⟩
  · rw [if_neg h1]
    by_cases h2 : own_z x = own_z y
    · rw [if_pos h2]; exact ⟨fun _ => h2, fun _ => rfl⟩
    · rw [if_neg h2]; exact ⟨fun q => absurd q (by decide), fun q => by omega⟩
theorem own_10 : ((1 : Int32) = (0 : Int32)) ↔ False := by decide
theorem own_land (x m : Int64) (h : 0 ≤ m.toInt) : 0 ≤ (x &&& m).toInt ∧ (x &&& m).toInt ≤ m.toInt := by
  have hm : m.toBitVec.toNat < 2 ^ 63 := by
    have e : m.toBitVec.toInt = m.toInt := rfl
    rw [BitVec.toInt_eq_toNat_cond] at e
    have := m.toBitVec.isLt
    split at e <;> omega
  have h1 : (x &&& m).toBitVec.toNat ≤ m.toBitVec.toNat := by
    show (x.toBitVec &&& m.toBitVec).toNat ≤ _
    rw [BitVec.toNat_and]; exact Nat.and_le_right
  show 0 ≤ (x &&& m).toBitVec.toInt ∧ (x &&& m).toBitVec.toInt ≤ m.toBitVec.toInt
  rw [BitVec.toInt_eq_toNat_cond, BitVec.toInt_eq_toNat_cond, if_pos (by omega), if_pos (by omega)]
  omega
theorem own_land_le (x m : Int64) (h : 0 ≤ x.toInt) : (x &&& m).toInt ≤ x.toInt ∧ 0 ≤ (x &&& m).toInt := by
  rw [Int64.and_comm]; have := own_land m x h; exact ⟨this.2, this.1⟩
theorem own_odd (x : Int64) (h : 0 ≤ x.toInt) : (x &&& (1 : Int64)).toInt = x.toInt % 2 := by
  have hx : x.toBitVec.toNat < 2 ^ 63 := by
    have e : x.toBitVec.toInt = x.toInt := rfl
    rw [BitVec.toInt_eq_toNat_cond] at e
    have := x.toBitVec.isLt
    split at e <;> omega
  have h1 : (x &&& (1 : Int64)).toBitVec.toNat = x.toBitVec.toNat % 2 := by
    show (x.toBitVec &&& 1#64).toNat = _
    rw [BitVec.toNat_and]; exact Nat.and_two_pow_sub_one_eq_mod _ 1
  show (x &&& (1 : Int64)).toBitVec.toInt = x.toBitVec.toInt % 2
  rw [BitVec.toInt_eq_toNat_cond, BitVec.toInt_eq_toNat_cond, h1, if_pos (by omega), if_pos (by omega)]
  omega
theorem own_rem {x n : Int64} (hx : 0 ≤ x.toInt) (hn : 0 ≤ n.toInt) : 0 ≤ (x - (x / (n + (1 : Int64))) * (n + (1 : Int64))).toInt ∧ (x - (x / (n + (1 : Int64))) * (n + (1 : Int64))).toInt ≤ n.toInt := by
  rw [lrem_mod, Int64.toInt_mod]
  have h1 := Int64.toInt_lt x
  have h2 := Int64.toInt_lt n
  have e1 : (1 : Int64).toInt = 1 := by decide
  by_cases hm : n.toInt = 9223372036854775807
  · have e : (n + (1 : Int64)).toInt = -9223372036854775808 := by rw [Int64.toInt_add, e1, hm]; decide
    rw [e, Int.tmod_eq_emod_of_nonneg hx, Int.emod_neg, Int.emod_eq_of_lt hx (by omega)]
    omega
  · have e : (n + (1 : Int64)).toInt = n.toInt + 1 := by rw [Int64.toInt_add, e1, Int.bmod_def]; split <;> omega
    rw [e, Int.tmod_eq_emod_of_nonneg hx]
    have q1 := Int.emod_nonneg x.toInt (show n.toInt + 1 ≠ 0 by omega)
    have q2 := Int.emod_lt_of_pos x.toInt (show 0 < n.toInt + 1 by omega)
    omega
theorem own_n1 {n : Int64} (hn : 0 ≤ n.toInt) : ¬ (n + (1 : Int64) = (0 : Int64)) := fun q => by
  have h2 := Int64.toInt_lt n
  have e1 : (1 : Int64).toInt = 1 := by decide
  have e := congrArg Int64.toInt q
  rw [Int64.toInt_add, e1, show (0 : Int64).toInt = 0 from by decide, Int.bmod_def] at e
  split at e <;> omega
/-- f / n as a double, in units -/
def own_rz (n f : Int64) : Nat := if n.toInt = 0 then 0 else own_Q (own_M f) (own_M n)
theorem own_N_of {a : Int64} (h : 0 ≤ a.toInt) : (own_N a : Int) = a.toInt := by unfold own_N; omega
theorem own_Mpos {n : Int64} (h : 0 < n.toInt) : 0 < own_M n := Nat.lt_of_lt_of_le own_P_pos (own_M_pos (by unfold own_N; omega))
theorem own_rz_le {n f : Int64} (hf : 0 ≤ f.toInt) (hfn : f.toInt ≤ n.toInt) : own_rz n f ≤ own_P := by
  unfold own_rz
  split
  · exact Nat.zero_le _
  · rw [← own_Q11]
    exact own_mono (own_Mpos (by omega)) (by decide) (by rw [Nat.mul_one, Nat.one_mul]; exact own_M_le (by unfold own_N; omega))
theorem own_rz_zero {n f : Int64} (hf : 0 ≤ f.toInt) (hfn : f.toInt ≤ n.toInt) : own_rz n f = 0 ↔ f.toInt = 0 := by
  unfold own_rz
  split
  · exact ⟨fun _ => by omega, fun _ => rfl⟩
  · rename_i h0
    refine ⟨fun q => ?_, fun q => ?_⟩
    · refine Classical.byContradiction fun hne => ?_
      have h1 : own_P ≤ own_M f := own_M_pos (by unfold own_N; omega)
      have h2 := own_M_big n
      have h3 := own_mono (X := 1) (Y := 2 ^ 64) (X' := own_M f) (Y' := own_M n) (by decide) (own_Mpos (by omega)) (by omega)
      have h4 := own_Qtiny
      omega
    · have e : own_M f = 0 := by unfold own_M; rw [show own_N f = 0 by unfold own_N; omega]; exact own_Q0 1
      rw [e]; exact own_Q0 _
theorem own_rz_one {n : Int64} (h : 0 < n.toInt) : own_rz n n = own_P := by
  unfold own_rz
  rw [if_neg (by omega), ← own_Q11]
  exact own_eq (own_Mpos h) (by decide) (by rw [Nat.mul_one, Nat.one_mul])
theorem own_rz_small {n f : Int64} (hf : 0 ≤ f.toInt) (hfn : f.toInt ≤ n.toInt) (h : 0 < n.toInt) (hn : n.toInt < 9007199254740992) : own_rz n f = own_Q (own_N f) (own_N n) := by
  unfold own_rz
  rw [if_neg (by omega), own_exact hf (by omega), own_exact (by omega) hn]
  have hN : 0 < own_N n := by unfold own_N; omega
  exact own_eq (Nat.mul_pos hN own_P_pos) hN (by rw [Nat.mul_assoc, Nat.mul_comm own_P])
theorem own_rz_lt {n f : Int64} (hf : 0 ≤ f.toInt) (hfn : f.toInt < n.toInt) (hn : n.toInt < 9007199254740992) : own_rz n f < own_P := by
  rw [own_rz_small hf (by omega) (by omega) hn]
  refine Nat.lt_of_le_of_lt (own_mono (X' := 2 ^ 53 - 1) (Y' := 2 ^ 53) (by unfold own_N; omega) (by decide) ?_) own_Qnear
  have e1 := own_N_of hf
  have e2 := own_N_of (a := n) (by omega)
  generalize own_N f = F at *
  generalize own_N n = M at *
  omega
theorem own_rz_half {n f : Int64} (hf : 0 ≤ f.toInt) (h2 : 2 * f.toInt = n.toInt) (h : 0 < n.toInt) (hn : n.toInt < 9007199254740992) : own_rz n f = own_Q 1 2 := by
  rw [own_rz_small hf (by omega) h hn]
  have e1 := own_N_of hf
  have e2 := own_N_of (a := n) (by omega)
  generalize own_N f = F at *
  generalize own_N n = M at *
  exact own_eq (by omega) (by decide) (by omega)
theorem own_rz_mono {n f g : Int64} (hf : 0 ≤ f.toInt) (hfg : f.toInt ≤ g.toInt) (hn : 0 ≤ n.toInt) : own_rz n f ≤ own_rz n g := by
  unfold own_rz
  split
  · exact Nat.le_refl _
  · exact own_mono (own_Mpos (by omega)) (own_Mpos (by omega)) (Nat.mul_le_mul_right _ (own_M_le (by unfold own_N; omega)))
theorem own_dbl {a : Int64} (h0 : 0 ≤ a.toInt) (h : a.toInt < 4503599627370496) : ((2 : Int64) * a).toInt = 2 * a.toInt := by
  rw [Int64.toInt_mul, show (2 : Int64).toInt = 2 from by decide, Int.bmod_def]; split <;> omega
theorem own_rz_dbl {n f : Int64} (hf : 0 ≤ f.toInt) (hfn : f.toInt ≤ n.toInt) (hn : n.toInt < 4503599627370496) : own_rz ((2 : Int64) * n) ((2 : Int64) * f) = own_rz n f := by
  have d1 := own_dbl hf (by omega)
  have d2 := own_dbl (a := n) (by omega) hn
  by_cases h0 : n.toInt = 0
  · unfold own_rz; rw [if_pos (by omega), if_pos h0]
  · rw [own_rz_small (by omega) (by omega) (by omega) (by omega), own_rz_small hf hfn (by omega) (by omega)]
    have e1 := own_N_of hf
    have e2 := own_N_of (a := n) (by omega)
    have e3 := own_N_of (a := (2 : Int64) * f) (by omega)
    have e4 := own_N_of (a := (2 : Int64) * n) (by omega)
    have g1 : own_N ((2 : Int64) * f) = 2 * own_N f := by omega
    have g2 : own_N ((2 : Int64) * n) = 2 * own_N n := by omega
    rw [g1, g2]
    exact own_eq (by omega) (by omega) (by ac_rfl)
end OwnFloat
theorem d2_0 : decode jdk_30_method_1_code 0 = .ok (.aload_n 0, 1) := by decide +kernel
theorem d2_1 : decode jdk_30_method_1_code 1 = .ok (.invokespecial 1, 3) := by decide +kernel
theorem d2_4 : decode jdk_30_method_1_code 4 = .ok (.return_, 1) := by decide +kernel
theorem pn_2 : plainName "java/lang/Record" = true := by first | (simp [plainName, overriddenIn]; done) | decide +kernel
theorem ef_2 (m : MethodId) (x0 : Addr) : entryFrame m #[(.ref x0)] 1 = mkF m 0 #[.val (.ref x0)] [] := by first | (simp [entryFrame, mkF, argsToLocals, Value.category]; done) | rfl
def Q2 (Z : State) (a1 : Addr) (h0 : Heap) (n0 : Nat) (v : Option Value) (h : Heap) (L : List Loc) : Prop := v = none ∧ Fr n0 L ∧ h = h0
set_option maxRecDepth 65536 in
set_option maxHeartbeats 40000000 in
theorem rm2 (l : Launch) (Z : State) (a0 : Array Value) (hw : ∀ d ∈ tables_1, d.before a0 Z = true) (ws : List Jvm.Cond) (a1 : Addr) (h0 : Heap) (n0 : Nat) (Z0 : n0 ≤ h0.size) :
    MetFree l (⟨"java/lang/Record", "<init>", "()V"⟩ : MethodName) (head1 (Jvm.Cond.code (⟨"java/lang/Record", "<init>", "()V"⟩ : MethodName) jdk_30_method_1_code 1 none :: ws) ({ frames := 1, cells := 0, slots := 0, locals := 12 } : Room)) (fun a U => a = #[(.ref a1)] ∧ Z.Warmed39 U.vm ∧ U.heap = h0) (fun _ _ _ _ _ => True) (fun _ U o U' => ∃ v L, o = .returned v ∧ Q2 Z a1 h0 n0 v U'.heap L ∧ FrameEnd U o U' L ({ frames := 1, cells := 0, slots := 0, locals := 12 } : Room).cells ({ frames := 1, cells := 0, slots := 0, locals := 12 } : Room).slots) := by
  refine MetFree.of_bodySF (plainFor_of_name pn_2) hisR ?_
  intro p e s m args below meth c s₁ Bd hml0 hP hK
  obtain ⟨rfl, hZ, hh⟩ := hP
  have hx := Bd.exec
  have hby := Bd.bytes
  have hml : c.maxLocals = 1 := hml0
  have hown : s.vm.findClass "java/lang/Record" = some m.cls := findClass_of_methodNamed Bd.named
  have hnm := (name_of_methodNamed Bd.named Bd.method).1
  have X0 : Stand p l e ({ frames := 1, cells := 0, slots := 0, locals := 12 } : Room) s m #[(.ref a1)] below meth c s₁ [] 0 0 := Stand.of_body Bd
  have e0 : s₁.heap = h0 := by rw [← hh, Bd.state]; rfl
  have N0 := Fr.nil n0
  have pre0 : ∀ t, Steps p.tables e below (s₁.setTop (mkF m 0 #[.val (.ref a1)] [])) t → Steps p.tables e below (s₁.setTop (entryFrame m #[(.ref a1)] 1)) t := fun t k => castTop (ef_2 m a1) k
  obtain ⟨T2, X2, e2, st2⟩ := initO X0 hx hZ hown (hw _ (List.mem_of_getElem? (i := 13) rfl)) (hw _ (List.mem_of_getElem? (i := 14) rfl)) (hw _ (List.mem_of_getElem? (i := 15) rfl)) e0 (g := (mkF m 1 #[.val (.ref a1)] [(.ref a1)])) rfl (by rw [hml]; rfl) rfl (hb hby d2_1) (by decide) (W := 0) (by show 2 * 0 + _ ≤ _; exact Nat.le_of_eq rfl) (by decide)
  obtain ⟨fs, hr, hrun, hended, hW, hsame⟩ := X2.leave (v := none) (fun _ => rfl)
  refine ⟨_, _, pre0 _ ?_, hrun, hended, _, _, rfl, ?_, ⟨_, rfl⟩, hW, hsame.mono (by decide) (by decide)⟩
  · show Steps p.tables e below (s₁.setTop (mkF m 0 #[.val (.ref a1)] [])) _
    refine XS.aloadN X0.here hx rfl (hb hby d2_0) rfl rfl ?_
    show Steps p.tables e below (s₁.setTop (mkF m 1 #[.val (.ref a1)] [(.ref a1)])) _
    refine st2 _ ?_
    show Steps p.tables e below (T2.setTop (mkF m 4 #[.val (.ref a1)] [])) _
    exact X2.returnOut hx Bd.returns (hb hby d2_4) hr
  · show Q2 Z a1 h0 n0 _ T2.heap _
    rw [e2]
    exact ⟨rfl, N0, rfl⟩
theorem d1_0 : decode prog_13_method_1_code 0 = .ok (.aload_n 0, 1) := by decide +kernel
theorem d1_1 : decode prog_13_method_1_code 1 = .ok (.invokespecial 1, 3) := by decide +kernel
theorem d1_4 : decode prog_13_method_1_code 4 = .ok (.aload_n 0, 1) := by decide +kernel
theorem d1_5 : decode prog_13_method_1_code 5 = .ok (.lload_n 1, 1) := by decide +kernel
theorem d1_6 : decode prog_13_method_1_code 6 = .ok (.putfield 7, 3) := by decide +kernel
theorem d1_9 : decode prog_13_method_1_code 9 = .ok (.aload_n 0, 1) := by decide +kernel
theorem d1_10 : decode prog_13_method_1_code 10 = .ok (.lload_n 3, 1) := by decide +kernel
theorem d1_11 : decode prog_13_method_1_code 11 = .ok (.putfield 13, 3) := by decide +kernel
theorem d1_14 : decode prog_13_method_1_code 14 = .ok (.aload_n 0, 1) := by decide +kernel
theorem d1_15 : decode prog_13_method_1_code 15 = .ok (.lload 5, 2) := by decide +kernel
theorem d1_17 : decode prog_13_method_1_code 17 = .ok (.putfield 16, 3) := by decide +kernel
theorem d1_20 : decode prog_13_method_1_code 20 = .ok (.aload_n 0, 1) := by decide +kernel
theorem d1_21 : decode prog_13_method_1_code 21 = .ok (.lload 7, 2) := by decide +kernel
theorem d1_23 : decode prog_13_method_1_code 23 = .ok (.putfield 19, 3) := by decide +kernel
theorem d1_26 : decode prog_13_method_1_code 26 = .ok (.aload_n 0, 1) := by decide +kernel
theorem d1_27 : decode prog_13_method_1_code 27 = .ok (.lload 9, 2) := by decide +kernel
theorem d1_29 : decode prog_13_method_1_code 29 = .ok (.putfield 22, 3) := by decide +kernel
theorem d1_32 : decode prog_13_method_1_code 32 = .ok (.aload_n 0, 1) := by decide +kernel
theorem d1_33 : decode prog_13_method_1_code 33 = .ok (.lload 11, 2) := by decide +kernel
theorem d1_35 : decode prog_13_method_1_code 35 = .ok (.putfield 25, 3) := by decide +kernel
theorem d1_38 : decode prog_13_method_1_code 38 = .ok (.aload_n 0, 1) := by decide +kernel
theorem d1_39 : decode prog_13_method_1_code 39 = .ok (.aload 13, 2) := by decide +kernel
theorem d1_41 : decode prog_13_method_1_code 41 = .ok (.putfield 28, 3) := by decide +kernel
theorem d1_44 : decode prog_13_method_1_code 44 = .ok (.aload_n 0, 1) := by decide +kernel
theorem d1_45 : decode prog_13_method_1_code 45 = .ok (.aload 14, 2) := by decide +kernel
theorem d1_47 : decode prog_13_method_1_code 47 = .ok (.putfield 32, 3) := by decide +kernel
theorem d1_50 : decode prog_13_method_1_code 50 = .ok (.return_, 1) := by decide +kernel
theorem pn_1 : plainName "com/example/bits_for_sets/bitsforsets/tool/ReplayCounts" = true := by first | (simp [plainName, overriddenIn]; done) | decide +kernel
theorem pd_1_1 : parseMethodDescriptor "()V" = some ⟨[], none⟩ := by decide +kernel
theorem ef_1 (m : MethodId) (x0 : Addr) (x1 : Int64) (x2 : Int64) (x3 : Int64) (x4 : Int64) (x5 : Int64) (x6 : Int64) : entryFrame m #[(.ref x0), (.long x1), (.long x2), (.long x3), (.long x4), (.long x5), (.long x6), .null, .null] 15 = mkF m 0 #[.val (.ref x0), .val (.long x1), .second, .val (.long x2), .second, .val (.long x3), .second, .val (.long x4), .second, .val (.long x5), .second, .val (.long x6), .second, .val .null, .val .null] [] := by first | (simp [entryFrame, mkF, argsToLocals, Value.category]; done) | rfl
def Q1 (Z : State) (a1 : Addr) (q2 : Int64) (q3 : Int64) (q4 : Int64) (q5 : Int64) (q6 : Int64) (q7 : Int64) (u_inserted_a1 : Value) (u_held_a1 : Value) (u_queries_a1 : Value) (u_negatives_a1 : Value) (u_falsePositives_a1 : Value) (u_falseNegatives_a1 : Value) (u_deletions_a1 : Value) (u_adaptations_a1 : Value) (h0 : Heap) (n0 : Nat) (v : Option Value) (h : Heap) (L : List Loc) : Prop := v = none ∧ Fr n0 L ∧ Keep h0 h [a1] ∧ Exa Z h a1 "com/example/bits_for_sets/bitsforsets/tool/ReplayCounts" ∧ Fld Z h a1 "com/example/bits_for_sets/bitsforsets/tool/ReplayCounts" "inserted" "J" (.long q2) ∧ Fld Z h a1 "com/example/bits_for_sets/bitsforsets/tool/ReplayCounts" "held" "J" (.long q3) ∧ Fld Z h a1 "com/example/bits_for_sets/bitsforsets/tool/ReplayCounts" "queries" "J" (.long q4) ∧ Fld Z h a1 "com/example/bits_for_sets/bitsforsets/tool/ReplayCounts" "negatives" "J" (.long q5) ∧ Fld Z h a1 "com/example/bits_for_sets/bitsforsets/tool/ReplayCounts" "falsePositives" "J" (.long q6) ∧ Fld Z h a1 "com/example/bits_for_sets/bitsforsets/tool/ReplayCounts" "falseNegatives" "J" (.long q7) ∧ Fld Z h a1 "com/example/bits_for_sets/bitsforsets/tool/ReplayCounts" "deletions" "Ljava/util/Optional;" .null ∧ Fld Z h a1 "com/example/bits_for_sets/bitsforsets/tool/ReplayCounts" "adaptations" "Ljava/util/Optional;" .null
set_option maxRecDepth 65536 in
set_option maxHeartbeats 40000000 in
theorem rm1 (l : Launch) (Z : State) (a0 : Array Value) (hw : ∀ d ∈ tables_1, d.before a0 Z = true) (ws : List Jvm.Cond) (a1 : Addr) (q2 : Int64) (q3 : Int64) (q4 : Int64) (q5 : Int64) (q6 : Int64) (q7 : Int64) (u_inserted_a1 : Value) (u_held_a1 : Value) (u_queries_a1 : Value) (u_negatives_a1 : Value) (u_falsePositives_a1 : Value) (u_falseNegatives_a1 : Value) (u_deletions_a1 : Value) (u_adaptations_a1 : Value) (h0 : Heap) (n0 : Nat) (Z0 : n0 ≤ h0.size) (E_a1 : Exa Z h0 a1 "com/example/bits_for_sets/bitsforsets/tool/ReplayCounts") (F_inserted_a1 : Fld Z h0 a1 "com/example/bits_for_sets/bitsforsets/tool/ReplayCounts" "inserted" "J" u_inserted_a1) (g_a1 : n0 ≤ a1) (F_held_a1 : Fld Z h0 a1 "com/example/bits_for_sets/bitsforsets/tool/ReplayCounts" "held" "J" u_held_a1) (F_queries_a1 : Fld Z h0 a1 "com/example/bits_for_sets/bitsforsets/tool/ReplayCounts" "queries" "J" u_queries_a1) (F_negatives_a1 : Fld Z h0 a1 "com/example/bits_for_sets/bitsforsets/tool/ReplayCounts" "negatives" "J" u_negatives_a1) (F_falsePositives_a1 : Fld Z h0 a1 "com/example/bits_for_sets/bitsforsets/tool/ReplayCounts" "falsePositives" "J" u_falsePositives_a1) (F_falseNegatives_a1 : Fld Z h0 a1 "com/example/bits_for_sets/bitsforsets/tool/ReplayCounts" "falseNegatives" "J" u_falseNegatives_a1) (F_deletions_a1 : Fld Z h0 a1 "com/example/bits_for_sets/bitsforsets/tool/ReplayCounts" "deletions" "Ljava/util/Optional;" u_deletions_a1) (F_adaptations_a1 : Fld Z h0 a1 "com/example/bits_for_sets/bitsforsets/tool/ReplayCounts" "adaptations" "Ljava/util/Optional;" u_adaptations_a1) :
    MetFree l (⟨"com/example/bits_for_sets/bitsforsets/tool/ReplayCounts", "<init>", "(JJJJJJLjava/util/Optional;Ljava/util/Optional;)V"⟩ : MethodName) (head1 (Jvm.Cond.code (⟨"com/example/bits_for_sets/bitsforsets/tool/ReplayCounts", "<init>", "(JJJJJJLjava/util/Optional;Ljava/util/Optional;)V"⟩ : MethodName) prog_13_method_1_code 15 none :: ws) ({ frames := 2, cells := 0, slots := 0, locals := 24 } : Room)) (fun a U => a = #[(.ref a1), (.long q2), (.long q3), (.long q4), (.long q5), (.long q6), (.long q7), .null, .null] ∧ Z.Warmed39 U.vm ∧ U.heap = h0) (fun _ _ _ _ _ => True) (fun _ U o U' => ∃ v L, o = .returned v ∧ Q1 Z a1 q2 q3 q4 q5 q6 q7 u_inserted_a1 u_held_a1 u_queries_a1 u_negatives_a1 u_falsePositives_a1 u_falseNegatives_a1 u_deletions_a1 u_adaptations_a1 h0 n0 v U'.heap L ∧ FrameEnd U o U' L ({ frames := 2, cells := 0, slots := 0, locals := 24 } : Room).cells ({ frames := 2, cells := 0, slots := 0, locals := 24 } : Room).slots) := by
  refine MetFree.of_bodySF (plainFor_of_name pn_1) hisR ?_
  intro p e s m args below meth c s₁ Bd hml0 hP hK
  obtain ⟨rfl, hZ, hh⟩ := hP
  have hx := Bd.exec
  have hby := Bd.bytes
  have hml : c.maxLocals = 15 := hml0
  have hown : s.vm.findClass "com/example/bits_for_sets/bitsforsets/tool/ReplayCounts" = some m.cls := findClass_of_methodNamed Bd.named
  have hnm := (name_of_methodNamed Bd.named Bd.method).1
  have X0 : Stand p l e ({ frames := 2, cells := 0, slots := 0, locals := 24 } : Room) s m #[(.ref a1), (.long q2), (.long q3), (.long q4), (.long q5), (.long q6), (.long q7), .null, .null] below meth c s₁ [] 0 0 := Stand.of_body Bd
  have e0 : s₁.heap = h0 := by rw [← hh, Bd.state]; rfl
  have N0 := Fr.nil n0
  have pre0 : ∀ t, Steps p.tables e below (s₁.setTop (mkF m 0 #[.val (.ref a1), .val (.long q2), .second, .val (.long q3), .second, .val (.long q4), .second, .val (.long q5), .second, .val (.long q6), .second, .val (.long q7), .second, .val .null, .val .null] [])) t → Steps p.tables e below (s₁.setTop (entryFrame m #[(.ref a1), (.long q2), (.long q3), (.long q4), (.long q5), (.long q6), (.long q7), .null, .null] 15)) t := fun t k => castTop (ef_1 m a1 q2 q3 q4 q5 q6 q7) k
  obtain ⟨_, _, ⟨T8, L8, k8, n8⟩, -, X8, ⟨Lc8, hQ8, l8, y8, z8⟩, st8⟩ := X0.specialBack hx (y := (⟨"java/lang/Record", "<init>", "()V"⟩ : MethodName)) rfl hown (mvT hZ (hw _ (List.mem_of_getElem? (i := 8) rfl))) (mvT hZ (hw _ (List.mem_of_getElem? (i := 9) rfl))) (mvT hZ (hw _ (List.mem_of_getElem? (i := 12) rfl))) (by decide) (backOf (W := 0) (rm2 l Z a0 hw [] a1 h0 n0 Z0) hZ (hw _ (List.mem_of_getElem? (i := 12) rfl)) (hw _ (List.mem_of_getElem? (i := 11) rfl)) (by decide) (by decide)) (g := (mkF m 1 #[.val (.ref a1), .val (.long q2), .second, .val (.long q3), .second, .val (.long q4), .second, .val (.long q5), .second, .val (.long q6), .second, .val (.long q7), .second, .val .null, .val .null] [(.ref a1)])) rfl (by rw [hml]; rfl) (Steps.refl _) (a := a1) (argsL := []) (rest := []) (lenOf pd_1_1 rfl) rfl (by show 2 * 0 + _ ≤ _; exact Nat.le_of_eq rfl) (hb hby d1_1) (fun _ _ => ⟨rfl, e0, (by decide : 0 + 0 ≤ _), (by decide : 0 + 0 ≤ _)⟩)
  dsimp only [Pt.U, Pt.locs, Pt.cells, Pt.slots] at X8 l8 y8 z8 st8 hQ8
  subst l8 y8 z8
  obtain ⟨rfl, N8q, e8⟩ := hQ8
  have N8 := Fr.app N0 N8q
  obtain ⟨T9, h9, X9, e9, W9, st9⟩ := putF X8 hx hZ hown (host := "") (Or.inl (hw _ (List.mem_of_getElem? (i := 16) rfl))) Via.refl e8 F_inserted_a1 E_a1 (Or.inr ⟨(hw _ (List.mem_of_getElem? (i := 17) rfl)), rfl, hnm⟩) (hw _ (List.mem_of_getElem? (i := 3) rfl)) (ty := .long) (by decide) rfl rfl (g := (mkF m 6 #[.val (.ref a1), .val (.long q2), .second, .val (.long q3), .second, .val (.long q4), .second, .val (.long q5), .second, .val (.long q6), .second, .val (.long q7), .second, .val .null, .val .null] [(.long q2), (.ref a1)])) rfl rfl (hb hby d1_6)
  have Fw9 := F_inserted_a1.same W9
  have K9 : Keep h0 h9 [a1] := (Keep.refl h0 [a1]).wr W9 (Or.inl (List.mem_of_getElem? (i := 0) rfl))
  have N9 := Fr.snoc X9 N8 g_a1
  obtain ⟨T10, h10, X10, e10, W10, st10⟩ := putF X9 hx hZ hown (host := "") (Or.inl (hw _ (List.mem_of_getElem? (i := 18) rfl))) Via.refl e9 (F_held_a1.other W9 (Or.inr (slot_ne (Or.inr (hw _ (List.mem_of_getElem? (i := 19) rfl))) (Or.inr (hw _ (List.mem_of_getElem? (i := 17) rfl))) (by decide) (t := .long) (t' := .long) (by decide) (by decide)))) (E_a1.wr W9) (Or.inr ⟨(hw _ (List.mem_of_getElem? (i := 19) rfl)), rfl, hnm⟩) (hw _ (List.mem_of_getElem? (i := 3) rfl)) (ty := .long) (by decide) rfl rfl (g := (mkF m 11 #[.val (.ref a1), .val (.long q2), .second, .val (.long q3), .second, .val (.long q4), .second, .val (.long q5), .second, .val (.long q6), .second, .val (.long q7), .second, .val .null, .val .null] [(.long q3), (.ref a1)])) rfl rfl (hb hby d1_11)
  have Fw10 := (F_held_a1.other W9 (Or.inr (slot_ne (Or.inr (hw _ (List.mem_of_getElem? (i := 19) rfl))) (Or.inr (hw _ (List.mem_of_getElem? (i := 17) rfl))) (by decide) (t := .long) (t' := .long) (by decide) (by decide)))).same W10
  have K10 : Keep h0 h10 [a1] := K9.wr W10 (Or.inl (List.mem_of_getElem? (i := 0) rfl))
  have N10 := Fr.snoc X10 N9 g_a1
  obtain ⟨T11, h11, X11, e11, W11, st11⟩ := putF X10 hx hZ hown (host := "") (Or.inl (hw _ (List.mem_of_getElem? (i := 20) rfl))) Via.refl e10 ((F_queries_a1.other W9 (Or.inr (slot_ne (Or.inr (hw _ (List.mem_of_getElem? (i := 21) rfl))) (Or.inr (hw _ (List.mem_of_getElem? (i := 17) rfl))) (by decide) (t := .long) (t' := .long) (by decide) (by decide)))).other W10 (Or.inr (slot_ne (Or.inr (hw _ (List.mem_of_getElem? (i := 21) rfl))) (Or.inr (hw _ (List.mem_of_getElem? (i := 19) rfl))) (by decide) (t := .long) (t' := .long) (by decide) (by decide)))) ((E_a1.wr W9).wr W10) (Or.inr ⟨(hw _ (List.mem_of_getElem? (i := 21) rfl)), rfl, hnm⟩) (hw _ (List.mem_of_getElem? (i := 3) rfl)) (ty := .long) (by decide) rfl rfl (g := (mkF m 17 #[.val (.ref a1), .val (.long q2), .second, .val (.long q3), .second, .val (.long q4), .second, .val (.long q5), .second, .val (.long q6), .second, .val (.long q7), .second, .val .null, .val .null] [(.long q4), (.ref a1)])) rfl rfl (hb hby d1_17)
  have Fw11 := ((F_queries_a1.other W9 (Or.inr (slot_ne (Or.inr (hw _ (List.mem_of_getElem? (i := 21) rfl))) (Or.inr (hw _ (List.mem_of_getElem? (i := 17) rfl))) (by decide) (t := .long) (t' := .long) (by decide) (by decide)))).other W10 (Or.inr (slot_ne (Or.inr (hw _ (List.mem_of_getElem? (i := 21) rfl))) (Or.inr (hw _ (List.mem_of_getElem? (i := 19) rfl))) (by decide) (t := .long) (t' := .long) (by decide) (by decide)))).same W11
  have K11 : Keep h0 h11 [a1] := K10.wr W11 (Or.inl (List.mem_of_getElem? (i := 0) rfl))
  have N11 := Fr.snoc X11 N10 g_a1
  obtain ⟨T12, h12, X12, e12, W12, st12⟩ := putF X11 hx hZ hown (host := "") (Or.inl (hw _ (List.mem_of_getElem? (i := 22) rfl))) Via.refl e11 (((F_negatives_a1.other W9 (Or.inr (slot_ne (Or.inr (hw _ (List.mem_of_getElem? (i := 23) rfl))) (Or.inr (hw _ (List.mem_of_getElem? (i := 17) rfl))) (by decide) (t := .long) (t' := .long) (by decide) (by decide)))).other W10 (Or.inr (slot_ne (Or.inr (hw _ (List.mem_of_getElem? (i := 23) rfl))) (Or.inr (hw _ (List.mem_of_getElem? (i := 19) rfl))) (by decide) (t := .long) (t' := .long) (by decide) (by decide)))).other W11 (Or.inr (slot_ne (Or.inr (hw _ (List.mem_of_getElem? (i := 23) rfl))) (Or.inr (hw _ (List.mem_of_getElem? (i := 21) rfl))) (by decide) (t := .long) (t' := .long) (by decide) (by decide)))) (((E_a1.wr W9).wr W10).wr W11) (Or.inr ⟨(hw _ (List.mem_of_getElem? (i := 23) rfl)), rfl, hnm⟩) (hw _ (List.mem_of_getElem? (i := 3) rfl)) (ty := .long) (by decide) rfl rfl (g := (mkF m 23 #[.val (.ref a1), .val (.long q2), .second, .val (.long q3), .second, .val (.long q4), .second, .val (.long q5), .second, .val (.long q6), .second, .val (.long q7), .second, .val .null, .val .null] [(.long q5), (.ref a1)])) rfl rfl (hb hby d1_23)
  have Fw12 := (((F_negatives_a1.other W9 (Or.inr (slot_ne (Or.inr (hw _ (List.mem_of_getElem? (i := 23) rfl))) (Or.inr (hw _ (List.mem_of_getElem? (i := 17) rfl))) (by decide) (t := .long) (t' := .long) (by decide) (by decide)))).other W10 (Or.inr (slot_ne (Or.inr (hw _ (List.mem_of_getElem? (i := 23) rfl))) (Or.inr (hw _ (List.mem_of_getElem? (i := 19) rfl))) (by decide) (t := .long) (t' := .long) (by decide) (by decide)))).other W11 (Or.inr (slot_ne (Or.inr (hw _ (List.mem_of_getElem? (i := 23) rfl))) (Or.inr (hw _ (List.mem_of_getElem? (i := 21) rfl))) (by decide) (t := .long) (t' := .long) (by decide) (by decide)))).same W12
  have K12 : Keep h0 h12 [a1] := K11.wr W12 (Or.inl (List.mem_of_getElem? (i := 0) rfl))
  have N12 := Fr.snoc X12 N11 g_a1
  obtain ⟨T13, h13, X13, e13, W13, st13⟩ := putF X12 hx hZ hown (host := "") (Or.inl (hw _ (List.mem_of_getElem? (i := 24) rfl))) Via.refl e12 ((((F_falsePositives_a1.other W9 (Or.inr (slot_ne (Or.inr (hw _ (List.mem_of_getElem? (i := 25) rfl))) (Or.inr (hw _ (List.mem_of_getElem? (i := 17) rfl))) (by decide) (t := .long) (t' := .long) (by decide) (by decide)))).other W10 (Or.inr (slot_ne (Or.inr (hw _ (List.mem_of_getElem? (i := 25) rfl))) (Or.inr (hw _ (List.mem_of_getElem? (i := 19) rfl))) (by decide) (t := .long) (t' := .long) (by decide) (by decide)))).other W11 (Or.inr (slot_ne (Or.inr (hw _ (List.mem_of_getElem? (i := 25) rfl))) (Or.inr (hw _ (List.mem_of_getElem? (i := 21) rfl))) (by decide) (t := .long) (t' := .long) (by decide) (by decide)))).other W12 (Or.inr (slot_ne (Or.inr (hw _ (List.mem_of_getElem? (i := 25) rfl))) (Or.inr (hw _ (List.mem_of_getElem? (i := 23) rfl))) (by decide) (t := .long) (t' := .long) (by decide) (by decide)))) ((((E_a1.wr W9).wr W10).wr W11).wr W12) (Or.inr ⟨(hw _ (List.mem_of_getElem? (i := 25) rfl)), rfl, hnm⟩) (hw _ (List.mem_of_getElem? (i := 3) rfl)) (ty := .long) (by decide) rfl rfl (g := (mkF m 29 #[.val (.ref a1), .val (.long q2), .second, .val (.long q3), .second, .val (.long q4), .second, .val (.long q5), .second, .val (.long q6), .second, .val (.long q7), .second, .val .null, .val .null] [(.long q6), (.ref a1)])) rfl rfl (hb hby d1_29)
  have Fw13 := ((((F_falsePositives_a1.other W9 (Or.inr (slot_ne (Or.inr (hw _ (List.mem_of_getElem? (i := 25) rfl))) (Or.inr (hw _ (List.mem_of_getElem? (i := 17) rfl))) (by decide) (t := .long) (t' := .long) (by decide) (by decide)))).other W10 (Or.inr (slot_ne (Or.inr (hw _ (List.mem_of_getElem? (i := 25) rfl))) (Or.inr (hw _ (List.mem_of_getElem? (i := 19) rfl))) (by decide) (t := .long) (t' := .long) (by decide) (by decide)))).other W11 (Or.inr (slot_ne (Or.inr (hw _ (List.mem_of_getElem? (i := 25) rfl))) (Or.inr (hw _ (List.mem_of_getElem? (i := 21) rfl))) (by decide) (t := .long) (t' := .long) (by decide) (by decide)))).other W12 (Or.inr (slot_ne (Or.inr (hw _ (List.mem_of_getElem? (i := 25) rfl))) (Or.inr (hw _ (List.mem_of_getElem? (i := 23) rfl))) (by decide) (t := .long) (t' := .long) (by decide) (by decide)))).same W13
  have K13 : Keep h0 h13 [a1] := K12.wr W13 (Or.inl (List.mem_of_getElem? (i := 0) rfl))
  have N13 := Fr.snoc X13 N12 g_a1
  obtain ⟨T14, h14, X14, e14, W14, st14⟩ := putF X13 hx hZ hown (host := "") (Or.inl (hw _ (List.mem_of_getElem? (i := 26) rfl))) Via.refl e13 (((((F_falseNegatives_a1.other W9 (Or.inr (slot_ne (Or.inr (hw _ (List.mem_of_getElem? (i := 27) rfl))) (Or.inr (hw _ (List.mem_of_getElem? (i := 17) rfl))) (by decide) (t := .long) (t' := .long) (by decide) (by decide)))).other W10 (Or.inr (slot_ne (Or.inr (hw _ (List.mem_of_getElem? (i := 27) rfl))) (Or.inr (hw _ (List.mem_of_getElem? (i := 19) rfl))) (by decide) (t := .long) (t' := .long) (by decide) (by decide)))).other W11 (Or.inr (slot_ne (Or.inr (hw _ (List.mem_of_getElem? (i := 27) rfl))) (Or.inr (hw _ (List.mem_of_getElem? (i := 21) rfl))) (by decide) (t := .long) (t' := .long) (by decide) (by decide)))).other W12 (Or.inr (slot_ne (Or.inr (hw _ (List.mem_of_getElem? (i := 27) rfl))) (Or.inr (hw _ (List.mem_of_getElem? (i := 23) rfl))) (by decide) (t := .long) (t' := .long) (by decide) (by decide)))).other W13 (Or.inr (slot_ne (Or.inr (hw _ (List.mem_of_getElem? (i := 27) rfl))) (Or.inr (hw _ (List.mem_of_getElem? (i := 25) rfl))) (by decide) (t := .long) (t' := .long) (by decide) (by decide)))) (((((E_a1.wr W9).wr W10).wr W11).wr W12).wr W13) (Or.inr ⟨(hw _ (List.mem_of_getElem? (i := 27) rfl)), rfl, hnm⟩) (hw _ (List.mem_of_getElem? (i := 3) rfl)) (ty := .long) (by decide) rfl rfl (g := (mkF m 35 #[.val (.ref a1), .val (.long q2), .second, .val (.long q3), .second, .val (.long q4), .second, .val (.long q5), .second, .val (.long q6), .second, .val (.long q7), .second, .val .null, .val .null] [(.long q7), (.ref a1)])) rfl rfl (hb hby d1_35)
  have Fw14 := (((((F_falseNegatives_a1.other W9 (Or.inr (slot_ne (Or.inr (hw _ (List.mem_of_getElem? (i := 27) rfl))) (Or.inr (hw _ (List.mem_of_getElem? (i := 17) rfl))) (by decide) (t := .long) (t' := .long) (by decide) (by decide)))).other W10 (Or.inr (slot_ne (Or.inr (hw _ (List.mem_of_getElem? (i := 27) rfl))) (Or.inr (hw _ (List.mem_of_getElem? (i := 19) rfl))) (by decide) (t := .long) (t' := .long) (by decide) (by decide)))).other W11 (Or.inr (slot_ne (Or.inr (hw _ (List.mem_of_getElem? (i := 27) rfl))) (Or.inr (hw _ (List.mem_of_getElem? (i := 21) rfl))) (by decide) (t := .long) (t' := .long) (by decide) (by decide)))).other W12 (Or.inr (slot_ne (Or.inr (hw _ (List.mem_of_getElem? (i := 27) rfl))) (Or.inr (hw _ (List.mem_of_getElem? (i := 23) rfl))) (by decide) (t := .long) (t' := .long) (by decide) (by decide)))).other W13 (Or.inr (slot_ne (Or.inr (hw _ (List.mem_of_getElem? (i := 27) rfl))) (Or.inr (hw _ (List.mem_of_getElem? (i := 25) rfl))) (by decide) (t := .long) (t' := .long) (by decide) (by decide)))).same W14
  have K14 : Keep h0 h14 [a1] := K13.wr W14 (Or.inl (List.mem_of_getElem? (i := 0) rfl))
  have N14 := Fr.snoc X14 N13 g_a1
  obtain ⟨T15, h15, X15, e15, W15, st15⟩ := putF X14 hx hZ hown (host := "") (Or.inl (hw _ (List.mem_of_getElem? (i := 28) rfl))) Via.refl e14 ((((((F_deletions_a1.other W9 (Or.inr (slot_ne (Or.inr (hw _ (List.mem_of_getElem? (i := 29) rfl))) (Or.inr (hw _ (List.mem_of_getElem? (i := 17) rfl))) (by decide) (t := (.object "java/util/Optional")) (t' := .long) (by decide) (by decide)))).other W10 (Or.inr (slot_ne (Or.inr (hw _ (List.mem_of_getElem? (i := 29) rfl))) (Or.inr (hw _ (List.mem_of_getElem? (i := 19) rfl))) (by decide) (t := (.object "java/util/Optional")) (t' := .long) (by decide) (by decide)))).other W11 (Or.inr (slot_ne (Or.inr (hw _ (List.mem_of_getElem? (i := 29) rfl))) (Or.inr (hw _ (List.mem_of_getElem? (i := 21) rfl))) (by decide) (t := (.object "java/util/Optional")) (t' := .long) (by decide) (by decide)))).other W12 (Or.inr (slot_ne (Or.inr (hw _ (List.mem_of_getElem? (i := 29) rfl))) (Or.inr (hw _ (List.mem_of_getElem? (i := 23) rfl))) (by decide) (t := (.object "java/util/Optional")) (t' := .long) (by decide) (by decide)))).other W13 (Or.inr (slot_ne (Or.inr (hw _ (List.mem_of_getElem? (i := 29) rfl))) (Or.inr (hw _ (List.mem_of_getElem? (i := 25) rfl))) (by decide) (t := (.object "java/util/Optional")) (t' := .long) (by decide) (by decide)))).other W14 (Or.inr (slot_ne (Or.inr (hw _ (List.mem_of_getElem? (i := 29) rfl))) (Or.inr (hw _ (List.mem_of_getElem? (i := 27) rfl))) (by decide) (t := (.object "java/util/Optional")) (t' := .long) (by decide) (by decide)))) ((((((E_a1.wr W9).wr W10).wr W11).wr W12).wr W13).wr W14) (Or.inr ⟨(hw _ (List.mem_of_getElem? (i := 29) rfl)), rfl, hnm⟩) (hw _ (List.mem_of_getElem? (i := 3) rfl)) (ty := (.object "java/util/Optional")) (by decide) rfl rfl (g := (mkF m 41 #[.val (.ref a1), .val (.long q2), .second, .val (.long q3), .second, .val (.long q4), .second, .val (.long q5), .second, .val (.long q6), .second, .val (.long q7), .second, .val .null, .val .null] [.null, (.ref a1)])) rfl rfl (hb hby d1_41)
  have Fw15 := ((((((F_deletions_a1.other W9 (Or.inr (slot_ne (Or.inr (hw _ (List.mem_of_getElem? (i := 29) rfl))) (Or.inr (hw _ (List.mem_of_getElem? (i := 17) rfl))) (by decide) (t := (.object "java/util/Optional")) (t' := .long) (by decide) (by decide)))).other W10 (Or.inr (slot_ne (Or.inr (hw _ (List.mem_of_getElem? (i := 29) rfl))) (Or.inr (hw _ (List.mem_of_getElem? (i := 19) rfl))) (by decide) (t := (.object "java/util/Optional")) (t' := .long) (by decide) (by decide)))).other W11 (Or.inr (slot_ne (Or.inr (hw _ (List.mem_of_getElem? (i := 29) rfl))) (Or.inr (hw _ (List.mem_of_getElem? (i := 21) rfl))) (by decide) (t := (.object "java/util/Optional")) (t' := .long) (by decide) (by decide)))).other W12 (Or.inr (slot_ne (Or.inr (hw _ (List.mem_of_getElem? (i := 29) rfl))) (Or.inr (hw _ (List.mem_of_getElem? (i := 23) rfl))) (by decide) (t := (.object "java/util/Optional")) (t' := .long) (by decide) (by decide)))).other W13 (Or.inr (slot_ne (Or.inr (hw _ (List.mem_of_getElem? (i := 29) rfl))) (Or.inr (hw _ (List.mem_of_getElem? (i := 25) rfl))) (by decide) (t := (.object "java/util/Optional")) (t' := .long) (by decide) (by decide)))).other W14 (Or.inr (slot_ne (Or.inr (hw _ (List.mem_of_getElem? (i := 29) rfl))) (Or.inr (hw _ (List.mem_of_getElem? (i := 27) rfl))) (by decide) (t := (.object "java/util/Optional")) (t' := .long) (by decide) (by decide)))).same W15
  have K15 : Keep h0 h15 [a1] := K14.wr W15 (Or.inl (List.mem_of_getElem? (i := 0) rfl))
  have N15 := Fr.snoc X15 N14 g_a1
  obtain ⟨T16, h16, X16, e16, W16, st16⟩ := putF X15 hx hZ hown (host := "") (Or.inl (hw _ (List.mem_of_getElem? (i := 30) rfl))) Via.refl e15 (((((((F_adaptations_a1.other W9 (Or.inr (slot_ne (Or.inr (hw _ (List.mem_of_getElem? (i := 31) rfl))) (Or.inr (hw _ (List.mem_of_getElem? (i := 17) rfl))) (by decide) (t := (.object "java/util/Optional")) (t' := .long) (by decide) (by decide)))).other W10 (Or.inr (slot_ne (Or.inr (hw _ (List.mem_of_getElem? (i := 31) rfl))) (Or.inr (hw _ (List.mem_of_getElem? (i := 19) rfl))) (by decide) (t := (.object "java/util/Optional")) (t' := .long) (by decide) (by decide)))).other W11 (Or.inr (slot_ne (Or.inr (hw _ (List.mem_of_getElem? (i := 31) rfl))) (Or.inr (hw _ (List.mem_of_getElem? (i := 21) rfl))) (by decide) (t := (.object "java/util/Optional")) (t' := .long) (by decide) (by decide)))).other W12 (Or.inr (slot_ne (Or.inr (hw _ (List.mem_of_getElem? (i := 31) rfl))) (Or.inr (hw _ (List.mem_of_getElem? (i := 23) rfl))) (by decide) (t := (.object "java/util/Optional")) (t' := .long) (by decide) (by decide)))).other W13 (Or.inr (slot_ne (Or.inr (hw _ (List.mem_of_getElem? (i := 31) rfl))) (Or.inr (hw _ (List.mem_of_getElem? (i := 25) rfl))) (by decide) (t := (.object "java/util/Optional")) (t' := .long) (by decide) (by decide)))).other W14 (Or.inr (slot_ne (Or.inr (hw _ (List.mem_of_getElem? (i := 31) rfl))) (Or.inr (hw _ (List.mem_of_getElem? (i := 27) rfl))) (by decide) (t := (.object "java/util/Optional")) (t' := .long) (by decide) (by decide)))).other W15 (Or.inr (slot_ne (Or.inr (hw _ (List.mem_of_getElem? (i := 31) rfl))) (Or.inr (hw _ (List.mem_of_getElem? (i := 29) rfl))) (by decide) (t := (.object "java/util/Optional")) (t' := (.object "java/util/Optional")) (by decide) (by decide)))) (((((((E_a1.wr W9).wr W10).wr W11).wr W12).wr W13).wr W14).wr W15) (Or.inr ⟨(hw _ (List.mem_of_getElem? (i := 31) rfl)), rfl, hnm⟩) (hw _ (List.mem_of_getElem? (i := 3) rfl)) (ty := (.object "java/util/Optional")) (by decide) rfl rfl (g := (mkF m 47 #[.val (.ref a1), .val (.long q2), .second, .val (.long q3), .second, .val (.long q4), .second, .val (.long q5), .second, .val (.long q6), .second, .val (.long q7), .second, .val .null, .val .null] [.null, (.ref a1)])) rfl rfl (hb hby d1_47)
  have Fw16 := (((((((F_adaptations_a1.other W9 (Or.inr (slot_ne (Or.inr (hw _ (List.mem_of_getElem? (i := 31) rfl))) (Or.inr (hw _ (List.mem_of_getElem? (i := 17) rfl))) (by decide) (t := (.object "java/util/Optional")) (t' := .long) (by decide) (by decide)))).other W10 (Or.inr (slot_ne (Or.inr (hw _ (List.mem_of_getElem? (i := 31) rfl))) (Or.inr (hw _ (List.mem_of_getElem? (i := 19) rfl))) (by decide) (t := (.object "java/util/Optional")) (t' := .long) (by decide) (by decide)))).other W11 (Or.inr (slot_ne (Or.inr (hw _ (List.mem_of_getElem? (i := 31) rfl))) (Or.inr (hw _ (List.mem_of_getElem? (i := 21) rfl))) (by decide) (t := (.object "java/util/Optional")) (t' := .long) (by decide) (by decide)))).other W12 (Or.inr (slot_ne (Or.inr (hw _ (List.mem_of_getElem? (i := 31) rfl))) (Or.inr (hw _ (List.mem_of_getElem? (i := 23) rfl))) (by decide) (t := (.object "java/util/Optional")) (t' := .long) (by decide) (by decide)))).other W13 (Or.inr (slot_ne (Or.inr (hw _ (List.mem_of_getElem? (i := 31) rfl))) (Or.inr (hw _ (List.mem_of_getElem? (i := 25) rfl))) (by decide) (t := (.object "java/util/Optional")) (t' := .long) (by decide) (by decide)))).other W14 (Or.inr (slot_ne (Or.inr (hw _ (List.mem_of_getElem? (i := 31) rfl))) (Or.inr (hw _ (List.mem_of_getElem? (i := 27) rfl))) (by decide) (t := (.object "java/util/Optional")) (t' := .long) (by decide) (by decide)))).other W15 (Or.inr (slot_ne (Or.inr (hw _ (List.mem_of_getElem? (i := 31) rfl))) (Or.inr (hw _ (List.mem_of_getElem? (i := 29) rfl))) (by decide) (t := (.object "java/util/Optional")) (t' := (.object "java/util/Optional")) (by decide) (by decide)))).same W16
  have K16 : Keep h0 h16 [a1] := K15.wr W16 (Or.inl (List.mem_of_getElem? (i := 0) rfl))
  have N16 := Fr.snoc X16 N15 g_a1
  obtain ⟨fs, hr, hrun, hended, hW, hsame⟩ := X16.leave (v := none) (fun _ => rfl)
  refine ⟨_, _, pre0 _ ?_, hrun, hended, _, _, rfl, ?_, ⟨_, rfl⟩, hW, hsame.mono (by decide) (by decide)⟩
  · show Steps p.tables e below (s₁.setTop (mkF m 0 #[.val (.ref a1), .val (.long q2), .second, .val (.long q3), .second, .val (.long q4), .second, .val (.long q5), .second, .val (.long q6), .second, .val (.long q7), .second, .val .null, .val .null] [])) _
    refine XS.aloadN X0.here hx rfl (hb hby d1_0) rfl rfl ?_
    show Steps p.tables e below (s₁.setTop (mkF m 1 #[.val (.ref a1), .val (.long q2), .second, .val (.long q3), .second, .val (.long q4), .second, .val (.long q5), .second, .val (.long q6), .second, .val (.long q7), .second, .val .null, .val .null] [(.ref a1)])) _
    refine st8.trans ?_
    show Steps p.tables e below (T8.setTop (mkF m 4 #[.val (.ref a1), .val (.long q2), .second, .val (.long q3), .second, .val (.long q4), .second, .val (.long q5), .second, .val (.long q6), .second, .val (.long q7), .second, .val .null, .val .null] [])) _
    refine XS.aloadN X8.here hx rfl (hb hby d1_4) rfl rfl ?_
    show Steps p.tables e below (T8.setTop (mkF m 5 #[.val (.ref a1), .val (.long q2), .second, .val (.long q3), .second, .val (.long q4), .second, .val (.long q5), .second, .val (.long q6), .second, .val (.long q7), .second, .val .null, .val .null] [(.ref a1)])) _
    refine XS.lloadN X8.here hx rfl (hb hby d1_5) rfl ?_
    show Steps p.tables e below (T8.setTop (mkF m 6 #[.val (.ref a1), .val (.long q2), .second, .val (.long q3), .second, .val (.long q4), .second, .val (.long q5), .second, .val (.long q6), .second, .val (.long q7), .second, .val .null, .val .null] [(.long q2), (.ref a1)])) _
    refine st9 _ ?_
    show Steps p.tables e below (T9.setTop (mkF m 9 #[.val (.ref a1), .val (.long q2), .second, .val (.long q3), .second, .val (.long q4), .second, .val (.long q5), .second, .val (.long q6), .second, .val (.long q7), .second, .val .null, .val .null] [])) _
    refine XS.aloadN X9.here hx rfl (hb hby d1_9) rfl rfl ?_
    show Steps p.tables e below (T9.setTop (mkF m 10 #[.val (.ref a1), .val (.long q2), .second, .val (.long q3), .second, .val (.long q4), .second, .val (.long q5), .second, .val (.long q6), .second, .val (.long q7), .second, .val .null, .val .null] [(.ref a1)])) _
    refine XS.lloadN X9.here hx rfl (hb hby d1_10) rfl ?_
    show Steps p.tables e below (T9.setTop (mkF m 11 #[.val (.ref a1), .val (.long q2), .second, .val (.long q3), .second, .val (.long q4), .second, .val (.long q5), .second, .val (.long q6), .second, .val (.long q7), .second, .val .null, .val .null] [(.long q3), (.ref a1)])) _
    refine st10 _ ?_
    show Steps p.tables e below (T10.setTop (mkF m 14 #[.val (.ref a1), .val (.long q2), .second, .val (.long q3), .second, .val (.long q4), .second, .val (.long q5), .second, .val (.long q6), .second, .val (.long q7), .second, .val .null, .val .null] [])) _
    refine XS.aloadN X10.here hx rfl (hb hby d1_14) rfl rfl ?_
    show Steps p.tables e below (T10.setTop (mkF m 15 #[.val (.ref a1), .val (.long q2), .second, .val (.long q3), .second, .val (.long q4), .second, .val (.long q5), .second, .val (.long q6), .second, .val (.long q7), .second, .val .null, .val .null] [(.ref a1)])) _
    refine XS.lload X10.here hx rfl (hb hby d1_15) rfl ?_
    show Steps p.tables e below (T10.setTop (mkF m 17 #[.val (.ref a1), .val (.long q2), .second, .val (.long q3), .second, .val (.long q4), .second, .val (.long q5), .second, .val (.long q6), .second, .val (.long q7), .second, .val .null, .val .null] [(.long q4), (.ref a1)])) _
    refine st11 _ ?_
    show Steps p.tables e below (T11.setTop (mkF m 20 #[.val (.ref a1), .val (.long q2), .second, .val (.long q3), .second, .val (.long q4), .second, .val (.long q5), .second, .val (.long q6), .second, .val (.long q7), .second, .val .null, .val .null] [])) _
    refine XS.aloadN X11.here hx rfl (hb hby d1_20) rfl rfl ?_
    show Steps p.tables e below (T11.setTop (mkF m 21 #[.val (.ref a1), .val (.long q2), .second, .val (.long q3), .second, .val (.long q4), .second, .val (.long q5), .second, .val (.long q6), .second, .val (.long q7), .second, .val .null, .val .null] [(.ref a1)])) _
    refine XS.lload X11.here hx rfl (hb hby d1_21) rfl ?_
    show Steps p.tables e below (T11.setTop (mkF m 23 #[.val (.ref a1), .val (.long q2), .second, .val (.long q3), .second, .val (.long q4), .second, .val (.long q5), .second, .val (.long q6), .second, .val (.long q7), .second, .val .null, .val .null] [(.long q5), (.ref a1)])) _
    refine st12 _ ?_
    show Steps p.tables e below (T12.setTop (mkF m 26 #[.val (.ref a1), .val (.long q2), .second, .val (.long q3), .second, .val (.long q4), .second, .val (.long q5), .second, .val (.long q6), .second, .val (.long q7), .second, .val .null, .val .null] [])) _
    refine XS.aloadN X12.here hx rfl (hb hby d1_26) rfl rfl ?_
    show Steps p.tables e below (T12.setTop (mkF m 27 #[.val (.ref a1), .val (.long q2), .second, .val (.long q3), .second, .val (.long q4), .second, .val (.long q5), .second, .val (.long q6), .second, .val (.long q7), .second, .val .null, .val .null] [(.ref a1)])) _
    refine XS.lload X12.here hx rfl (hb hby d1_27) rfl ?_
    show Steps p.tables e below (T12.setTop (mkF m 29 #[.val (.ref a1), .val (.long q2), .second, .val (.long q3), .second, .val (.long q4), .second, .val (.long q5), .second, .val (.long q6), .second, .val (.long q7), .second, .val .null, .val .null] [(.long q6), (.ref a1)])) _
    refine st13 _ ?_
    show Steps p.tables e below (T13.setTop (mkF m 32 #[.val (.ref a1), .val (.long q2), .second, .val (.long q3), .second, .val (.long q4), .second, .val (.long q5), .second, .val (.long q6), .second, .val (.long q7), .second, .val .null, .val .null] [])) _
    refine XS.aloadN X13.here hx rfl (hb hby d1_32) rfl rfl ?_
    show Steps p.tables e below (T13.setTop (mkF m 33 #[.val (.ref a1), .val (.long q2), .second, .val (.long q3), .second, .val (.long q4), .second, .val (.long q5), .second, .val (.long q6), .second, .val (.long q7), .second, .val .null, .val .null] [(.ref a1)])) _
    refine XS.lload X13.here hx rfl (hb hby d1_33) rfl ?_
    show Steps p.tables e below (T13.setTop (mkF m 35 #[.val (.ref a1), .val (.long q2), .second, .val (.long q3), .second, .val (.long q4), .second, .val (.long q5), .second, .val (.long q6), .second, .val (.long q7), .second, .val .null, .val .null] [(.long q7), (.ref a1)])) _
    refine st14 _ ?_
    show Steps p.tables e below (T14.setTop (mkF m 38 #[.val (.ref a1), .val (.long q2), .second, .val (.long q3), .second, .val (.long q4), .second, .val (.long q5), .second, .val (.long q6), .second, .val (.long q7), .second, .val .null, .val .null] [])) _
    refine XS.aloadN X14.here hx rfl (hb hby d1_38) rfl rfl ?_
    show Steps p.tables e below (T14.setTop (mkF m 39 #[.val (.ref a1), .val (.long q2), .second, .val (.long q3), .second, .val (.long q4), .second, .val (.long q5), .second, .val (.long q6), .second, .val (.long q7), .second, .val .null, .val .null] [(.ref a1)])) _
    refine XS.aload X14.here hx rfl (hb hby d1_39) rfl rfl ?_
    show Steps p.tables e below (T14.setTop (mkF m 41 #[.val (.ref a1), .val (.long q2), .second, .val (.long q3), .second, .val (.long q4), .second, .val (.long q5), .second, .val (.long q6), .second, .val (.long q7), .second, .val .null, .val .null] [.null, (.ref a1)])) _
    refine st15 _ ?_
    show Steps p.tables e below (T15.setTop (mkF m 44 #[.val (.ref a1), .val (.long q2), .second, .val (.long q3), .second, .val (.long q4), .second, .val (.long q5), .second, .val (.long q6), .second, .val (.long q7), .second, .val .null, .val .null] [])) _
    refine XS.aloadN X15.here hx rfl (hb hby d1_44) rfl rfl ?_
    show Steps p.tables e below (T15.setTop (mkF m 45 #[.val (.ref a1), .val (.long q2), .second, .val (.long q3), .second, .val (.long q4), .second, .val (.long q5), .second, .val (.long q6), .second, .val (.long q7), .second, .val .null, .val .null] [(.ref a1)])) _
    refine XS.aload X15.here hx rfl (hb hby d1_45) rfl rfl ?_
    show Steps p.tables e below (T15.setTop (mkF m 47 #[.val (.ref a1), .val (.long q2), .second, .val (.long q3), .second, .val (.long q4), .second, .val (.long q5), .second, .val (.long q6), .second, .val (.long q7), .second, .val .null, .val .null] [.null, (.ref a1)])) _
    refine st16 _ ?_
    show Steps p.tables e below (T16.setTop (mkF m 50 #[.val (.ref a1), .val (.long q2), .second, .val (.long q3), .second, .val (.long q4), .second, .val (.long q5), .second, .val (.long q6), .second, .val (.long q7), .second, .val .null, .val .null] [])) _
    exact X16.returnOut hx Bd.returns (hb hby d1_50) hr
  · show Q1 Z a1 q2 q3 q4 q5 q6 q7 u_inserted_a1 u_held_a1 u_queries_a1 u_negatives_a1 u_falsePositives_a1 u_falseNegatives_a1 u_deletions_a1 u_adaptations_a1 h0 n0 _ T16.heap _
    rw [e16]
    exact ⟨rfl, N16, K16, ((((((((E_a1.wr W9).wr W10).wr W11).wr W12).wr W13).wr W14).wr W15).wr W16), (((((((Fw9.other W10 (Or.inr (slot_ne (Or.inr (hw _ (List.mem_of_getElem? (i := 17) rfl))) (Or.inr (hw _ (List.mem_of_getElem? (i := 19) rfl))) (by decide) (t := .long) (t' := .long) (by decide) (by decide)))).other W11 (Or.inr (slot_ne (Or.inr (hw _ (List.mem_of_getElem? (i := 17) rfl))) (Or.inr (hw _ (List.mem_of_getElem? (i := 21) rfl))) (by decide) (t := .long) (t' := .long) (by decide) (by decide)))).other W12 (Or.inr (slot_ne (Or.inr (hw _ (List.mem_of_getElem? (i := 17) rfl))) (Or.inr (hw _ (List.mem_of_getElem? (i := 23) rfl))) (by decide) (t := .long) (t' := .long) (by decide) (by decide)))).other W13 (Or.inr (slot_ne (Or.inr (hw _ (List.mem_of_getElem? (i := 17) rfl))) (Or.inr (hw _ (List.mem_of_getElem? (i := 25) rfl))) (by decide) (t := .long) (t' := .long) (by decide) (by decide)))).other W14 (Or.inr (slot_ne (Or.inr (hw _ (List.mem_of_getElem? (i := 17) rfl))) (Or.inr (hw _ (List.mem_of_getElem? (i := 27) rfl))) (by decide) (t := .long) (t' := .long) (by decide) (by decide)))).other W15 (Or.inr (slot_ne (Or.inr (hw _ (List.mem_of_getElem? (i := 17) rfl))) (Or.inr (hw _ (List.mem_of_getElem? (i := 29) rfl))) (by decide) (t := .long) (t' := (.object "java/util/Optional")) (by decide) (by decide)))).other W16 (Or.inr (slot_ne (Or.inr (hw _ (List.mem_of_getElem? (i := 17) rfl))) (Or.inr (hw _ (List.mem_of_getElem? (i := 31) rfl))) (by decide) (t := .long) (t' := (.object "java/util/Optional")) (by decide) (by decide)))), ((((((Fw10.other W11 (Or.inr (slot_ne (Or.inr (hw _ (List.mem_of_getElem? (i := 19) rfl))) (Or.inr (hw _ (List.mem_of_getElem? (i := 21) rfl))) (by decide) (t := .long) (t' := .long) (by decide) (by decide)))).other W12 (Or.inr (slot_ne (Or.inr (hw _ (List.mem_of_getElem? (i := 19) rfl))) (Or.inr (hw _ (List.mem_of_getElem? (i := 23) rfl))) (by decide) (t := .long) (t' := .long) (by decide) (by decide)))).other W13 (Or.inr (slot_ne (Or.inr (hw _ (List.mem_of_getElem? (i := 19) rfl))) (Or.inr (hw _ (List.mem_of_getElem? (i := 25) rfl))) (by decide) (t := .long) (t' := .long) (by decide) (by decide)))).other W14 (Or.inr (slot_ne (Or.inr (hw _ (List.mem_of_getElem? (i := 19) rfl))) (Or.inr (hw _ (List.mem_of_getElem? (i := 27) rfl))) (by decide) (t := .long) (t' := .long) (by decide) (by decide)))).other W15 (Or.inr (slot_ne (Or.inr (hw _ (List.mem_of_getElem? (i := 19) rfl))) (Or.inr (hw _ (List.mem_of_getElem? (i := 29) rfl))) (by decide) (t := .long) (t' := (.object "java/util/Optional")) (by decide) (by decide)))).other W16 (Or.inr (slot_ne (Or.inr (hw _ (List.mem_of_getElem? (i := 19) rfl))) (Or.inr (hw _ (List.mem_of_getElem? (i := 31) rfl))) (by decide) (t := .long) (t' := (.object "java/util/Optional")) (by decide) (by decide)))), (((((Fw11.other W12 (Or.inr (slot_ne (Or.inr (hw _ (List.mem_of_getElem? (i := 21) rfl))) (Or.inr (hw _ (List.mem_of_getElem? (i := 23) rfl))) (by decide) (t := .long) (t' := .long) (by decide) (by decide)))).other W13 (Or.inr (slot_ne (Or.inr (hw _ (List.mem_of_getElem? (i := 21) rfl))) (Or.inr (hw _ (List.mem_of_getElem? (i := 25) rfl))) (by decide) (t := .long) (t' := .long) (by decide) (by decide)))).other W14 (Or.inr (slot_ne (Or.inr (hw _ (List.mem_of_getElem? (i := 21) rfl))) (Or.inr (hw _ (List.mem_of_getElem? (i := 27) rfl))) (by decide) (t := .long) (t' := .long) (by decide) (by decide)))).other W15 (Or.inr (slot_ne (Or.inr (hw _ (List.mem_of_getElem? (i := 21) rfl))) (Or.inr (hw _ (List.mem_of_getElem? (i := 29) rfl))) (by decide) (t := .long) (t' := (.object "java/util/Optional")) (by decide) (by decide)))).other W16 (Or.inr (slot_ne (Or.inr (hw _ (List.mem_of_getElem? (i := 21) rfl))) (Or.inr (hw _ (List.mem_of_getElem? (i := 31) rfl))) (by decide) (t := .long) (t' := (.object "java/util/Optional")) (by decide) (by decide)))), ((((Fw12.other W13 (Or.inr (slot_ne (Or.inr (hw _ (List.mem_of_getElem? (i := 23) rfl))) (Or.inr (hw _ (List.mem_of_getElem? (i := 25) rfl))) (by decide) (t := .long) (t' := .long) (by decide) (by decide)))).other W14 (Or.inr (slot_ne (Or.inr (hw _ (List.mem_of_getElem? (i := 23) rfl))) (Or.inr (hw _ (List.mem_of_getElem? (i := 27) rfl))) (by decide) (t := .long) (t' := .long) (by decide) (by decide)))).other W15 (Or.inr (slot_ne (Or.inr (hw _ (List.mem_of_getElem? (i := 23) rfl))) (Or.inr (hw _ (List.mem_of_getElem? (i := 29) rfl))) (by decide) (t := .long) (t' := (.object "java/util/Optional")) (by decide) (by decide)))).other W16 (Or.inr (slot_ne (Or.inr (hw _ (List.mem_of_getElem? (i := 23) rfl))) (Or.inr (hw _ (List.mem_of_getElem? (i := 31) rfl))) (by decide) (t := .long) (t' := (.object "java/util/Optional")) (by decide) (by decide)))), (((Fw13.other W14 (Or.inr (slot_ne (Or.inr (hw _ (List.mem_of_getElem? (i := 25) rfl))) (Or.inr (hw _ (List.mem_of_getElem? (i := 27) rfl))) (by decide) (t := .long) (t' := .long) (by decide) (by decide)))).other W15 (Or.inr (slot_ne (Or.inr (hw _ (List.mem_of_getElem? (i := 25) rfl))) (Or.inr (hw _ (List.mem_of_getElem? (i := 29) rfl))) (by decide) (t := .long) (t' := (.object "java/util/Optional")) (by decide) (by decide)))).other W16 (Or.inr (slot_ne (Or.inr (hw _ (List.mem_of_getElem? (i := 25) rfl))) (Or.inr (hw _ (List.mem_of_getElem? (i := 31) rfl))) (by decide) (t := .long) (t' := (.object "java/util/Optional")) (by decide) (by decide)))), ((Fw14.other W15 (Or.inr (slot_ne (Or.inr (hw _ (List.mem_of_getElem? (i := 27) rfl))) (Or.inr (hw _ (List.mem_of_getElem? (i := 29) rfl))) (by decide) (t := .long) (t' := (.object "java/util/Optional")) (by decide) (by decide)))).other W16 (Or.inr (slot_ne (Or.inr (hw _ (List.mem_of_getElem? (i := 27) rfl))) (Or.inr (hw _ (List.mem_of_getElem? (i := 31) rfl))) (by decide) (t := .long) (t' := (.object "java/util/Optional")) (by decide) (by decide)))), (Fw15.other W16 (Or.inr (slot_ne (Or.inr (hw _ (List.mem_of_getElem? (i := 29) rfl))) (Or.inr (hw _ (List.mem_of_getElem? (i := 31) rfl))) (by decide) (t := (.object "java/util/Optional")) (t' := (.object "java/util/Optional")) (by decide) (by decide)))), Fw16⟩
theorem d4_0 : decode prog_13_method_2_code 0 = .ok (.aload_n 0, 1) := by decide +kernel
theorem d4_1 : decode prog_13_method_2_code 1 = .ok (.getfield 19, 3) := by decide +kernel
theorem d4_4 : decode prog_13_method_2_code 4 = .ok (.lconst 0, 1) := by decide +kernel
theorem d4_5 : decode prog_13_method_2_code 5 = .ok (.lcmp, 1) := by decide +kernel
theorem d4_6 : decode prog_13_method_2_code 6 = .ok (.ifCond .ne 7, 3) := by decide +kernel
theorem d4_9 : decode prog_13_method_2_code 9 = .ok (.dconst 0, 1) := by decide +kernel
theorem d4_10 : decode prog_13_method_2_code 10 = .ok (.goto 14, 3) := by decide +kernel
theorem d4_24 : decode prog_13_method_2_code 24 = .ok (.dreturn, 1) := by decide +kernel
theorem pn_4 : plainName "com/example/bits_for_sets/bitsforsets/tool/ReplayCounts" = true := by first | (simp [plainName, overriddenIn]; done) | decide +kernel
theorem ef_4 (m : MethodId) (x0 : Addr) : entryFrame m #[(.ref x0)] 1 = mkF m 0 #[.val (.ref x0)] [] := by first | (simp [entryFrame, mkF, argsToLocals, Value.category]; done) | rfl
set_option maxRecDepth 65536 in
set_option maxHeartbeats 40000000 in
theorem rm4_f (l : Launch) (Z : State) (a0 : Array Value) (hw : ∀ d ∈ tables_1, d.before a0 Z = true) (ws : List Jvm.Cond) (a1 : Addr) (w2 : Int64) (h0 : Heap) (n0 : Nat) (Z0 : n0 ≤ h0.size) (F_negatives_a1 : Fld Z h0 a1 "com/example/bits_for_sets/bitsforsets/tool/ReplayCounts" "negatives" "J" (.long w2)) (hc6 : (lcmpW w2 (0 : Int64)) = (0 : Int32)) :
    MetFree l (⟨"com/example/bits_for_sets/bitsforsets/tool/ReplayCounts", "falsePositiveRate", "()D"⟩ : MethodName) (head1 (Jvm.Cond.code (⟨"com/example/bits_for_sets/bitsforsets/tool/ReplayCounts", "falsePositiveRate", "()D"⟩ : MethodName) prog_13_method_2_code 1 (some .double) :: ws) ({ frames := 0, cells := 0, slots := 0, locals := 0 } : Room)) (fun a U => a = #[(.ref a1)] ∧ Z.Warmed39 U.vm ∧ U.heap = h0) (fun _ _ _ _ _ => True) (fun _ U o U' => ∃ v L, o = .returned v ∧ QV Z (.double FP.dconst0) h0 n0 v U'.heap L ∧ FrameEnd U o U' L ({ frames := 0, cells := 0, slots := 0, locals := 0 } : Room).cells ({ frames := 0, cells := 0, slots := 0, locals := 0 } : Room).slots) := by
  refine MetFree.of_bodySF (plainFor_of_name pn_4) hisR ?_
  intro p e s m args below meth c s₁ Bd hml0 hP hK
  obtain ⟨rfl, hZ, hh⟩ := hP
  have hx := Bd.exec
  have hby := Bd.bytes
  have hml : c.maxLocals = 1 := hml0
  have hown : s.vm.findClass "com/example/bits_for_sets/bitsforsets/tool/ReplayCounts" = some m.cls := findClass_of_methodNamed Bd.named
  have hnm := (name_of_methodNamed Bd.named Bd.method).1
  have X0 : Stand p l e ({ frames := 0, cells := 0, slots := 0, locals := 0 } : Room) s m #[(.ref a1)] below meth c s₁ [] 0 0 := Stand.of_body Bd
  have e0 : s₁.heap = h0 := by rw [← hh, Bd.state]; rfl
  have N0 := Fr.nil n0
  have pre0 : ∀ t, Steps p.tables e below (s₁.setTop (mkF m 0 #[.val (.ref a1)] [])) t → Steps p.tables e below (s₁.setTop (entryFrame m #[(.ref a1)] 1)) t := fun t k => castTop (ef_4 m a1) k
  obtain ⟨T3, X3, e3, st3⟩ := getF X0 hx hZ hown (host := "") (Or.inl (hw _ (List.mem_of_getElem? (i := 22) rfl))) Via.refl e0 F_negatives_a1 (g := (mkF m 1 #[.val (.ref a1)] [(.ref a1)])) rfl rfl (hb hby d4_1)
  obtain ⟨fs, hr, hrun, hended, hW, hsame⟩ := X3.leave (v := some (.double FP.dconst0)) (fun h => by rw [Bd.returns] at h; cases h)
  refine ⟨_, _, pre0 _ ?_, hrun, hended, _, _, rfl, ?_, ⟨_, rfl⟩, hW, hsame.mono (by decide) (by decide)⟩
  · show Steps p.tables e below (s₁.setTop (mkF m 0 #[.val (.ref a1)] [])) _
    refine XS.aloadN X0.here hx rfl (hb hby d4_0) rfl rfl ?_
    show Steps p.tables e below (s₁.setTop (mkF m 1 #[.val (.ref a1)] [(.ref a1)])) _
    refine st3 _ ?_
    show Steps p.tables e below (T3.setTop (mkF m 4 #[.val (.ref a1)] [(.long w2)])) _
    refine XS.lconst X3.here hx rfl (hb hby d4_4) ?_
    show Steps p.tables e below (T3.setTop (mkF m 5 #[.val (.ref a1)] [(.long (0 : Int64)), (.long w2)])) _
    refine XS.lcmp X3.here hx rfl (hb hby d4_5) rfl ?_
    show Steps p.tables e below (T3.setTop (mkF m 6 #[.val (.ref a1)] [(.int (lcmpW w2 (0 : Int64)))])) _
    refine XS.ifNo X3.here hx rfl (hb hby d4_6) rfl ((if0 _ _).trans (teq hc6).2) ?_
    show Steps p.tables e below (T3.setTop (mkF m 9 #[.val (.ref a1)] [])) _
    refine XS.dconst0 X3.here hx rfl (hb hby d4_9) rfl ?_
    show Steps p.tables e below (T3.setTop (mkF m 10 #[.val (.ref a1)] [(.double FP.dconst0)])) _
    refine XS.goto X3.here hx rfl (pc0 := 10) (pc' := 24) rfl (hb hby d4_10) (by decide) (by decide) ?_
    show Steps p.tables e below (T3.setTop (mkF m 24 #[.val (.ref a1)] [(.double FP.dconst0)])) _
    exact own_retD X3 hx Bd.returns (hb hby d4_24) hr
  · show QV Z (.double FP.dconst0) h0 n0 _ T3.heap _
    rw [e3]
    exact ⟨rfl, N0, rfl⟩
theorem d4_13 : decode prog_13_method_2_code 13 = .ok (.aload_n 0, 1) := by decide +kernel
theorem d4_14 : decode prog_13_method_2_code 14 = .ok (.getfield 22, 3) := by decide +kernel
theorem d4_17 : decode prog_13_method_2_code 17 = .ok (.l2d, 1) := by decide +kernel
theorem d4_18 : decode prog_13_method_2_code 18 = .ok (.aload_n 0, 1) := by decide +kernel
theorem d4_19 : decode prog_13_method_2_code 19 = .ok (.getfield 19, 3) := by decide +kernel
theorem d4_22 : decode prog_13_method_2_code 22 = .ok (.l2d, 1) := by decide +kernel
theorem d4_23 : decode prog_13_method_2_code 23 = .ok (.ddiv, 1) := by decide +kernel
set_option maxRecDepth 65536 in
set_option maxHeartbeats 40000000 in
theorem rm4_t (l : Launch) (Z : State) (a0 : Array Value) (hw : ∀ d ∈ tables_1, d.before a0 Z = true) (ws : List Jvm.Cond) (a1 : Addr) (w2 : Int64) (w4 : Int64) (h0 : Heap) (n0 : Nat) (Z0 : n0 ≤ h0.size) (F_negatives_a1 : Fld Z h0 a1 "com/example/bits_for_sets/bitsforsets/tool/ReplayCounts" "negatives" "J" (.long w2)) (F_falsePositives_a1 : Fld Z h0 a1 "com/example/bits_for_sets/bitsforsets/tool/ReplayCounts" "falsePositives" "J" (.long w4)) (hc6 : ¬ ((lcmpW w2 (0 : Int64)) = (0 : Int32))) :
    MetFree l (⟨"com/example/bits_for_sets/bitsforsets/tool/ReplayCounts", "falsePositiveRate", "()D"⟩ : MethodName) (head1 (Jvm.Cond.code (⟨"com/example/bits_for_sets/bitsforsets/tool/ReplayCounts", "falsePositiveRate", "()D"⟩ : MethodName) prog_13_method_2_code 1 (some .double) :: ws) ({ frames := 0, cells := 0, slots := 0, locals := 0 } : Room)) (fun a U => a = #[(.ref a1)] ∧ Z.Warmed39 U.vm ∧ U.heap = h0) (fun _ _ _ _ _ => True) (fun _ U o U' => ∃ v L, o = .returned v ∧ QV Z (.double (FP.ddiv (FP.l2d w4) (FP.l2d w2))) h0 n0 v U'.heap L ∧ FrameEnd U o U' L ({ frames := 0, cells := 0, slots := 0, locals := 0 } : Room).cells ({ frames := 0, cells := 0, slots := 0, locals := 0 } : Room).slots) := by
  refine MetFree.of_bodySF (plainFor_of_name pn_4) hisR ?_
  intro p e s m args below meth c s₁ Bd hml0 hP hK
  obtain ⟨rfl, hZ, hh⟩ := hP
  have hx := Bd.exec
  have hby := Bd.bytes
  have hml : c.maxLocals = 1 := hml0
  have hown : s.vm.findClass "com/example/bits_for_sets/bitsforsets/tool/ReplayCounts" = some m.cls := findClass_of_methodNamed Bd.named
  have hnm := (name_of_methodNamed Bd.named Bd.method).1
  have X0 : Stand p l e ({ frames := 0, cells := 0, slots := 0, locals := 0 } : Room) s m #[(.ref a1)] below meth c s₁ [] 0 0 := Stand.of_body Bd
  have e0 : s₁.heap = h0 := by rw [← hh, Bd.state]; rfl
  have N0 := Fr.nil n0
  have pre0 : ∀ t, Steps p.tables e below (s₁.setTop (mkF m 0 #[.val (.ref a1)] [])) t → Steps p.tables e below (s₁.setTop (entryFrame m #[(.ref a1)] 1)) t := fun t k => castTop (ef_4 m a1) k
  have hnn23 : Jvm.Free.Fl.NoNaN64 (FP.ddiv (FP.l2d w4) (FP.l2d w2)) := Jvm.Free.Fl.ddiv_out (Jvm.Free.Fl.l2d_fin _).noNaN (Jvm.Free.Fl.l2d_fin _) (Jvm.Free.Fl.l2d_nz (fun q => hc6 ((lw_eq _ _).mpr q)))
  obtain ⟨T3, X3, e3, st3⟩ := getF X0 hx hZ hown (host := "") (Or.inl (hw _ (List.mem_of_getElem? (i := 22) rfl))) Via.refl e0 F_negatives_a1 (g := (mkF m 1 #[.val (.ref a1)] [(.ref a1)])) rfl rfl (hb hby d4_1)
  obtain ⟨T5, X5, e5, st5⟩ := getF X3 hx hZ hown (host := "") (Or.inl (hw _ (List.mem_of_getElem? (i := 24) rfl))) Via.refl e3 F_falsePositives_a1 (g := (mkF m 14 #[.val (.ref a1)] [(.ref a1)])) rfl rfl (hb hby d4_14)
  obtain ⟨T6, X6, e6, st6⟩ := getF X5 hx hZ hown (host := "") (Or.inl (hw _ (List.mem_of_getElem? (i := 22) rfl))) Via.refl e5 F_negatives_a1 (g := (mkF m 19 #[.val (.ref a1)] [(.ref a1), (.double (FP.l2d w4))])) rfl rfl (hb hby d4_19)
  obtain ⟨fs, hr, hrun, hended, hW, hsame⟩ := X6.leave (v := some (.double (FP.ddiv (FP.l2d w4) (FP.l2d w2)))) (fun h => by rw [Bd.returns] at h; cases h)
  refine ⟨_, _, pre0 _ ?_, hrun, hended, _, _, rfl, ?_, ⟨_, rfl⟩, hW, hsame.mono (by decide) (by decide)⟩
  · show Steps p.tables e below (s₁.setTop (mkF m 0 #[.val (.ref a1)] [])) _
    refine XS.aloadN X0.here hx rfl (hb hby d4_0) rfl rfl ?_
    show Steps p.tables e below (s₁.setTop (mkF m 1 #[.val (.ref a1)] [(.ref a1)])) _
    refine st3 _ ?_
    show Steps p.tables e below (T3.setTop (mkF m 4 #[.val (.ref a1)] [(.long w2)])) _
    refine XS.lconst X3.here hx rfl (hb hby d4_4) ?_
    show Steps p.tables e below (T3.setTop (mkF m 5 #[.val (.ref a1)] [(.long (0 : Int64)), (.long w2)])) _
    refine XS.lcmp X3.here hx rfl (hb hby d4_5) rfl ?_
    show Steps p.tables e below (T3.setTop (mkF m 6 #[.val (.ref a1)] [(.int (lcmpW w2 (0 : Int64)))])) _
    refine XS.ifYes X3.here hx rfl (pc0 := 6) (pc' := 13) rfl (hb hby d4_6) rfl ((if0 _ _).trans (feq hc6).2) (by decide) (by decide) ?_
    show Steps p.tables e below (T3.setTop (mkF m 13 #[.val (.ref a1)] [])) _
    refine XS.aloadN X3.here hx rfl (hb hby d4_13) rfl rfl ?_
    show Steps p.tables e below (T3.setTop (mkF m 14 #[.val (.ref a1)] [(.ref a1)])) _
    refine st5 _ ?_
    show Steps p.tables e below (T5.setTop (mkF m 17 #[.val (.ref a1)] [(.long w4)])) _
    refine XS.l2dS X5.here hx rfl (hb hby d4_17) rfl rfl ?_
    show Steps p.tables e below (T5.setTop (mkF m 18 #[.val (.ref a1)] [(.double (FP.l2d w4))])) _
    refine XS.aloadN X5.here hx rfl (hb hby d4_18) rfl rfl ?_
    show Steps p.tables e below (T5.setTop (mkF m 19 #[.val (.ref a1)] [(.ref a1), (.double (FP.l2d w4))])) _
    refine st6 _ ?_
    show Steps p.tables e below (T6.setTop (mkF m 22 #[.val (.ref a1)] [(.long w2), (.double (FP.l2d w4))])) _
    refine XS.l2dS X6.here hx rfl (hb hby d4_22) rfl rfl ?_
    show Steps p.tables e below (T6.setTop (mkF m 23 #[.val (.ref a1)] [(.double (FP.l2d w2)), (.double (FP.l2d w4))])) _
    refine XS.ddivS X6.here hx rfl (hb hby d4_23) rfl hnn23 rfl ?_
    show Steps p.tables e below (T6.setTop (mkF m 24 #[.val (.ref a1)] [(.double (FP.ddiv (FP.l2d w4) (FP.l2d w2)))])) _
    exact own_retD X6 hx Bd.returns (hb hby d4_24) hr
  · show QV Z (.double (FP.ddiv (FP.l2d w4) (FP.l2d w2))) h0 n0 _ T6.heap _
    rw [e6]
    exact ⟨rfl, N0, rfl⟩
def own_f4 (w2 : Int64) (w4 : Int64) : UInt64 := (if (lcmpW w2 (0 : Int64)) = (0 : Int32) then FP.dconst0 else (FP.ddiv (FP.l2d w4) (FP.l2d w2)))
set_option maxRecDepth 65536 in
set_option maxHeartbeats 40000000 in
theorem rm4 (l : Launch) (Z : State) (a0 : Array Value) (hw : ∀ d ∈ tables_1, d.before a0 Z = true) (ws : List Jvm.Cond) (a1 : Addr) (w2 : Int64) (w4 : Int64) (h0 : Heap) (n0 : Nat) (Z0 : n0 ≤ h0.size) (F_negatives_a1 : Fld Z h0 a1 "com/example/bits_for_sets/bitsforsets/tool/ReplayCounts" "negatives" "J" (.long w2)) (F_falsePositives_a1 : Fld Z h0 a1 "com/example/bits_for_sets/bitsforsets/tool/ReplayCounts" "falsePositives" "J" (.long w4)) :
    MetFree l (⟨"com/example/bits_for_sets/bitsforsets/tool/ReplayCounts", "falsePositiveRate", "()D"⟩ : MethodName) (head1 (Jvm.Cond.code (⟨"com/example/bits_for_sets/bitsforsets/tool/ReplayCounts", "falsePositiveRate", "()D"⟩ : MethodName) prog_13_method_2_code 1 (some .double) :: ws) ({ frames := 0, cells := 0, slots := 0, locals := 0 } : Room)) (fun a U => a = #[(.ref a1)] ∧ Z.Warmed39 U.vm ∧ U.heap = h0) (fun _ _ _ _ _ => True) (fun _ U o U' => ∃ v L, o = .returned v ∧ QV Z (.double (own_f4 w2 w4)) h0 n0 v U'.heap L ∧ FrameEnd U o U' L ({ frames := 0, cells := 0, slots := 0, locals := 0 } : Room).cells ({ frames := 0, cells := 0, slots := 0, locals := 0 } : Room).slots) := by
  unfold own_f4
  by_cases hc6 : (lcmpW w2 (0 : Int64)) = (0 : Int32)
  · rw [if_pos hc6]
    exact rm4_f l Z a0 hw ws a1 w2 h0 n0 Z0 F_negatives_a1 hc6
  · rw [if_neg hc6]
    exact rm4_t l Z a0 hw ws a1 w2 w4 h0 n0 Z0 F_negatives_a1 F_falsePositives_a1 hc6
set_option maxRecDepth 65536 in
set_option maxHeartbeats 40000000 in
theorem tn0_0_22_t_sgA {p : Program} {l : Launch} {e : Env} {R : Room} {s : State} {m : MethodId} {args : Array Value} {below : List Frame} {meth : Method} {c : Code} {T0 : State} {locs : List Loc} {cells slots : Nat} {Z : State} {a0 : Array Value} {h0 : Heap} (j0 : Int64) (j2 : Int64) (j4 : Int64) (i6 : Int32)
    (X0 : Stand p l e R s m args below meth c T0 locs cells slots) (hx : p.tables.exec = Jvm.exec) (hZ : Z.Warmed39 s.vm) (hw : ∀ d ∈ tables_1, d.before a0 Z = true) (hby : c.code = code) (hml : c.maxLocals = 22) (hown : s.vm.findClass "com/example/bits_for_sets/bitsforsets/tool/ReplayCountsFalsePositiveRatePinLaw" = some m.cls) (e0 : T0.heap = h0) (hc11 : (i6 &&& (2 : Int32)) = (0 : Int32)) :
    ∃ (T' : State), Stand p l e R s m args below meth c T' locs cells slots ∧ T'.heap = h0 ∧
      ∀ target, Steps p.tables e below (T'.setTop (mkF m 22 #[.val (.long j0), .second, .val (.long j2), .second, .val (.long j4), .second, .val (.int i6), .val (.long (j0 &&& (9223372036854775807 : Int64))), .second, .unset, .unset, .unset, .unset, .unset, .unset, .unset, .unset, .unset, .unset, .unset, .unset, .unset] [])) target → Steps p.tables e below (T0.setTop (mkF m 0 #[.val (.long j0), .second, .val (.long j2), .second, .val (.long j4), .second, .val (.int i6), .unset, .unset, .unset, .unset, .unset, .unset, .unset, .unset, .unset, .unset, .unset, .unset, .unset, .unset, .unset] [])) target := by
  refine ⟨T0, X0, e0, fun target kt => ?_⟩
  show Steps p.tables e below (T0.setTop (mkF m 0 #[.val (.long j0), .second, .val (.long j2), .second, .val (.long j4), .second, .val (.int i6), .unset, .unset, .unset, .unset, .unset, .unset, .unset, .unset, .unset, .unset, .unset, .unset, .unset, .unset, .unset] [])) _
  refine XS.lloadN X0.here hx rfl (hb hby at_0) rfl ?_
  show Steps p.tables e below (T0.setTop (mkF m 1 #[.val (.long j0), .second, .val (.long j2), .second, .val (.long j4), .second, .val (.int i6), .unset, .unset, .unset, .unset, .unset, .unset, .unset, .unset, .unset, .unset, .unset, .unset, .unset, .unset, .unset] [(.long j0)])) _
  refine X0.ldc2Long hx hown (mvT hZ (hw _ (List.mem_of_getElem? (i := 0) rfl))) (g := (mkF m 1 #[.val (.long j0), .second, .val (.long j2), .second, .val (.long j4), .second, .val (.int i6), .unset, .unset, .unset, .unset, .unset, .unset, .unset, .unset, .unset, .unset, .unset, .unset, .unset, .unset, .unset] [(.long j0)])) rfl (hb hby at_1) _ ?_
  show Steps p.tables e below (T0.setTop (mkF m 4 #[.val (.long j0), .second, .val (.long j2), .second, .val (.long j4), .second, .val (.int i6), .unset, .unset, .unset, .unset, .unset, .unset, .unset, .unset, .unset, .unset, .unset, .unset, .unset, .unset, .unset] [(.long (9223372036854775807 : Int64)), (.long j0)])) _
  refine XS.land X0.here hx rfl (hb hby at_4) rfl ?_
  show Steps p.tables e below (T0.setTop (mkF m 5 #[.val (.long j0), .second, .val (.long j2), .second, .val (.long j4), .second, .val (.int i6), .unset, .unset, .unset, .unset, .unset, .unset, .unset, .unset, .unset, .unset, .unset, .unset, .unset, .unset, .unset] [(.long (j0 &&& (9223372036854775807 : Int64)))])) _
  refine XS.lstore X0.here hx rfl (hb hby at_5) rfl (l' := #[.val (.long j0), .second, .val (.long j2), .second, .val (.long j4), .second, .val (.int i6), .val (.long (j0 &&& (9223372036854775807 : Int64))), .second, .unset, .unset, .unset, .unset, .unset, .unset, .unset, .unset, .unset, .unset, .unset, .unset, .unset]) rfl ?_
  show Steps p.tables e below (T0.setTop (mkF m 7 #[.val (.long j0), .second, .val (.long j2), .second, .val (.long j4), .second, .val (.int i6), .val (.long (j0 &&& (9223372036854775807 : Int64))), .second, .unset, .unset, .unset, .unset, .unset, .unset, .unset, .unset, .unset, .unset, .unset, .unset, .unset] [])) _
  refine XS.iload X0.here hx rfl (hb hby at_7) rfl ?_
  show Steps p.tables e below (T0.setTop (mkF m 9 #[.val (.long j0), .second, .val (.long j2), .second, .val (.long j4), .second, .val (.int i6), .val (.long (j0 &&& (9223372036854775807 : Int64))), .second, .unset, .unset, .unset, .unset, .unset, .unset, .unset, .unset, .unset, .unset, .unset, .unset, .unset] [(.int i6)])) _
  refine XS.iconst X0.here hx rfl (hb hby at_9) ?_
  show Steps p.tables e below (T0.setTop (mkF m 10 #[.val (.long j0), .second, .val (.long j2), .second, .val (.long j4), .second, .val (.int i6), .val (.long (j0 &&& (9223372036854775807 : Int64))), .second, .unset, .unset, .unset, .unset, .unset, .unset, .unset, .unset, .unset, .unset, .unset, .unset, .unset] [(.int (2 : Int32)), (.int i6)])) _
  refine XS.iand X0.here hx rfl (hb hby at_10) rfl ?_
  show Steps p.tables e below (T0.setTop (mkF m 11 #[.val (.long j0), .second, .val (.long j2), .second, .val (.long j4), .second, .val (.int i6), .val (.long (j0 &&& (9223372036854775807 : Int64))), .second, .unset, .unset, .unset, .unset, .unset, .unset, .unset, .unset, .unset, .unset, .unset, .unset, .unset] [(.int (i6 &&& (2 : Int32)))])) _
  refine XS.ifYes X0.here hx rfl (pc0 := 11) (pc' := 22) rfl (hb hby at_11) rfl ((if0 _ _).trans (teq hc11).1) (by decide) (by decide) ?_
  exact kt
set_option maxRecDepth 65536 in
set_option maxHeartbeats 40000000 in
theorem tn0_0_22_f_sgA {p : Program} {l : Launch} {e : Env} {R : Room} {s : State} {m : MethodId} {args : Array Value} {below : List Frame} {meth : Method} {c : Code} {T0 : State} {locs : List Loc} {cells slots : Nat} {Z : State} {a0 : Array Value} {h0 : Heap} (j0 : Int64) (j2 : Int64) (j4 : Int64) (i6 : Int32)
    (X0 : Stand p l e R s m args below meth c T0 locs cells slots) (hx : p.tables.exec = Jvm.exec) (hZ : Z.Warmed39 s.vm) (hw : ∀ d ∈ tables_1, d.before a0 Z = true) (hby : c.code = code) (hml : c.maxLocals = 22) (hown : s.vm.findClass "com/example/bits_for_sets/bitsforsets/tool/ReplayCountsFalsePositiveRatePinLaw" = some m.cls) (e0 : T0.heap = h0) (hc11 : ¬ ((i6 &&& (2 : Int32)) = (0 : Int32))) :
    ∃ (T' : State), Stand p l e R s m args below meth c T' locs cells slots ∧ T'.heap = h0 ∧
      ∀ target, Steps p.tables e below (T'.setTop (mkF m 22 #[.val (.long j0), .second, .val (.long j2), .second, .val (.long j4), .second, .val (.int i6), .val (.long ((j0 &&& (9223372036854775807 : Int64)) &&& (4503599627370495 : Int64))), .second, .unset, .unset, .unset, .unset, .unset, .unset, .unset, .unset, .unset, .unset, .unset, .unset, .unset] [])) target → Steps p.tables e below (T0.setTop (mkF m 0 #[.val (.long j0), .second, .val (.long j2), .second, .val (.long j4), .second, .val (.int i6), .unset, .unset, .unset, .unset, .unset, .unset, .unset, .unset, .unset, .unset, .unset, .unset, .unset, .unset, .unset] [])) target := by
  refine ⟨T0, X0, e0, fun target kt => ?_⟩
  show Steps p.tables e below (T0.setTop (mkF m 0 #[.val (.long j0), .second, .val (.long j2), .second, .val (.long j4), .second, .val (.int i6), .unset, .unset, .unset, .unset, .unset, .unset, .unset, .unset, .unset, .unset, .unset, .unset, .unset, .unset, .unset] [])) _
  refine XS.lloadN X0.here hx rfl (hb hby at_0) rfl ?_
  show Steps p.tables e below (T0.setTop (mkF m 1 #[.val (.long j0), .second, .val (.long j2), .second, .val (.long j4), .second, .val (.int i6), .unset, .unset, .unset, .unset, .unset, .unset, .unset, .unset, .unset, .unset, .unset, .unset, .unset, .unset, .unset] [(.long j0)])) _
  refine X0.ldc2Long hx hown (mvT hZ (hw _ (List.mem_of_getElem? (i := 0) rfl))) (g := (mkF m 1 #[.val (.long j0), .second, .val (.long j2), .second, .val (.long j4), .second, .val (.int i6), .unset, .unset, .unset, .unset, .unset, .unset, .unset, .unset, .unset, .unset, .unset, .unset, .unset, .unset, .unset] [(.long j0)])) rfl (hb hby at_1) _ ?_
  show Steps p.tables e below (T0.setTop (mkF m 4 #[.val (.long j0), .second, .val (.long j2), .second, .val (.long j4), .second, .val (.int i6), .unset, .unset, .unset, .unset, .unset, .unset, .unset, .unset, .unset, .unset, .unset, .unset, .unset, .unset, .unset] [(.long (9223372036854775807 : Int64)), (.long j0)])) _
  refine XS.land X0.here hx rfl (hb hby at_4) rfl ?_
  show Steps p.tables e below (T0.setTop (mkF m 5 #[.val (.long j0), .second, .val (.long j2), .second, .val (.long j4), .second, .val (.int i6), .unset, .unset, .unset, .unset, .unset, .unset, .unset, .unset, .unset, .unset, .unset, .unset, .unset, .unset, .unset] [(.long (j0 &&& (9223372036854775807 : Int64)))])) _
  refine XS.lstore X0.here hx rfl (hb hby at_5) rfl (l' := #[.val (.long j0), .second, .val (.long j2), .second, .val (.long j4), .second, .val (.int i6), .val (.long (j0 &&& (9223372036854775807 : Int64))), .second, .unset, .unset, .unset, .unset, .unset, .unset, .unset, .unset, .unset, .unset, .unset, .unset, .unset]) rfl ?_
  show Steps p.tables e below (T0.setTop (mkF m 7 #[.val (.long j0), .second, .val (.long j2), .second, .val (.long j4), .second, .val (.int i6), .val (.long (j0 &&& (9223372036854775807 : Int64))), .second, .unset, .unset, .unset, .unset, .unset, .unset, .unset, .unset, .unset, .unset, .unset, .unset, .unset] [])) _
  refine XS.iload X0.here hx rfl (hb hby at_7) rfl ?_
  show Steps p.tables e below (T0.setTop (mkF m 9 #[.val (.long j0), .second, .val (.long j2), .second, .val (.long j4), .second, .val (.int i6), .val (.long (j0 &&& (9223372036854775807 : Int64))), .second, .unset, .unset, .unset, .unset, .unset, .unset, .unset, .unset, .unset, .unset, .unset, .unset, .unset] [(.int i6)])) _
  refine XS.iconst X0.here hx rfl (hb hby at_9) ?_
  show Steps p.tables e below (T0.setTop (mkF m 10 #[.val (.long j0), .second, .val (.long j2), .second, .val (.long j4), .second, .val (.int i6), .val (.long (j0 &&& (9223372036854775807 : Int64))), .second, .unset, .unset, .unset, .unset, .unset, .unset, .unset, .unset, .unset, .unset, .unset, .unset, .unset] [(.int (2 : Int32)), (.int i6)])) _
  refine XS.iand X0.here hx rfl (hb hby at_10) rfl ?_
  show Steps p.tables e below (T0.setTop (mkF m 11 #[.val (.long j0), .second, .val (.long j2), .second, .val (.long j4), .second, .val (.int i6), .val (.long (j0 &&& (9223372036854775807 : Int64))), .second, .unset, .unset, .unset, .unset, .unset, .unset, .unset, .unset, .unset, .unset, .unset, .unset, .unset] [(.int (i6 &&& (2 : Int32)))])) _
  refine XS.ifNo X0.here hx rfl (hb hby at_11) rfl ((if0 _ _).trans (feq hc11).1) ?_
  show Steps p.tables e below (T0.setTop (mkF m 14 #[.val (.long j0), .second, .val (.long j2), .second, .val (.long j4), .second, .val (.int i6), .val (.long (j0 &&& (9223372036854775807 : Int64))), .second, .unset, .unset, .unset, .unset, .unset, .unset, .unset, .unset, .unset, .unset, .unset, .unset, .unset] [])) _
  refine XS.lload X0.here hx rfl (hb hby at_14) rfl ?_
  show Steps p.tables e below (T0.setTop (mkF m 16 #[.val (.long j0), .second, .val (.long j2), .second, .val (.long j4), .second, .val (.int i6), .val (.long (j0 &&& (9223372036854775807 : Int64))), .second, .unset, .unset, .unset, .unset, .unset, .unset, .unset, .unset, .unset, .unset, .unset, .unset, .unset] [(.long (j0 &&& (9223372036854775807 : Int64)))])) _
  refine X0.ldc2Long hx hown (mvT hZ (hw _ (List.mem_of_getElem? (i := 1) rfl))) (g := (mkF m 16 #[.val (.long j0), .second, .val (.long j2), .second, .val (.long j4), .second, .val (.int i6), .val (.long (j0 &&& (9223372036854775807 : Int64))), .second, .unset, .unset, .unset, .unset, .unset, .unset, .unset, .unset, .unset, .unset, .unset, .unset, .unset] [(.long (j0 &&& (9223372036854775807 : Int64)))])) rfl (hb hby at_16) _ ?_
  show Steps p.tables e below (T0.setTop (mkF m 19 #[.val (.long j0), .second, .val (.long j2), .second, .val (.long j4), .second, .val (.int i6), .val (.long (j0 &&& (9223372036854775807 : Int64))), .second, .unset, .unset, .unset, .unset, .unset, .unset, .unset, .unset, .unset, .unset, .unset, .unset, .unset] [(.long (4503599627370495 : Int64)), (.long (j0 &&& (9223372036854775807 : Int64)))])) _
  refine XS.land X0.here hx rfl (hb hby at_19) rfl ?_
  show Steps p.tables e below (T0.setTop (mkF m 20 #[.val (.long j0), .second, .val (.long j2), .second, .val (.long j4), .second, .val (.int i6), .val (.long (j0 &&& (9223372036854775807 : Int64))), .second, .unset, .unset, .unset, .unset, .unset, .unset, .unset, .unset, .unset, .unset, .unset, .unset, .unset] [(.long ((j0 &&& (9223372036854775807 : Int64)) &&& (4503599627370495 : Int64)))])) _
  refine XS.lstore X0.here hx rfl (hb hby at_20) rfl (l' := #[.val (.long j0), .second, .val (.long j2), .second, .val (.long j4), .second, .val (.int i6), .val (.long ((j0 &&& (9223372036854775807 : Int64)) &&& (4503599627370495 : Int64))), .second, .unset, .unset, .unset, .unset, .unset, .unset, .unset, .unset, .unset, .unset, .unset, .unset, .unset]) rfl ?_
  exact kt
def own_sgA_7 (j0 : Int64) (i6 : Int32) : Int64 := (if (i6 &&& (2 : Int32)) = (0 : Int32) then (j0 &&& (9223372036854775807 : Int64)) else ((j0 &&& (9223372036854775807 : Int64)) &&& (4503599627370495 : Int64)))
set_option maxRecDepth 65536 in
set_option maxHeartbeats 40000000 in
theorem sgA {p : Program} {l : Launch} {e : Env} {R : Room} {s : State} {m : MethodId} {args : Array Value} {below : List Frame} {meth : Method} {c : Code} {T0 : State} {locs : List Loc} {cells slots : Nat} {Z : State} {a0 : Array Value} {h0 : Heap} (j0 : Int64) (j2 : Int64) (j4 : Int64) (i6 : Int32)
    (X0 : Stand p l e R s m args below meth c T0 locs cells slots) (hx : p.tables.exec = Jvm.exec) (hZ : Z.Warmed39 s.vm) (hw : ∀ d ∈ tables_1, d.before a0 Z = true) (hby : c.code = code) (hml : c.maxLocals = 22) (hown : s.vm.findClass "com/example/bits_for_sets/bitsforsets/tool/ReplayCountsFalsePositiveRatePinLaw" = some m.cls) (e0 : T0.heap = h0) :
    ∃ (T' : State), Stand p l e R s m args below meth c T' locs cells slots ∧ T'.heap = h0 ∧
      ∀ target, Steps p.tables e below (T'.setTop (mkF m 22 #[.val (.long j0), .second, .val (.long j2), .second, .val (.long j4), .second, .val (.int i6), .val (.long (own_sgA_7 j0 i6)), .second, .unset, .unset, .unset, .unset, .unset, .unset, .unset, .unset, .unset, .unset, .unset, .unset, .unset] [])) target → Steps p.tables e below (T0.setTop (mkF m 0 #[.val (.long j0), .second, .val (.long j2), .second, .val (.long j4), .second, .val (.int i6), .unset, .unset, .unset, .unset, .unset, .unset, .unset, .unset, .unset, .unset, .unset, .unset, .unset, .unset, .unset] [])) target := by
  unfold own_sgA_7
  by_cases hc11 : (i6 &&& (2 : Int32)) = (0 : Int32)
  · simp only [if_pos hc11]
    exact tn0_0_22_t_sgA j0 j2 j4 i6 X0 hx hZ hw hby hml hown e0 hc11
  · simp only [if_neg hc11]
    exact tn0_0_22_f_sgA j0 j2 j4 i6 X0 hx hZ hw hby hml hown e0 hc11
set_option maxRecDepth 65536 in
set_option maxHeartbeats 40000000 in
theorem tn0_22_37_t_sgB {p : Program} {l : Launch} {e : Env} {R : Room} {s : State} {m : MethodId} {args : Array Value} {below : List Frame} {meth : Method} {c : Code} {T0 : State} {locs : List Loc} {cells slots : Nat} {Z : State} {a0 : Array Value} {h0 : Heap} (j0 : Int64) (j2 : Int64) (j4 : Int64) (i6 : Int32) (j7 : Int64)
    (X0 : Stand p l e R s m args below meth c T0 locs cells slots) (hx : p.tables.exec = Jvm.exec) (hZ : Z.Warmed39 s.vm) (hw : ∀ d ∈ tables_1, d.before a0 Z = true) (hby : c.code = code) (hml : c.maxLocals = 22) (hown : s.vm.findClass "com/example/bits_for_sets/bitsforsets/tool/ReplayCountsFalsePositiveRatePinLaw" = some m.cls) (e0 : T0.heap = h0) (hc26 : (i6 &&& (4 : Int32)) = (0 : Int32)) :
    ∃ (T' : State), Stand p l e R s m args below meth c T' locs cells slots ∧ T'.heap = h0 ∧
      ∀ target, Steps p.tables e below (T'.setTop (mkF m 37 #[.val (.long j0), .second, .val (.long j2), .second, .val (.long j4), .second, .val (.int i6), .val (.long j7), .second, .unset, .unset, .unset, .unset, .unset, .unset, .unset, .unset, .unset, .unset, .unset, .unset, .unset] [])) target → Steps p.tables e below (T0.setTop (mkF m 22 #[.val (.long j0), .second, .val (.long j2), .second, .val (.long j4), .second, .val (.int i6), .val (.long j7), .second, .unset, .unset, .unset, .unset, .unset, .unset, .unset, .unset, .unset, .unset, .unset, .unset, .unset] [])) target := by
  refine ⟨T0, X0, e0, fun target kt => ?_⟩
  show Steps p.tables e below (T0.setTop (mkF m 22 #[.val (.long j0), .second, .val (.long j2), .second, .val (.long j4), .second, .val (.int i6), .val (.long j7), .second, .unset, .unset, .unset, .unset, .unset, .unset, .unset, .unset, .unset, .unset, .unset, .unset, .unset] [])) _
  refine XS.iload X0.here hx rfl (hb hby at_22) rfl ?_
  show Steps p.tables e below (T0.setTop (mkF m 24 #[.val (.long j0), .second, .val (.long j2), .second, .val (.long j4), .second, .val (.int i6), .val (.long j7), .second, .unset, .unset, .unset, .unset, .unset, .unset, .unset, .unset, .unset, .unset, .unset, .unset, .unset] [(.int i6)])) _
  refine XS.iconst X0.here hx rfl (hb hby at_24) ?_
  show Steps p.tables e below (T0.setTop (mkF m 25 #[.val (.long j0), .second, .val (.long j2), .second, .val (.long j4), .second, .val (.int i6), .val (.long j7), .second, .unset, .unset, .unset, .unset, .unset, .unset, .unset, .unset, .unset, .unset, .unset, .unset, .unset] [(.int (4 : Int32)), (.int i6)])) _
  refine XS.iand X0.here hx rfl (hb hby at_25) rfl ?_
  show Steps p.tables e below (T0.setTop (mkF m 26 #[.val (.long j0), .second, .val (.long j2), .second, .val (.long j4), .second, .val (.int i6), .val (.long j7), .second, .unset, .unset, .unset, .unset, .unset, .unset, .unset, .unset, .unset, .unset, .unset, .unset, .unset] [(.int (i6 &&& (4 : Int32)))])) _
  refine XS.ifYes X0.here hx rfl (pc0 := 26) (pc' := 37) rfl (hb hby at_26) rfl ((if0 _ _).trans (teq hc26).1) (by decide) (by decide) ?_
  exact kt
set_option maxRecDepth 65536 in
set_option maxHeartbeats 40000000 in
theorem tn0_22_37_f_sgB {p : Program} {l : Launch} {e : Env} {R : Room} {s : State} {m : MethodId} {args : Array Value} {below : List Frame} {meth : Method} {c : Code} {T0 : State} {locs : List Loc} {cells slots : Nat} {Z : State} {a0 : Array Value} {h0 : Heap} (j0 : Int64) (j2 : Int64) (j4 : Int64) (i6 : Int32) (j7 : Int64)
    (X0 : Stand p l e R s m args below meth c T0 locs cells slots) (hx : p.tables.exec = Jvm.exec) (hZ : Z.Warmed39 s.vm) (hw : ∀ d ∈ tables_1, d.before a0 Z = true) (hby : c.code = code) (hml : c.maxLocals = 22) (hown : s.vm.findClass "com/example/bits_for_sets/bitsforsets/tool/ReplayCountsFalsePositiveRatePinLaw" = some m.cls) (e0 : T0.heap = h0) (hc26 : ¬ ((i6 &&& (4 : Int32)) = (0 : Int32))) :
    ∃ (T' : State), Stand p l e R s m args below meth c T' locs cells slots ∧ T'.heap = h0 ∧
      ∀ target, Steps p.tables e below (T'.setTop (mkF m 37 #[.val (.long j0), .second, .val (.long j2), .second, .val (.long j4), .second, .val (.int i6), .val (.long (j7 &&& (15 : Int64))), .second, .unset, .unset, .unset, .unset, .unset, .unset, .unset, .unset, .unset, .unset, .unset, .unset, .unset] [])) target → Steps p.tables e below (T0.setTop (mkF m 22 #[.val (.long j0), .second, .val (.long j2), .second, .val (.long j4), .second, .val (.int i6), .val (.long j7), .second, .unset, .unset, .unset, .unset, .unset, .unset, .unset, .unset, .unset, .unset, .unset, .unset, .unset] [])) target := by
  refine ⟨T0, X0, e0, fun target kt => ?_⟩
  show Steps p.tables e below (T0.setTop (mkF m 22 #[.val (.long j0), .second, .val (.long j2), .second, .val (.long j4), .second, .val (.int i6), .val (.long j7), .second, .unset, .unset, .unset, .unset, .unset, .unset, .unset, .unset, .unset, .unset, .unset, .unset, .unset] [])) _
  refine XS.iload X0.here hx rfl (hb hby at_22) rfl ?_
  show Steps p.tables e below (T0.setTop (mkF m 24 #[.val (.long j0), .second, .val (.long j2), .second, .val (.long j4), .second, .val (.int i6), .val (.long j7), .second, .unset, .unset, .unset, .unset, .unset, .unset, .unset, .unset, .unset, .unset, .unset, .unset, .unset] [(.int i6)])) _
  refine XS.iconst X0.here hx rfl (hb hby at_24) ?_
  show Steps p.tables e below (T0.setTop (mkF m 25 #[.val (.long j0), .second, .val (.long j2), .second, .val (.long j4), .second, .val (.int i6), .val (.long j7), .second, .unset, .unset, .unset, .unset, .unset, .unset, .unset, .unset, .unset, .unset, .unset, .unset, .unset] [(.int (4 : Int32)), (.int i6)])) _
  refine XS.iand X0.here hx rfl (hb hby at_25) rfl ?_
  show Steps p.tables e below (T0.setTop (mkF m 26 #[.val (.long j0), .second, .val (.long j2), .second, .val (.long j4), .second, .val (.int i6), .val (.long j7), .second, .unset, .unset, .unset, .unset, .unset, .unset, .unset, .unset, .unset, .unset, .unset, .unset, .unset] [(.int (i6 &&& (4 : Int32)))])) _
  refine XS.ifNo X0.here hx rfl (hb hby at_26) rfl ((if0 _ _).trans (feq hc26).1) ?_
  show Steps p.tables e below (T0.setTop (mkF m 29 #[.val (.long j0), .second, .val (.long j2), .second, .val (.long j4), .second, .val (.int i6), .val (.long j7), .second, .unset, .unset, .unset, .unset, .unset, .unset, .unset, .unset, .unset, .unset, .unset, .unset, .unset] [])) _
  refine XS.lload X0.here hx rfl (hb hby at_29) rfl ?_
  show Steps p.tables e below (T0.setTop (mkF m 31 #[.val (.long j0), .second, .val (.long j2), .second, .val (.long j4), .second, .val (.int i6), .val (.long j7), .second, .unset, .unset, .unset, .unset, .unset, .unset, .unset, .unset, .unset, .unset, .unset, .unset, .unset] [(.long j7)])) _
  refine X0.ldc2Long hx hown (mvT hZ (hw _ (List.mem_of_getElem? (i := 40) rfl))) (g := (mkF m 31 #[.val (.long j0), .second, .val (.long j2), .second, .val (.long j4), .second, .val (.int i6), .val (.long j7), .second, .unset, .unset, .unset, .unset, .unset, .unset, .unset, .unset, .unset, .unset, .unset, .unset, .unset] [(.long j7)])) rfl (hb hby at_31) _ ?_
  show Steps p.tables e below (T0.setTop (mkF m 34 #[.val (.long j0), .second, .val (.long j2), .second, .val (.long j4), .second, .val (.int i6), .val (.long j7), .second, .unset, .unset, .unset, .unset, .unset, .unset, .unset, .unset, .unset, .unset, .unset, .unset, .unset] [(.long (15 : Int64)), (.long j7)])) _
  refine XS.land X0.here hx rfl (hb hby at_34) rfl ?_
  show Steps p.tables e below (T0.setTop (mkF m 35 #[.val (.long j0), .second, .val (.long j2), .second, .val (.long j4), .second, .val (.int i6), .val (.long j7), .second, .unset, .unset, .unset, .unset, .unset, .unset, .unset, .unset, .unset, .unset, .unset, .unset, .unset] [(.long (j7 &&& (15 : Int64)))])) _
  refine XS.lstore X0.here hx rfl (hb hby at_35) rfl (l' := #[.val (.long j0), .second, .val (.long j2), .second, .val (.long j4), .second, .val (.int i6), .val (.long (j7 &&& (15 : Int64))), .second, .unset, .unset, .unset, .unset, .unset, .unset, .unset, .unset, .unset, .unset, .unset, .unset, .unset]) rfl ?_
  exact kt
def own_sgB_7 (i6 : Int32) (j7 : Int64) : Int64 := (if (i6 &&& (4 : Int32)) = (0 : Int32) then j7 else (j7 &&& (15 : Int64)))
set_option maxRecDepth 65536 in
set_option maxHeartbeats 40000000 in
theorem sgB {p : Program} {l : Launch} {e : Env} {R : Room} {s : State} {m : MethodId} {args : Array Value} {below : List Frame} {meth : Method} {c : Code} {T0 : State} {locs : List Loc} {cells slots : Nat} {Z : State} {a0 : Array Value} {h0 : Heap} (j0 : Int64) (j2 : Int64) (j4 : Int64) (i6 : Int32) (j7 : Int64)
    (X0 : Stand p l e R s m args below meth c T0 locs cells slots) (hx : p.tables.exec = Jvm.exec) (hZ : Z.Warmed39 s.vm) (hw : ∀ d ∈ tables_1, d.before a0 Z = true) (hby : c.code = code) (hml : c.maxLocals = 22) (hown : s.vm.findClass "com/example/bits_for_sets/bitsforsets/tool/ReplayCountsFalsePositiveRatePinLaw" = some m.cls) (e0 : T0.heap = h0) :
    ∃ (T' : State), Stand p l e R s m args below meth c T' locs cells slots ∧ T'.heap = h0 ∧
      ∀ target, Steps p.tables e below (T'.setTop (mkF m 37 #[.val (.long j0), .second, .val (.long j2), .second, .val (.long j4), .second, .val (.int i6), .val (.long (own_sgB_7 i6 j7)), .second, .unset, .unset, .unset, .unset, .unset, .unset, .unset, .unset, .unset, .unset, .unset, .unset, .unset] [])) target → Steps p.tables e below (T0.setTop (mkF m 22 #[.val (.long j0), .second, .val (.long j2), .second, .val (.long j4), .second, .val (.int i6), .val (.long j7), .second, .unset, .unset, .unset, .unset, .unset, .unset, .unset, .unset, .unset, .unset, .unset, .unset, .unset] [])) target := by
  unfold own_sgB_7
  by_cases hc26 : (i6 &&& (4 : Int32)) = (0 : Int32)
  · simp only [if_pos hc26]
    exact tn0_22_37_t_sgB j0 j2 j4 i6 j7 X0 hx hZ hw hby hml hown e0 hc26
  · simp only [if_neg hc26]
    exact tn0_22_37_f_sgB j0 j2 j4 i6 j7 X0 hx hZ hw hby hml hown e0 hc26
set_option maxRecDepth 65536 in
set_option maxHeartbeats 40000000 in
theorem tn0_37_78_t_sgC {p : Program} {l : Launch} {e : Env} {R : Room} {s : State} {m : MethodId} {args : Array Value} {below : List Frame} {meth : Method} {c : Code} {T0 : State} {locs : List Loc} {cells slots : Nat} {Z : State} {a0 : Array Value} {h0 : Heap} (j0 : Int64) (j2 : Int64) (j4 : Int64) (i6 : Int32) (j7 : Int64)
    (X0 : Stand p l e R s m args below meth c T0 locs cells slots) (hx : p.tables.exec = Jvm.exec) (hZ : Z.Warmed39 s.vm) (hw : ∀ d ∈ tables_1, d.before a0 Z = true) (hby : c.code = code) (hml : c.maxLocals = 22) (hown : s.vm.findClass "com/example/bits_for_sets/bitsforsets/tool/ReplayCountsFalsePositiveRatePinLaw" = some m.cls) (e0 : T0.heap = h0) (hc41 : (i6 &&& (1 : Int32)) = (0 : Int32)) (hnz62 : ¬ ((j7 + (1 : Int64)) = (0 : Int64))) (hnz75 : ¬ ((j7 + (1 : Int64)) = (0 : Int64))) :
    ∃ (T' : State), Stand p l e R s m args below meth c T' locs cells slots ∧ T'.heap = h0 ∧
      ∀ target, Steps p.tables e below (T'.setTop (mkF m 78 #[.val (.long j0), .second, .val (.long j2), .second, .val (.long j4), .second, .val (.int i6), .val (.long j7), .second, .val (.long ((j2 &&& (9223372036854775807 : Int64)) - ((j2 &&& (9223372036854775807 : Int64)) / (j7 + (1 : Int64))) * (j7 + (1 : Int64)))), .second, .val (.long ((j4 &&& (9223372036854775807 : Int64)) - ((j4 &&& (9223372036854775807 : Int64)) / (j7 + (1 : Int64))) * (j7 + (1 : Int64)))), .second, .unset, .unset, .unset, .unset, .unset, .unset, .unset, .unset, .unset] [])) target → Steps p.tables e below (T0.setTop (mkF m 37 #[.val (.long j0), .second, .val (.long j2), .second, .val (.long j4), .second, .val (.int i6), .val (.long j7), .second, .unset, .unset, .unset, .unset, .unset, .unset, .unset, .unset, .unset, .unset, .unset, .unset, .unset] [])) target := by
  refine ⟨T0, X0, e0, fun target kt => ?_⟩
  show Steps p.tables e below (T0.setTop (mkF m 37 #[.val (.long j0), .second, .val (.long j2), .second, .val (.long j4), .second, .val (.int i6), .val (.long j7), .second, .unset, .unset, .unset, .unset, .unset, .unset, .unset, .unset, .unset, .unset, .unset, .unset, .unset] [])) _
  refine XS.iload X0.here hx rfl (hb hby at_37) rfl ?_
  show Steps p.tables e below (T0.setTop (mkF m 39 #[.val (.long j0), .second, .val (.long j2), .second, .val (.long j4), .second, .val (.int i6), .val (.long j7), .second, .unset, .unset, .unset, .unset, .unset, .unset, .unset, .unset, .unset, .unset, .unset, .unset, .unset] [(.int i6)])) _
  refine XS.iconst X0.here hx rfl (hb hby at_39) ?_
  show Steps p.tables e below (T0.setTop (mkF m 40 #[.val (.long j0), .second, .val (.long j2), .second, .val (.long j4), .second, .val (.int i6), .val (.long j7), .second, .unset, .unset, .unset, .unset, .unset, .unset, .unset, .unset, .unset, .unset, .unset, .unset, .unset] [(.int (1 : Int32)), (.int i6)])) _
  refine XS.iand X0.here hx rfl (hb hby at_40) rfl ?_
  show Steps p.tables e below (T0.setTop (mkF m 41 #[.val (.long j0), .second, .val (.long j2), .second, .val (.long j4), .second, .val (.int i6), .val (.long j7), .second, .unset, .unset, .unset, .unset, .unset, .unset, .unset, .unset, .unset, .unset, .unset, .unset, .unset] [(.int (i6 &&& (1 : Int32)))])) _
  refine XS.ifYes X0.here hx rfl (pc0 := 41) (pc' := 53) rfl (hb hby at_41) rfl ((if0 _ _).trans (teq hc41).1) (by decide) (by decide) ?_
  show Steps p.tables e below (T0.setTop (mkF m 53 #[.val (.long j0), .second, .val (.long j2), .second, .val (.long j4), .second, .val (.int i6), .val (.long j7), .second, .unset, .unset, .unset, .unset, .unset, .unset, .unset, .unset, .unset, .unset, .unset, .unset, .unset] [])) _
  refine XS.lloadN X0.here hx rfl (hb hby at_53) rfl ?_
  show Steps p.tables e below (T0.setTop (mkF m 54 #[.val (.long j0), .second, .val (.long j2), .second, .val (.long j4), .second, .val (.int i6), .val (.long j7), .second, .unset, .unset, .unset, .unset, .unset, .unset, .unset, .unset, .unset, .unset, .unset, .unset, .unset] [(.long j2)])) _
  refine X0.ldc2Long hx hown (mvT hZ (hw _ (List.mem_of_getElem? (i := 0) rfl))) (g := (mkF m 54 #[.val (.long j0), .second, .val (.long j2), .second, .val (.long j4), .second, .val (.int i6), .val (.long j7), .second, .unset, .unset, .unset, .unset, .unset, .unset, .unset, .unset, .unset, .unset, .unset, .unset, .unset] [(.long j2)])) rfl (hb hby at_54) _ ?_
  show Steps p.tables e below (T0.setTop (mkF m 57 #[.val (.long j0), .second, .val (.long j2), .second, .val (.long j4), .second, .val (.int i6), .val (.long j7), .second, .unset, .unset, .unset, .unset, .unset, .unset, .unset, .unset, .unset, .unset, .unset, .unset, .unset] [(.long (9223372036854775807 : Int64)), (.long j2)])) _
  refine XS.land X0.here hx rfl (hb hby at_57) rfl ?_
  show Steps p.tables e below (T0.setTop (mkF m 58 #[.val (.long j0), .second, .val (.long j2), .second, .val (.long j4), .second, .val (.int i6), .val (.long j7), .second, .unset, .unset, .unset, .unset, .unset, .unset, .unset, .unset, .unset, .unset, .unset, .unset, .unset] [(.long (j2 &&& (9223372036854775807 : Int64)))])) _
  refine XS.lload X0.here hx rfl (hb hby at_58) rfl ?_
  show Steps p.tables e below (T0.setTop (mkF m 60 #[.val (.long j0), .second, .val (.long j2), .second, .val (.long j4), .second, .val (.int i6), .val (.long j7), .second, .unset, .unset, .unset, .unset, .unset, .unset, .unset, .unset, .unset, .unset, .unset, .unset, .unset] [(.long j7), (.long (j2 &&& (9223372036854775807 : Int64)))])) _
  refine XS.lconst X0.here hx rfl (hb hby at_60) ?_
  show Steps p.tables e below (T0.setTop (mkF m 61 #[.val (.long j0), .second, .val (.long j2), .second, .val (.long j4), .second, .val (.int i6), .val (.long j7), .second, .unset, .unset, .unset, .unset, .unset, .unset, .unset, .unset, .unset, .unset, .unset, .unset, .unset] [(.long (1 : Int64)), (.long j7), (.long (j2 &&& (9223372036854775807 : Int64)))])) _
  refine XS.ladd X0.here hx rfl (hb hby at_61) rfl ?_
  show Steps p.tables e below (T0.setTop (mkF m 62 #[.val (.long j0), .second, .val (.long j2), .second, .val (.long j4), .second, .val (.int i6), .val (.long j7), .second, .unset, .unset, .unset, .unset, .unset, .unset, .unset, .unset, .unset, .unset, .unset, .unset, .unset] [(.long (j7 + (1 : Int64))), (.long (j2 &&& (9223372036854775807 : Int64)))])) _
  refine XS.lrem X0.here hx rfl (hb hby at_62) rfl hnz62 ?_
  show Steps p.tables e below (T0.setTop (mkF m 63 #[.val (.long j0), .second, .val (.long j2), .second, .val (.long j4), .second, .val (.int i6), .val (.long j7), .second, .unset, .unset, .unset, .unset, .unset, .unset, .unset, .unset, .unset, .unset, .unset, .unset, .unset] [(.long ((j2 &&& (9223372036854775807 : Int64)) - ((j2 &&& (9223372036854775807 : Int64)) / (j7 + (1 : Int64))) * (j7 + (1 : Int64))))])) _
  refine XS.lstore X0.here hx rfl (hb hby at_63) rfl (l' := #[.val (.long j0), .second, .val (.long j2), .second, .val (.long j4), .second, .val (.int i6), .val (.long j7), .second, .val (.long ((j2 &&& (9223372036854775807 : Int64)) - ((j2 &&& (9223372036854775807 : Int64)) / (j7 + (1 : Int64))) * (j7 + (1 : Int64)))), .second, .unset, .unset, .unset, .unset, .unset, .unset, .unset, .unset, .unset, .unset, .unset]) rfl ?_
  show Steps p.tables e below (T0.setTop (mkF m 65 #[.val (.long j0), .second, .val (.long j2), .second, .val (.long j4), .second, .val (.int i6), .val (.long j7), .second, .val (.long ((j2 &&& (9223372036854775807 : Int64)) - ((j2 &&& (9223372036854775807 : Int64)) / (j7 + (1 : Int64))) * (j7 + (1 : Int64)))), .second, .unset, .unset, .unset, .unset, .unset, .unset, .unset, .unset, .unset, .unset, .unset] [])) _
  refine XS.lload X0.here hx rfl (hb hby at_65) rfl ?_
  show Steps p.tables e below (T0.setTop (mkF m 67 #[.val (.long j0), .second, .val (.long j2), .second, .val (.long j4), .second, .val (.int i6), .val (.long j7), .second, .val (.long ((j2 &&& (9223372036854775807 : Int64)) - ((j2 &&& (9223372036854775807 : Int64)) / (j7 + (1 : Int64))) * (j7 + (1 : Int64)))), .second, .unset, .unset, .unset, .unset, .unset, .unset, .unset, .unset, .unset, .unset, .unset] [(.long j4)])) _
  refine X0.ldc2Long hx hown (mvT hZ (hw _ (List.mem_of_getElem? (i := 0) rfl))) (g := (mkF m 67 #[.val (.long j0), .second, .val (.long j2), .second, .val (.long j4), .second, .val (.int i6), .val (.long j7), .second, .val (.long ((j2 &&& (9223372036854775807 : Int64)) - ((j2 &&& (9223372036854775807 : Int64)) / (j7 + (1 : Int64))) * (j7 + (1 : Int64)))), .second, .unset, .unset, .unset, .unset, .unset, .unset, .unset, .unset, .unset, .unset, .unset] [(.long j4)])) rfl (hb hby at_67) _ ?_
  show Steps p.tables e below (T0.setTop (mkF m 70 #[.val (.long j0), .second, .val (.long j2), .second, .val (.long j4), .second, .val (.int i6), .val (.long j7), .second, .val (.long ((j2 &&& (9223372036854775807 : Int64)) - ((j2 &&& (9223372036854775807 : Int64)) / (j7 + (1 : Int64))) * (j7 + (1 : Int64)))), .second, .unset, .unset, .unset, .unset, .unset, .unset, .unset, .unset, .unset, .unset, .unset] [(.long (9223372036854775807 : Int64)), (.long j4)])) _
  refine XS.land X0.here hx rfl (hb hby at_70) rfl ?_
  show Steps p.tables e below (T0.setTop (mkF m 71 #[.val (.long j0), .second, .val (.long j2), .second, .val (.long j4), .second, .val (.int i6), .val (.long j7), .second, .val (.long ((j2 &&& (9223372036854775807 : Int64)) - ((j2 &&& (9223372036854775807 : Int64)) / (j7 + (1 : Int64))) * (j7 + (1 : Int64)))), .second, .unset, .unset, .unset, .unset, .unset, .unset, .unset, .unset, .unset, .unset, .unset] [(.long (j4 &&& (9223372036854775807 : Int64)))])) _
  refine XS.lload X0.here hx rfl (hb hby at_71) rfl ?_
  show Steps p.tables e below (T0.setTop (mkF m 73 #[.val (.long j0), .second, .val (.long j2), .second, .val (.long j4), .second, .val (.int i6), .val (.long j7), .second, .val (.long ((j2 &&& (9223372036854775807 : Int64)) - ((j2 &&& (9223372036854775807 : Int64)) / (j7 + (1 : Int64))) * (j7 + (1 : Int64)))), .second, .unset, .unset, .unset, .unset, .unset, .unset, .unset, .unset, .unset, .unset, .unset] [(.long j7), (.long (j4 &&& (9223372036854775807 : Int64)))])) _
  refine XS.lconst X0.here hx rfl (hb hby at_73) ?_
  show Steps p.tables e below (T0.setTop (mkF m 74 #[.val (.long j0), .second, .val (.long j2), .second, .val (.long j4), .second, .val (.int i6), .val (.long j7), .second, .val (.long ((j2 &&& (9223372036854775807 : Int64)) - ((j2 &&& (9223372036854775807 : Int64)) / (j7 + (1 : Int64))) * (j7 + (1 : Int64)))), .second, .unset, .unset, .unset, .unset, .unset, .unset, .unset, .unset, .unset, .unset, .unset] [(.long (1 : Int64)), (.long j7), (.long (j4 &&& (9223372036854775807 : Int64)))])) _
  refine XS.ladd X0.here hx rfl (hb hby at_74) rfl ?_
  show Steps p.tables e below (T0.setTop (mkF m 75 #[.val (.long j0), .second, .val (.long j2), .second, .val (.long j4), .second, .val (.int i6), .val (.long j7), .second, .val (.long ((j2 &&& (9223372036854775807 : Int64)) - ((j2 &&& (9223372036854775807 : Int64)) / (j7 + (1 : Int64))) * (j7 + (1 : Int64)))), .second, .unset, .unset, .unset, .unset, .unset, .unset, .unset, .unset, .unset, .unset, .unset] [(.long (j7 + (1 : Int64))), (.long (j4 &&& (9223372036854775807 : Int64)))])) _
  refine XS.lrem X0.here hx rfl (hb hby at_75) rfl hnz75 ?_
  show Steps p.tables e below (T0.setTop (mkF m 76 #[.val (.long j0), .second, .val (.long j2), .second, .val (.long j4), .second, .val (.int i6), .val (.long j7), .second, .val (.long ((j2 &&& (9223372036854775807 : Int64)) - ((j2 &&& (9223372036854775807 : Int64)) / (j7 + (1 : Int64))) * (j7 + (1 : Int64)))), .second, .unset, .unset, .unset, .unset, .unset, .unset, .unset, .unset, .unset, .unset, .unset] [(.long ((j4 &&& (9223372036854775807 : Int64)) - ((j4 &&& (9223372036854775807 : Int64)) / (j7 + (1 : Int64))) * (j7 + (1 : Int64))))])) _
  refine XS.lstore X0.here hx rfl (hb hby at_76) rfl (l' := #[.val (.long j0), .second, .val (.long j2), .second, .val (.long j4), .second, .val (.int i6), .val (.long j7), .second, .val (.long ((j2 &&& (9223372036854775807 : Int64)) - ((j2 &&& (9223372036854775807 : Int64)) / (j7 + (1 : Int64))) * (j7 + (1 : Int64)))), .second, .val (.long ((j4 &&& (9223372036854775807 : Int64)) - ((j4 &&& (9223372036854775807 : Int64)) / (j7 + (1 : Int64))) * (j7 + (1 : Int64)))), .second, .unset, .unset, .unset, .unset, .unset, .unset, .unset, .unset, .unset]) rfl ?_
  exact kt
set_option maxRecDepth 65536 in
set_option maxHeartbeats 40000000 in
theorem tn0_37_78_f_sgC {p : Program} {l : Launch} {e : Env} {R : Room} {s : State} {m : MethodId} {args : Array Value} {below : List Frame} {meth : Method} {c : Code} {T0 : State} {locs : List Loc} {cells slots : Nat} {Z : State} {a0 : Array Value} {h0 : Heap} (j0 : Int64) (j2 : Int64) (j4 : Int64) (i6 : Int32) (j7 : Int64)
    (X0 : Stand p l e R s m args below meth c T0 locs cells slots) (hx : p.tables.exec = Jvm.exec) (hZ : Z.Warmed39 s.vm) (hw : ∀ d ∈ tables_1, d.before a0 Z = true) (hby : c.code = code) (hml : c.maxLocals = 22) (hown : s.vm.findClass "com/example/bits_for_sets/bitsforsets/tool/ReplayCountsFalsePositiveRatePinLaw" = some m.cls) (e0 : T0.heap = h0) (hc41 : ¬ ((i6 &&& (1 : Int32)) = (0 : Int32))) (hnz75 : ¬ ((j7 + (1 : Int64)) = (0 : Int64))) :
    ∃ (T' : State), Stand p l e R s m args below meth c T' locs cells slots ∧ T'.heap = h0 ∧
      ∀ target, Steps p.tables e below (T'.setTop (mkF m 78 #[.val (.long j0), .second, .val (.long j2), .second, .val (.long j4), .second, .val (.int i6), .val (.long j7), .second, .val (.long (j7 / (2 : Int64))), .second, .val (.long ((j4 &&& (9223372036854775807 : Int64)) - ((j4 &&& (9223372036854775807 : Int64)) / (j7 + (1 : Int64))) * (j7 + (1 : Int64)))), .second, .unset, .unset, .unset, .unset, .unset, .unset, .unset, .unset, .unset] [])) target → Steps p.tables e below (T0.setTop (mkF m 37 #[.val (.long j0), .second, .val (.long j2), .second, .val (.long j4), .second, .val (.int i6), .val (.long j7), .second, .unset, .unset, .unset, .unset, .unset, .unset, .unset, .unset, .unset, .unset, .unset, .unset, .unset] [])) target := by
  refine ⟨T0, X0, e0, fun target kt => ?_⟩
  show Steps p.tables e below (T0.setTop (mkF m 37 #[.val (.long j0), .second, .val (.long j2), .second, .val (.long j4), .second, .val (.int i6), .val (.long j7), .second, .unset, .unset, .unset, .unset, .unset, .unset, .unset, .unset, .unset, .unset, .unset, .unset, .unset] [])) _
  refine XS.iload X0.here hx rfl (hb hby at_37) rfl ?_
  show Steps p.tables e below (T0.setTop (mkF m 39 #[.val (.long j0), .second, .val (.long j2), .second, .val (.long j4), .second, .val (.int i6), .val (.long j7), .second, .unset, .unset, .unset, .unset, .unset, .unset, .unset, .unset, .unset, .unset, .unset, .unset, .unset] [(.int i6)])) _
  refine XS.iconst X0.here hx rfl (hb hby at_39) ?_
  show Steps p.tables e below (T0.setTop (mkF m 40 #[.val (.long j0), .second, .val (.long j2), .second, .val (.long j4), .second, .val (.int i6), .val (.long j7), .second, .unset, .unset, .unset, .unset, .unset, .unset, .unset, .unset, .unset, .unset, .unset, .unset, .unset] [(.int (1 : Int32)), (.int i6)])) _
  refine XS.iand X0.here hx rfl (hb hby at_40) rfl ?_
  show Steps p.tables e below (T0.setTop (mkF m 41 #[.val (.long j0), .second, .val (.long j2), .second, .val (.long j4), .second, .val (.int i6), .val (.long j7), .second, .unset, .unset, .unset, .unset, .unset, .unset, .unset, .unset, .unset, .unset, .unset, .unset, .unset] [(.int (i6 &&& (1 : Int32)))])) _
  refine XS.ifNo X0.here hx rfl (hb hby at_41) rfl ((if0 _ _).trans (feq hc41).1) ?_
  show Steps p.tables e below (T0.setTop (mkF m 44 #[.val (.long j0), .second, .val (.long j2), .second, .val (.long j4), .second, .val (.int i6), .val (.long j7), .second, .unset, .unset, .unset, .unset, .unset, .unset, .unset, .unset, .unset, .unset, .unset, .unset, .unset] [])) _
  refine XS.lload X0.here hx rfl (hb hby at_44) rfl ?_
  show Steps p.tables e below (T0.setTop (mkF m 46 #[.val (.long j0), .second, .val (.long j2), .second, .val (.long j4), .second, .val (.int i6), .val (.long j7), .second, .unset, .unset, .unset, .unset, .unset, .unset, .unset, .unset, .unset, .unset, .unset, .unset, .unset] [(.long j7)])) _
  refine X0.ldc2Long hx hown (mvT hZ (hw _ (List.mem_of_getElem? (i := 39) rfl))) (g := (mkF m 46 #[.val (.long j0), .second, .val (.long j2), .second, .val (.long j4), .second, .val (.int i6), .val (.long j7), .second, .unset, .unset, .unset, .unset, .unset, .unset, .unset, .unset, .unset, .unset, .unset, .unset, .unset] [(.long j7)])) rfl (hb hby at_46) _ ?_
  show Steps p.tables e below (T0.setTop (mkF m 49 #[.val (.long j0), .second, .val (.long j2), .second, .val (.long j4), .second, .val (.int i6), .val (.long j7), .second, .unset, .unset, .unset, .unset, .unset, .unset, .unset, .unset, .unset, .unset, .unset, .unset, .unset] [(.long (2 : Int64)), (.long j7)])) _
  refine XS.ldiv X0.here hx rfl (hb hby at_49) rfl (by decide) ?_
  show Steps p.tables e below (T0.setTop (mkF m 50 #[.val (.long j0), .second, .val (.long j2), .second, .val (.long j4), .second, .val (.int i6), .val (.long j7), .second, .unset, .unset, .unset, .unset, .unset, .unset, .unset, .unset, .unset, .unset, .unset, .unset, .unset] [(.long (j7 / (2 : Int64)))])) _
  refine XS.goto X0.here hx rfl (pc0 := 50) (pc' := 63) rfl (hb hby at_50) (by decide) (by decide) ?_
  show Steps p.tables e below (T0.setTop (mkF m 63 #[.val (.long j0), .second, .val (.long j2), .second, .val (.long j4), .second, .val (.int i6), .val (.long j7), .second, .unset, .unset, .unset, .unset, .unset, .unset, .unset, .unset, .unset, .unset, .unset, .unset, .unset] [(.long (j7 / (2 : Int64)))])) _
  refine XS.lstore X0.here hx rfl (hb hby at_63) rfl (l' := #[.val (.long j0), .second, .val (.long j2), .second, .val (.long j4), .second, .val (.int i6), .val (.long j7), .second, .val (.long (j7 / (2 : Int64))), .second, .unset, .unset, .unset, .unset, .unset, .unset, .unset, .unset, .unset, .unset, .unset]) rfl ?_
  show Steps p.tables e below (T0.setTop (mkF m 65 #[.val (.long j0), .second, .val (.long j2), .second, .val (.long j4), .second, .val (.int i6), .val (.long j7), .second, .val (.long (j7 / (2 : Int64))), .second, .unset, .unset, .unset, .unset, .unset, .unset, .unset, .unset, .unset, .unset, .unset] [])) _
  refine XS.lload X0.here hx rfl (hb hby at_65) rfl ?_
  show Steps p.tables e below (T0.setTop (mkF m 67 #[.val (.long j0), .second, .val (.long j2), .second, .val (.long j4), .second, .val (.int i6), .val (.long j7), .second, .val (.long (j7 / (2 : Int64))), .second, .unset, .unset, .unset, .unset, .unset, .unset, .unset, .unset, .unset, .unset, .unset] [(.long j4)])) _
  refine X0.ldc2Long hx hown (mvT hZ (hw _ (List.mem_of_getElem? (i := 0) rfl))) (g := (mkF m 67 #[.val (.long j0), .second, .val (.long j2), .second, .val (.long j4), .second, .val (.int i6), .val (.long j7), .second, .val (.long (j7 / (2 : Int64))), .second, .unset, .unset, .unset, .unset, .unset, .unset, .unset, .unset, .unset, .unset, .unset] [(.long j4)])) rfl (hb hby at_67) _ ?_
  show Steps p.tables e below (T0.setTop (mkF m 70 #[.val (.long j0), .second, .val (.long j2), .second, .val (.long j4), .second, .val (.int i6), .val (.long j7), .second, .val (.long (j7 / (2 : Int64))), .second, .unset, .unset, .unset, .unset, .unset, .unset, .unset, .unset, .unset, .unset, .unset] [(.long (9223372036854775807 : Int64)), (.long j4)])) _
  refine XS.land X0.here hx rfl (hb hby at_70) rfl ?_
  show Steps p.tables e below (T0.setTop (mkF m 71 #[.val (.long j0), .second, .val (.long j2), .second, .val (.long j4), .second, .val (.int i6), .val (.long j7), .second, .val (.long (j7 / (2 : Int64))), .second, .unset, .unset, .unset, .unset, .unset, .unset, .unset, .unset, .unset, .unset, .unset] [(.long (j4 &&& (9223372036854775807 : Int64)))])) _
  refine XS.lload X0.here hx rfl (hb hby at_71) rfl ?_
  show Steps p.tables e below (T0.setTop (mkF m 73 #[.val (.long j0), .second, .val (.long j2), .second, .val (.long j4), .second, .val (.int i6), .val (.long j7), .second, .val (.long (j7 / (2 : Int64))), .second, .unset, .unset, .unset, .unset, .unset, .unset, .unset, .unset, .unset, .unset, .unset] [(.long j7), (.long (j4 &&& (9223372036854775807 : Int64)))])) _
  refine XS.lconst X0.here hx rfl (hb hby at_73) ?_
  show Steps p.tables e below (T0.setTop (mkF m 74 #[.val (.long j0), .second, .val (.long j2), .second, .val (.long j4), .second, .val (.int i6), .val (.long j7), .second, .val (.long (j7 / (2 : Int64))), .second, .unset, .unset, .unset, .unset, .unset, .unset, .unset, .unset, .unset, .unset, .unset] [(.long (1 : Int64)), (.long j7), (.long (j4 &&& (9223372036854775807 : Int64)))])) _
  refine XS.ladd X0.here hx rfl (hb hby at_74) rfl ?_
  show Steps p.tables e below (T0.setTop (mkF m 75 #[.val (.long j0), .second, .val (.long j2), .second, .val (.long j4), .second, .val (.int i6), .val (.long j7), .second, .val (.long (j7 / (2 : Int64))), .second, .unset, .unset, .unset, .unset, .unset, .unset, .unset, .unset, .unset, .unset, .unset] [(.long (j7 + (1 : Int64))), (.long (j4 &&& (9223372036854775807 : Int64)))])) _
  refine XS.lrem X0.here hx rfl (hb hby at_75) rfl hnz75 ?_
  show Steps p.tables e below (T0.setTop (mkF m 76 #[.val (.long j0), .second, .val (.long j2), .second, .val (.long j4), .second, .val (.int i6), .val (.long j7), .second, .val (.long (j7 / (2 : Int64))), .second, .unset, .unset, .unset, .unset, .unset, .unset, .unset, .unset, .unset, .unset, .unset] [(.long ((j4 &&& (9223372036854775807 : Int64)) - ((j4 &&& (9223372036854775807 : Int64)) / (j7 + (1 : Int64))) * (j7 + (1 : Int64))))])) _
  refine XS.lstore X0.here hx rfl (hb hby at_76) rfl (l' := #[.val (.long j0), .second, .val (.long j2), .second, .val (.long j4), .second, .val (.int i6), .val (.long j7), .second, .val (.long (j7 / (2 : Int64))), .second, .val (.long ((j4 &&& (9223372036854775807 : Int64)) - ((j4 &&& (9223372036854775807 : Int64)) / (j7 + (1 : Int64))) * (j7 + (1 : Int64)))), .second, .unset, .unset, .unset, .unset, .unset, .unset, .unset, .unset, .unset]) rfl ?_
  exact kt
def own_sgC_9 (j2 : Int64) (i6 : Int32) (j7 : Int64) : Int64 := (if (i6 &&& (1 : Int32)) = (0 : Int32) then ((j2 &&& (9223372036854775807 : Int64)) - ((j2 &&& (9223372036854775807 : Int64)) / (j7 + (1 : Int64))) * (j7 + (1 : Int64))) else (j7 / (2 : Int64)))
set_option maxRecDepth 65536 in
set_option maxHeartbeats 40000000 in
theorem sgC {p : Program} {l : Launch} {e : Env} {R : Room} {s : State} {m : MethodId} {args : Array Value} {below : List Frame} {meth : Method} {c : Code} {T0 : State} {locs : List Loc} {cells slots : Nat} {Z : State} {a0 : Array Value} {h0 : Heap} (j0 : Int64) (j2 : Int64) (j4 : Int64) (i6 : Int32) (j7 : Int64)
    (X0 : Stand p l e R s m args below meth c T0 locs cells slots) (hx : p.tables.exec = Jvm.exec) (hZ : Z.Warmed39 s.vm) (hw : ∀ d ∈ tables_1, d.before a0 Z = true) (hby : c.code = code) (hml : c.maxLocals = 22) (hown : s.vm.findClass "com/example/bits_for_sets/bitsforsets/tool/ReplayCountsFalsePositiveRatePinLaw" = some m.cls) (e0 : T0.heap = h0) (hnz62 : ¬ ((j7 + (1 : Int64)) = (0 : Int64))) (hnz75 : ¬ ((j7 + (1 : Int64)) = (0 : Int64))) :
    ∃ (T' : State), Stand p l e R s m args below meth c T' locs cells slots ∧ T'.heap = h0 ∧
      ∀ target, Steps p.tables e below (T'.setTop (mkF m 78 #[.val (.long j0), .second, .val (.long j2), .second, .val (.long j4), .second, .val (.int i6), .val (.long j7), .second, .val (.long (own_sgC_9 j2 i6 j7)), .second, .val (.long ((j4 &&& (9223372036854775807 : Int64)) - ((j4 &&& (9223372036854775807 : Int64)) / (j7 + (1 : Int64))) * (j7 + (1 : Int64)))), .second, .unset, .unset, .unset, .unset, .unset, .unset, .unset, .unset, .unset] [])) target → Steps p.tables e below (T0.setTop (mkF m 37 #[.val (.long j0), .second, .val (.long j2), .second, .val (.long j4), .second, .val (.int i6), .val (.long j7), .second, .unset, .unset, .unset, .unset, .unset, .unset, .unset, .unset, .unset, .unset, .unset, .unset, .unset] [])) target := by
  unfold own_sgC_9
  by_cases hc41 : (i6 &&& (1 : Int32)) = (0 : Int32)
  · simp only [if_pos hc41]
    exact tn0_37_78_t_sgC j0 j2 j4 i6 j7 X0 hx hZ hw hby hml hown e0 hc41 hnz62 hnz75
  · simp only [if_neg hc41]
    exact tn0_37_78_f_sgC j0 j2 j4 i6 j7 X0 hx hZ hw hby hml hown e0 hc41 hnz75
set_option maxRecDepth 65536 in
set_option maxHeartbeats 40000000 in
theorem tn0_132_167_ffff_sgE {p : Program} {l : Launch} {e : Env} {R : Room} {s : State} {m : MethodId} {args : Array Value} {below : List Frame} {meth : Method} {c : Code} {T0 : State} {locs : List Loc} {cells slots : Nat} {Z : State} {a0 : Array Value} {h0 : Heap} (j0 : Int64) (j2 : Int64) (j4 : Int64) (i6 : Int32) (j7 : Int64) (j9 : Int64) (j11 : Int64) (o13 : Addr) (o14 : Addr) (d15 : UInt64) (d17 : UInt64)
    (X0 : Stand p l e R s m args below meth c T0 locs cells slots) (hx : p.tables.exec = Jvm.exec) (hZ : Z.Warmed39 s.vm) (hw : ∀ d ∈ tables_1, d.before a0 Z = true) (hby : c.code = code) (hml : c.maxLocals = 22) (hown : s.vm.findClass "com/example/bits_for_sets/bitsforsets/tool/ReplayCountsFalsePositiveRatePinLaw" = some m.cls) (e0 : T0.heap = h0) (hc136 : ¬ ((0 : Int32) < (cmpValue (FP.dcmp FP.dconst0 d15) .g))) (hc143 : ¬ ((0 : Int32) < (cmpValue (FP.dcmp d15 FP.dconst1) .g))) (hc150 : ¬ ((0 : Int32) < (cmpValue (FP.dcmp FP.dconst0 d17) .g))) (hc157 : ¬ ((0 : Int32) < (cmpValue (FP.dcmp d17 FP.dconst1) .g))) :
    ∃ (T' : State), Stand p l e R s m args below meth c T' locs cells slots ∧ T'.heap = h0 ∧
      ∀ target, Steps p.tables e below (T'.setTop (mkF m 167 #[.val (.long j0), .second, .val (.long j2), .second, .val (.long j4), .second, .val (.int i6), .val (.long j7), .second, .val (.long j9), .second, .val (.long j11), .second, .val (.ref o13), .val (.ref o14), .val (.double d15), .second, .val (.double d17), .second, .val (.int (1 : Int32)), .unset, .unset] [])) target → Steps p.tables e below (T0.setTop (mkF m 132 #[.val (.long j0), .second, .val (.long j2), .second, .val (.long j4), .second, .val (.int i6), .val (.long j7), .second, .val (.long j9), .second, .val (.long j11), .second, .val (.ref o13), .val (.ref o14), .val (.double d15), .second, .val (.double d17), .second, .unset, .unset, .unset] [])) target := by
  refine ⟨T0, X0, e0, fun target kt => ?_⟩
  show Steps p.tables e below (T0.setTop (mkF m 132 #[.val (.long j0), .second, .val (.long j2), .second, .val (.long j4), .second, .val (.int i6), .val (.long j7), .second, .val (.long j9), .second, .val (.long j11), .second, .val (.ref o13), .val (.ref o14), .val (.double d15), .second, .val (.double d17), .second, .unset, .unset, .unset] [])) _
  refine XS.dconst0 X0.here hx rfl (hb hby at_132) rfl ?_
  show Steps p.tables e below (T0.setTop (mkF m 133 #[.val (.long j0), .second, .val (.long j2), .second, .val (.long j4), .second, .val (.int i6), .val (.long j7), .second, .val (.long j9), .second, .val (.long j11), .second, .val (.ref o13), .val (.ref o14), .val (.double d15), .second, .val (.double d17), .second, .unset, .unset, .unset] [(.double FP.dconst0)])) _
  refine XS.dload X0.here hx rfl (hb hby at_133) rfl ?_
  show Steps p.tables e below (T0.setTop (mkF m 135 #[.val (.long j0), .second, .val (.long j2), .second, .val (.long j4), .second, .val (.int i6), .val (.long j7), .second, .val (.long j9), .second, .val (.long j11), .second, .val (.ref o13), .val (.ref o14), .val (.double d15), .second, .val (.double d17), .second, .unset, .unset, .unset] [(.double d15), (.double FP.dconst0)])) _
  refine XS.dcmpS X0.here hx rfl (hb hby at_135) rfl rfl ?_
  show Steps p.tables e below (T0.setTop (mkF m 136 #[.val (.long j0), .second, .val (.long j2), .second, .val (.long j4), .second, .val (.int i6), .val (.long j7), .second, .val (.long j9), .second, .val (.long j11), .second, .val (.ref o13), .val (.ref o14), .val (.double d15), .second, .val (.double d17), .second, .unset, .unset, .unset] [(.int (cmpValue (FP.dcmp FP.dconst0 d15) .g))])) _
  refine XS.ifNo X0.here hx rfl (hb hby at_136) rfl ((if0 _ _).trans (flt hc136).2.2.1) ?_
  show Steps p.tables e below (T0.setTop (mkF m 139 #[.val (.long j0), .second, .val (.long j2), .second, .val (.long j4), .second, .val (.int i6), .val (.long j7), .second, .val (.long j9), .second, .val (.long j11), .second, .val (.ref o13), .val (.ref o14), .val (.double d15), .second, .val (.double d17), .second, .unset, .unset, .unset] [])) _
  refine XS.dload X0.here hx rfl (hb hby at_139) rfl ?_
  show Steps p.tables e below (T0.setTop (mkF m 141 #[.val (.long j0), .second, .val (.long j2), .second, .val (.long j4), .second, .val (.int i6), .val (.long j7), .second, .val (.long j9), .second, .val (.long j11), .second, .val (.ref o13), .val (.ref o14), .val (.double d15), .second, .val (.double d17), .second, .unset, .unset, .unset] [(.double d15)])) _
  refine XS.dconst1 X0.here hx rfl (hb hby at_141) rfl ?_
  show Steps p.tables e below (T0.setTop (mkF m 142 #[.val (.long j0), .second, .val (.long j2), .second, .val (.long j4), .second, .val (.int i6), .val (.long j7), .second, .val (.long j9), .second, .val (.long j11), .second, .val (.ref o13), .val (.ref o14), .val (.double d15), .second, .val (.double d17), .second, .unset, .unset, .unset] [(.double FP.dconst1), (.double d15)])) _
  refine XS.dcmpS X0.here hx rfl (hb hby at_142) rfl rfl ?_
  show Steps p.tables e below (T0.setTop (mkF m 143 #[.val (.long j0), .second, .val (.long j2), .second, .val (.long j4), .second, .val (.int i6), .val (.long j7), .second, .val (.long j9), .second, .val (.long j11), .second, .val (.ref o13), .val (.ref o14), .val (.double d15), .second, .val (.double d17), .second, .unset, .unset, .unset] [(.int (cmpValue (FP.dcmp d15 FP.dconst1) .g))])) _
  refine XS.ifNo X0.here hx rfl (hb hby at_143) rfl ((if0 _ _).trans (flt hc143).2.2.1) ?_
  show Steps p.tables e below (T0.setTop (mkF m 146 #[.val (.long j0), .second, .val (.long j2), .second, .val (.long j4), .second, .val (.int i6), .val (.long j7), .second, .val (.long j9), .second, .val (.long j11), .second, .val (.ref o13), .val (.ref o14), .val (.double d15), .second, .val (.double d17), .second, .unset, .unset, .unset] [])) _
  refine XS.dconst0 X0.here hx rfl (hb hby at_146) rfl ?_
  show Steps p.tables e below (T0.setTop (mkF m 147 #[.val (.long j0), .second, .val (.long j2), .second, .val (.long j4), .second, .val (.int i6), .val (.long j7), .second, .val (.long j9), .second, .val (.long j11), .second, .val (.ref o13), .val (.ref o14), .val (.double d15), .second, .val (.double d17), .second, .unset, .unset, .unset] [(.double FP.dconst0)])) _
  refine XS.dload X0.here hx rfl (hb hby at_147) rfl ?_
  show Steps p.tables e below (T0.setTop (mkF m 149 #[.val (.long j0), .second, .val (.long j2), .second, .val (.long j4), .second, .val (.int i6), .val (.long j7), .second, .val (.long j9), .second, .val (.long j11), .second, .val (.ref o13), .val (.ref o14), .val (.double d15), .second, .val (.double d17), .second, .unset, .unset, .unset] [(.double d17), (.double FP.dconst0)])) _
  refine XS.dcmpS X0.here hx rfl (hb hby at_149) rfl rfl ?_
  show Steps p.tables e below (T0.setTop (mkF m 150 #[.val (.long j0), .second, .val (.long j2), .second, .val (.long j4), .second, .val (.int i6), .val (.long j7), .second, .val (.long j9), .second, .val (.long j11), .second, .val (.ref o13), .val (.ref o14), .val (.double d15), .second, .val (.double d17), .second, .unset, .unset, .unset] [(.int (cmpValue (FP.dcmp FP.dconst0 d17) .g))])) _
  refine XS.ifNo X0.here hx rfl (hb hby at_150) rfl ((if0 _ _).trans (flt hc150).2.2.1) ?_
  show Steps p.tables e below (T0.setTop (mkF m 153 #[.val (.long j0), .second, .val (.long j2), .second, .val (.long j4), .second, .val (.int i6), .val (.long j7), .second, .val (.long j9), .second, .val (.long j11), .second, .val (.ref o13), .val (.ref o14), .val (.double d15), .second, .val (.double d17), .second, .unset, .unset, .unset] [])) _
  refine XS.dload X0.here hx rfl (hb hby at_153) rfl ?_
  show Steps p.tables e below (T0.setTop (mkF m 155 #[.val (.long j0), .second, .val (.long j2), .second, .val (.long j4), .second, .val (.int i6), .val (.long j7), .second, .val (.long j9), .second, .val (.long j11), .second, .val (.ref o13), .val (.ref o14), .val (.double d15), .second, .val (.double d17), .second, .unset, .unset, .unset] [(.double d17)])) _
  refine XS.dconst1 X0.here hx rfl (hb hby at_155) rfl ?_
  show Steps p.tables e below (T0.setTop (mkF m 156 #[.val (.long j0), .second, .val (.long j2), .second, .val (.long j4), .second, .val (.int i6), .val (.long j7), .second, .val (.long j9), .second, .val (.long j11), .second, .val (.ref o13), .val (.ref o14), .val (.double d15), .second, .val (.double d17), .second, .unset, .unset, .unset] [(.double FP.dconst1), (.double d17)])) _
  refine XS.dcmpS X0.here hx rfl (hb hby at_156) rfl rfl ?_
  show Steps p.tables e below (T0.setTop (mkF m 157 #[.val (.long j0), .second, .val (.long j2), .second, .val (.long j4), .second, .val (.int i6), .val (.long j7), .second, .val (.long j9), .second, .val (.long j11), .second, .val (.ref o13), .val (.ref o14), .val (.double d15), .second, .val (.double d17), .second, .unset, .unset, .unset] [(.int (cmpValue (FP.dcmp d17 FP.dconst1) .g))])) _
  refine XS.ifNo X0.here hx rfl (hb hby at_157) rfl ((if0 _ _).trans (flt hc157).2.2.1) ?_
  show Steps p.tables e below (T0.setTop (mkF m 160 #[.val (.long j0), .second, .val (.long j2), .second, .val (.long j4), .second, .val (.int i6), .val (.long j7), .second, .val (.long j9), .second, .val (.long j11), .second, .val (.ref o13), .val (.ref o14), .val (.double d15), .second, .val (.double d17), .second, .unset, .unset, .unset] [])) _
  refine XS.iconst X0.here hx rfl (hb hby at_160) ?_
  show Steps p.tables e below (T0.setTop (mkF m 161 #[.val (.long j0), .second, .val (.long j2), .second, .val (.long j4), .second, .val (.int i6), .val (.long j7), .second, .val (.long j9), .second, .val (.long j11), .second, .val (.ref o13), .val (.ref o14), .val (.double d15), .second, .val (.double d17), .second, .unset, .unset, .unset] [(.int (1 : Int32))])) _
  refine XS.goto X0.here hx rfl (pc0 := 161) (pc' := 165) rfl (hb hby at_161) (by decide) (by decide) ?_
  show Steps p.tables e below (T0.setTop (mkF m 165 #[.val (.long j0), .second, .val (.long j2), .second, .val (.long j4), .second, .val (.int i6), .val (.long j7), .second, .val (.long j9), .second, .val (.long j11), .second, .val (.ref o13), .val (.ref o14), .val (.double d15), .second, .val (.double d17), .second, .unset, .unset, .unset] [(.int (1 : Int32))])) _
  refine XS.istore X0.here hx rfl (hb hby at_165) rfl (l' := #[.val (.long j0), .second, .val (.long j2), .second, .val (.long j4), .second, .val (.int i6), .val (.long j7), .second, .val (.long j9), .second, .val (.long j11), .second, .val (.ref o13), .val (.ref o14), .val (.double d15), .second, .val (.double d17), .second, .val (.int (1 : Int32)), .unset, .unset]) rfl ?_
  exact kt
set_option maxRecDepth 65536 in
set_option maxHeartbeats 40000000 in
theorem sgE {p : Program} {l : Launch} {e : Env} {R : Room} {s : State} {m : MethodId} {args : Array Value} {below : List Frame} {meth : Method} {c : Code} {T0 : State} {locs : List Loc} {cells slots : Nat} {Z : State} {a0 : Array Value} {h0 : Heap} (j0 : Int64) (j2 : Int64) (j4 : Int64) (i6 : Int32) (j7 : Int64) (j9 : Int64) (j11 : Int64) (o13 : Addr) (o14 : Addr) (d15 : UInt64) (d17 : UInt64)
    (X0 : Stand p l e R s m args below meth c T0 locs cells slots) (hx : p.tables.exec = Jvm.exec) (hZ : Z.Warmed39 s.vm) (hw : ∀ d ∈ tables_1, d.before a0 Z = true) (hby : c.code = code) (hml : c.maxLocals = 22) (hown : s.vm.findClass "com/example/bits_for_sets/bitsforsets/tool/ReplayCountsFalsePositiveRatePinLaw" = some m.cls) (e0 : T0.heap = h0) (H : ((¬ ((0 : Int32) < (cmpValue (FP.dcmp FP.dconst0 d15) .g))) ∧ (¬ ((0 : Int32) < (cmpValue (FP.dcmp d15 FP.dconst1) .g))) ∧ (¬ ((0 : Int32) < (cmpValue (FP.dcmp FP.dconst0 d17) .g))) ∧ (¬ ((0 : Int32) < (cmpValue (FP.dcmp d17 FP.dconst1) .g))))) :
    ∃ (T' : State), Stand p l e R s m args below meth c T' locs cells slots ∧ T'.heap = h0 ∧
      ∀ target, Steps p.tables e below (T'.setTop (mkF m 167 #[.val (.long j0), .second, .val (.long j2), .second, .val (.long j4), .second, .val (.int i6), .val (.long j7), .second, .val (.long j9), .second, .val (.long j11), .second, .val (.ref o13), .val (.ref o14), .val (.double d15), .second, .val (.double d17), .second, .val (.int (1 : Int32)), .unset, .unset] [])) target → Steps p.tables e below (T0.setTop (mkF m 132 #[.val (.long j0), .second, .val (.long j2), .second, .val (.long j4), .second, .val (.int i6), .val (.long j7), .second, .val (.long j9), .second, .val (.long j11), .second, .val (.ref o13), .val (.ref o14), .val (.double d15), .second, .val (.double d17), .second, .unset, .unset, .unset] [])) target := by
  obtain ⟨hc136, hc143, hc150, hc157⟩ := H
  · exact tn0_132_167_ffff_sgE j0 j2 j4 i6 j7 j9 j11 o13 o14 d15 d17 X0 hx hZ hw hby hml hown e0 hc136 hc143 hc150 hc157
set_option maxRecDepth 65536 in
set_option maxHeartbeats 40000000 in
theorem tn0_167_213_fftf_sgF {p : Program} {l : Launch} {e : Env} {R : Room} {s : State} {m : MethodId} {args : Array Value} {below : List Frame} {meth : Method} {c : Code} {T0 : State} {locs : List Loc} {cells slots : Nat} {Z : State} {a0 : Array Value} {h0 : Heap} (j0 : Int64) (j2 : Int64) (j4 : Int64) (i6 : Int32) (j7 : Int64) (j9 : Int64) (j11 : Int64) (o13 : Addr) (o14 : Addr) (d15 : UInt64) (d17 : UInt64)
    (X0 : Stand p l e R s m args below meth c T0 locs cells slots) (hx : p.tables.exec = Jvm.exec) (hZ : Z.Warmed39 s.vm) (hw : ∀ d ∈ tables_1, d.before a0 Z = true) (hby : c.code = code) (hml : c.maxLocals = 22) (hown : s.vm.findClass "com/example/bits_for_sets/bitsforsets/tool/ReplayCountsFalsePositiveRatePinLaw" = some m.cls) (e0 : T0.heap = h0) (hc169 : ¬ ((1 : Int32) = (0 : Int32))) (hc176 : (cmpValue (FP.dcmp d15 FP.dconst0) .l) = (0 : Int32)) (hc188 : (lcmpW j9 (0 : Int64)) = (0 : Int32)) :
    ∃ (T' : State), Stand p l e R s m args below meth c T' locs cells slots ∧ T'.heap = h0 ∧
      ∀ target, Steps p.tables e below (T'.setTop (mkF m 213 #[.val (.long j0), .second, .val (.long j2), .second, .val (.long j4), .second, .val (.int i6), .val (.long j7), .second, .val (.long j9), .second, .val (.long j11), .second, .val (.ref o13), .val (.ref o14), .val (.double d15), .second, .val (.double d17), .second, .val (.int (1 : Int32)), .unset, .unset] [])) target → Steps p.tables e below (T0.setTop (mkF m 167 #[.val (.long j0), .second, .val (.long j2), .second, .val (.long j4), .second, .val (.int i6), .val (.long j7), .second, .val (.long j9), .second, .val (.long j11), .second, .val (.ref o13), .val (.ref o14), .val (.double d15), .second, .val (.double d17), .second, .val (.int (1 : Int32)), .unset, .unset] [])) target := by
  refine ⟨T0, X0, e0, fun target kt => ?_⟩
  show Steps p.tables e below (T0.setTop (mkF m 167 #[.val (.long j0), .second, .val (.long j2), .second, .val (.long j4), .second, .val (.int i6), .val (.long j7), .second, .val (.long j9), .second, .val (.long j11), .second, .val (.ref o13), .val (.ref o14), .val (.double d15), .second, .val (.double d17), .second, .val (.int (1 : Int32)), .unset, .unset] [])) _
  refine XS.iload X0.here hx rfl (hb hby at_167) rfl ?_
  show Steps p.tables e below (T0.setTop (mkF m 169 #[.val (.long j0), .second, .val (.long j2), .second, .val (.long j4), .second, .val (.int i6), .val (.long j7), .second, .val (.long j9), .second, .val (.long j11), .second, .val (.ref o13), .val (.ref o14), .val (.double d15), .second, .val (.double d17), .second, .val (.int (1 : Int32)), .unset, .unset] [(.int (1 : Int32))])) _
  refine XS.ifNo X0.here hx rfl (hb hby at_169) rfl ((if0 _ _).trans (feq hc169).1) ?_
  show Steps p.tables e below (T0.setTop (mkF m 172 #[.val (.long j0), .second, .val (.long j2), .second, .val (.long j4), .second, .val (.int i6), .val (.long j7), .second, .val (.long j9), .second, .val (.long j11), .second, .val (.ref o13), .val (.ref o14), .val (.double d15), .second, .val (.double d17), .second, .val (.int (1 : Int32)), .unset, .unset] [])) _
  refine XS.dload X0.here hx rfl (hb hby at_172) rfl ?_
  show Steps p.tables e below (T0.setTop (mkF m 174 #[.val (.long j0), .second, .val (.long j2), .second, .val (.long j4), .second, .val (.int i6), .val (.long j7), .second, .val (.long j9), .second, .val (.long j11), .second, .val (.ref o13), .val (.ref o14), .val (.double d15), .second, .val (.double d17), .second, .val (.int (1 : Int32)), .unset, .unset] [(.double d15)])) _
  refine XS.dconst0 X0.here hx rfl (hb hby at_174) rfl ?_
  show Steps p.tables e below (T0.setTop (mkF m 175 #[.val (.long j0), .second, .val (.long j2), .second, .val (.long j4), .second, .val (.int i6), .val (.long j7), .second, .val (.long j9), .second, .val (.long j11), .second, .val (.ref o13), .val (.ref o14), .val (.double d15), .second, .val (.double d17), .second, .val (.int (1 : Int32)), .unset, .unset] [(.double FP.dconst0), (.double d15)])) _
  refine XS.dcmpS X0.here hx rfl (hb hby at_175) rfl rfl ?_
  show Steps p.tables e below (T0.setTop (mkF m 176 #[.val (.long j0), .second, .val (.long j2), .second, .val (.long j4), .second, .val (.int i6), .val (.long j7), .second, .val (.long j9), .second, .val (.long j11), .second, .val (.ref o13), .val (.ref o14), .val (.double d15), .second, .val (.double d17), .second, .val (.int (1 : Int32)), .unset, .unset] [(.int (cmpValue (FP.dcmp d15 FP.dconst0) .l))])) _
  refine XS.ifNo X0.here hx rfl (hb hby at_176) rfl ((if0 _ _).trans (teq hc176).2) ?_
  show Steps p.tables e below (T0.setTop (mkF m 179 #[.val (.long j0), .second, .val (.long j2), .second, .val (.long j4), .second, .val (.int i6), .val (.long j7), .second, .val (.long j9), .second, .val (.long j11), .second, .val (.ref o13), .val (.ref o14), .val (.double d15), .second, .val (.double d17), .second, .val (.int (1 : Int32)), .unset, .unset] [])) _
  refine XS.iconst X0.here hx rfl (hb hby at_179) ?_
  show Steps p.tables e below (T0.setTop (mkF m 180 #[.val (.long j0), .second, .val (.long j2), .second, .val (.long j4), .second, .val (.int i6), .val (.long j7), .second, .val (.long j9), .second, .val (.long j11), .second, .val (.ref o13), .val (.ref o14), .val (.double d15), .second, .val (.double d17), .second, .val (.int (1 : Int32)), .unset, .unset] [(.int (1 : Int32))])) _
  refine XS.goto X0.here hx rfl (pc0 := 180) (pc' := 184) rfl (hb hby at_180) (by decide) (by decide) ?_
  show Steps p.tables e below (T0.setTop (mkF m 184 #[.val (.long j0), .second, .val (.long j2), .second, .val (.long j4), .second, .val (.int i6), .val (.long j7), .second, .val (.long j9), .second, .val (.long j11), .second, .val (.ref o13), .val (.ref o14), .val (.double d15), .second, .val (.double d17), .second, .val (.int (1 : Int32)), .unset, .unset] [(.int (1 : Int32))])) _
  refine XS.lload X0.here hx rfl (hb hby at_184) rfl ?_
  show Steps p.tables e below (T0.setTop (mkF m 186 #[.val (.long j0), .second, .val (.long j2), .second, .val (.long j4), .second, .val (.int i6), .val (.long j7), .second, .val (.long j9), .second, .val (.long j11), .second, .val (.ref o13), .val (.ref o14), .val (.double d15), .second, .val (.double d17), .second, .val (.int (1 : Int32)), .unset, .unset] [(.long j9), (.int (1 : Int32))])) _
  refine XS.lconst X0.here hx rfl (hb hby at_186) ?_
  show Steps p.tables e below (T0.setTop (mkF m 187 #[.val (.long j0), .second, .val (.long j2), .second, .val (.long j4), .second, .val (.int i6), .val (.long j7), .second, .val (.long j9), .second, .val (.long j11), .second, .val (.ref o13), .val (.ref o14), .val (.double d15), .second, .val (.double d17), .second, .val (.int (1 : Int32)), .unset, .unset] [(.long (0 : Int64)), (.long j9), (.int (1 : Int32))])) _
  refine XS.lcmp X0.here hx rfl (hb hby at_187) rfl ?_
  show Steps p.tables e below (T0.setTop (mkF m 188 #[.val (.long j0), .second, .val (.long j2), .second, .val (.long j4), .second, .val (.int i6), .val (.long j7), .second, .val (.long j9), .second, .val (.long j11), .second, .val (.ref o13), .val (.ref o14), .val (.double d15), .second, .val (.double d17), .second, .val (.int (1 : Int32)), .unset, .unset] [(.int (lcmpW j9 (0 : Int64))), (.int (1 : Int32))])) _
  refine XS.ifYes X0.here hx rfl (pc0 := 188) (pc' := 198) rfl (hb hby at_188) rfl ((if0 _ _).trans (teq hc188).1) (by decide) (by decide) ?_
  show Steps p.tables e below (T0.setTop (mkF m 198 #[.val (.long j0), .second, .val (.long j2), .second, .val (.long j4), .second, .val (.int i6), .val (.long j7), .second, .val (.long j9), .second, .val (.long j11), .second, .val (.ref o13), .val (.ref o14), .val (.double d15), .second, .val (.double d17), .second, .val (.int (1 : Int32)), .unset, .unset] [(.int (1 : Int32))])) _
  refine XS.iconst X0.here hx rfl (hb hby at_198) ?_
  show Steps p.tables e below (T0.setTop (mkF m 199 #[.val (.long j0), .second, .val (.long j2), .second, .val (.long j4), .second, .val (.int i6), .val (.long j7), .second, .val (.long j9), .second, .val (.long j11), .second, .val (.ref o13), .val (.ref o14), .val (.double d15), .second, .val (.double d17), .second, .val (.int (1 : Int32)), .unset, .unset] [(.int (1 : Int32)), (.int (1 : Int32))])) _
  refine XS.goto X0.here hx rfl (pc0 := 199) (pc' := 203) rfl (hb hby at_199) (by decide) (by decide) ?_
  show Steps p.tables e below (T0.setTop (mkF m 203 #[.val (.long j0), .second, .val (.long j2), .second, .val (.long j4), .second, .val (.int i6), .val (.long j7), .second, .val (.long j9), .second, .val (.long j11), .second, .val (.ref o13), .val (.ref o14), .val (.double d15), .second, .val (.double d17), .second, .val (.int (1 : Int32)), .unset, .unset] [(.int (1 : Int32)), (.int (1 : Int32))])) _
  refine XS.icmpNo X0.here hx rfl (hb hby at_203) rfl (teq (rfl : (1 : Int32) = (1 : Int32))).2 ?_
  show Steps p.tables e below (T0.setTop (mkF m 206 #[.val (.long j0), .second, .val (.long j2), .second, .val (.long j4), .second, .val (.int i6), .val (.long j7), .second, .val (.long j9), .second, .val (.long j11), .second, .val (.ref o13), .val (.ref o14), .val (.double d15), .second, .val (.double d17), .second, .val (.int (1 : Int32)), .unset, .unset] [])) _
  refine XS.iconst X0.here hx rfl (hb hby at_206) ?_
  show Steps p.tables e below (T0.setTop (mkF m 207 #[.val (.long j0), .second, .val (.long j2), .second, .val (.long j4), .second, .val (.int i6), .val (.long j7), .second, .val (.long j9), .second, .val (.long j11), .second, .val (.ref o13), .val (.ref o14), .val (.double d15), .second, .val (.double d17), .second, .val (.int (1 : Int32)), .unset, .unset] [(.int (1 : Int32))])) _
  refine XS.goto X0.here hx rfl (pc0 := 207) (pc' := 211) rfl (hb hby at_207) (by decide) (by decide) ?_
  show Steps p.tables e below (T0.setTop (mkF m 211 #[.val (.long j0), .second, .val (.long j2), .second, .val (.long j4), .second, .val (.int i6), .val (.long j7), .second, .val (.long j9), .second, .val (.long j11), .second, .val (.ref o13), .val (.ref o14), .val (.double d15), .second, .val (.double d17), .second, .val (.int (1 : Int32)), .unset, .unset] [(.int (1 : Int32))])) _
  refine XS.istore X0.here hx rfl (hb hby at_211) rfl (l' := #[.val (.long j0), .second, .val (.long j2), .second, .val (.long j4), .second, .val (.int i6), .val (.long j7), .second, .val (.long j9), .second, .val (.long j11), .second, .val (.ref o13), .val (.ref o14), .val (.double d15), .second, .val (.double d17), .second, .val (.int (1 : Int32)), .unset, .unset]) rfl ?_
  exact kt
set_option maxRecDepth 65536 in
set_option maxHeartbeats 40000000 in
theorem tn0_167_213_ftftf_sgF {p : Program} {l : Launch} {e : Env} {R : Room} {s : State} {m : MethodId} {args : Array Value} {below : List Frame} {meth : Method} {c : Code} {T0 : State} {locs : List Loc} {cells slots : Nat} {Z : State} {a0 : Array Value} {h0 : Heap} (j0 : Int64) (j2 : Int64) (j4 : Int64) (i6 : Int32) (j7 : Int64) (j9 : Int64) (j11 : Int64) (o13 : Addr) (o14 : Addr) (d15 : UInt64) (d17 : UInt64)
    (X0 : Stand p l e R s m args below meth c T0 locs cells slots) (hx : p.tables.exec = Jvm.exec) (hZ : Z.Warmed39 s.vm) (hw : ∀ d ∈ tables_1, d.before a0 Z = true) (hby : c.code = code) (hml : c.maxLocals = 22) (hown : s.vm.findClass "com/example/bits_for_sets/bitsforsets/tool/ReplayCountsFalsePositiveRatePinLaw" = some m.cls) (e0 : T0.heap = h0) (hc169 : ¬ ((1 : Int32) = (0 : Int32))) (hc176 : ¬ ((cmpValue (FP.dcmp d15 FP.dconst0) .l) = (0 : Int32))) (hc188 : ¬ ((lcmpW j9 (0 : Int64)) = (0 : Int32))) (hc195 : ¬ ((lcmpW j7 (0 : Int64)) = (0 : Int32))) :
    ∃ (T' : State), Stand p l e R s m args below meth c T' locs cells slots ∧ T'.heap = h0 ∧
      ∀ target, Steps p.tables e below (T'.setTop (mkF m 213 #[.val (.long j0), .second, .val (.long j2), .second, .val (.long j4), .second, .val (.int i6), .val (.long j7), .second, .val (.long j9), .second, .val (.long j11), .second, .val (.ref o13), .val (.ref o14), .val (.double d15), .second, .val (.double d17), .second, .val (.int (1 : Int32)), .unset, .unset] [])) target → Steps p.tables e below (T0.setTop (mkF m 167 #[.val (.long j0), .second, .val (.long j2), .second, .val (.long j4), .second, .val (.int i6), .val (.long j7), .second, .val (.long j9), .second, .val (.long j11), .second, .val (.ref o13), .val (.ref o14), .val (.double d15), .second, .val (.double d17), .second, .val (.int (1 : Int32)), .unset, .unset] [])) target := by
  refine ⟨T0, X0, e0, fun target kt => ?_⟩
  show Steps p.tables e below (T0.setTop (mkF m 167 #[.val (.long j0), .second, .val (.long j2), .second, .val (.long j4), .second, .val (.int i6), .val (.long j7), .second, .val (.long j9), .second, .val (.long j11), .second, .val (.ref o13), .val (.ref o14), .val (.double d15), .second, .val (.double d17), .second, .val (.int (1 : Int32)), .unset, .unset] [])) _
  refine XS.iload X0.here hx rfl (hb hby at_167) rfl ?_
  show Steps p.tables e below (T0.setTop (mkF m 169 #[.val (.long j0), .second, .val (.long j2), .second, .val (.long j4), .second, .val (.int i6), .val (.long j7), .second, .val (.long j9), .second, .val (.long j11), .second, .val (.ref o13), .val (.ref o14), .val (.double d15), .second, .val (.double d17), .second, .val (.int (1 : Int32)), .unset, .unset] [(.int (1 : Int32))])) _
  refine XS.ifNo X0.here hx rfl (hb hby at_169) rfl ((if0 _ _).trans (feq hc169).1) ?_
  show Steps p.tables e below (T0.setTop (mkF m 172 #[.val (.long j0), .second, .val (.long j2), .second, .val (.long j4), .second, .val (.int i6), .val (.long j7), .second, .val (.long j9), .second, .val (.long j11), .second, .val (.ref o13), .val (.ref o14), .val (.double d15), .second, .val (.double d17), .second, .val (.int (1 : Int32)), .unset, .unset] [])) _
  refine XS.dload X0.here hx rfl (hb hby at_172) rfl ?_
  show Steps p.tables e below (T0.setTop (mkF m 174 #[.val (.long j0), .second, .val (.long j2), .second, .val (.long j4), .second, .val (.int i6), .val (.long j7), .second, .val (.long j9), .second, .val (.long j11), .second, .val (.ref o13), .val (.ref o14), .val (.double d15), .second, .val (.double d17), .second, .val (.int (1 : Int32)), .unset, .unset] [(.double d15)])) _
  refine XS.dconst0 X0.here hx rfl (hb hby at_174) rfl ?_
  show Steps p.tables e below (T0.setTop (mkF m 175 #[.val (.long j0), .second, .val (.long j2), .second, .val (.long j4), .second, .val (.int i6), .val (.long j7), .second, .val (.long j9), .second, .val (.long j11), .second, .val (.ref o13), .val (.ref o14), .val (.double d15), .second, .val (.double d17), .second, .val (.int (1 : Int32)), .unset, .unset] [(.double FP.dconst0), (.double d15)])) _
  refine XS.dcmpS X0.here hx rfl (hb hby at_175) rfl rfl ?_
  show Steps p.tables e below (T0.setTop (mkF m 176 #[.val (.long j0), .second, .val (.long j2), .second, .val (.long j4), .second, .val (.int i6), .val (.long j7), .second, .val (.long j9), .second, .val (.long j11), .second, .val (.ref o13), .val (.ref o14), .val (.double d15), .second, .val (.double d17), .second, .val (.int (1 : Int32)), .unset, .unset] [(.int (cmpValue (FP.dcmp d15 FP.dconst0) .l))])) _
  refine XS.ifYes X0.here hx rfl (pc0 := 176) (pc' := 183) rfl (hb hby at_176) rfl ((if0 _ _).trans (feq hc176).2) (by decide) (by decide) ?_
  show Steps p.tables e below (T0.setTop (mkF m 183 #[.val (.long j0), .second, .val (.long j2), .second, .val (.long j4), .second, .val (.int i6), .val (.long j7), .second, .val (.long j9), .second, .val (.long j11), .second, .val (.ref o13), .val (.ref o14), .val (.double d15), .second, .val (.double d17), .second, .val (.int (1 : Int32)), .unset, .unset] [])) _
  refine XS.iconst X0.here hx rfl (hb hby at_183) ?_
  show Steps p.tables e below (T0.setTop (mkF m 184 #[.val (.long j0), .second, .val (.long j2), .second, .val (.long j4), .second, .val (.int i6), .val (.long j7), .second, .val (.long j9), .second, .val (.long j11), .second, .val (.ref o13), .val (.ref o14), .val (.double d15), .second, .val (.double d17), .second, .val (.int (1 : Int32)), .unset, .unset] [(.int (0 : Int32))])) _
  refine XS.lload X0.here hx rfl (hb hby at_184) rfl ?_
  show Steps p.tables e below (T0.setTop (mkF m 186 #[.val (.long j0), .second, .val (.long j2), .second, .val (.long j4), .second, .val (.int i6), .val (.long j7), .second, .val (.long j9), .second, .val (.long j11), .second, .val (.ref o13), .val (.ref o14), .val (.double d15), .second, .val (.double d17), .second, .val (.int (1 : Int32)), .unset, .unset] [(.long j9), (.int (0 : Int32))])) _
  refine XS.lconst X0.here hx rfl (hb hby at_186) ?_
  show Steps p.tables e below (T0.setTop (mkF m 187 #[.val (.long j0), .second, .val (.long j2), .second, .val (.long j4), .second, .val (.int i6), .val (.long j7), .second, .val (.long j9), .second, .val (.long j11), .second, .val (.ref o13), .val (.ref o14), .val (.double d15), .second, .val (.double d17), .second, .val (.int (1 : Int32)), .unset, .unset] [(.long (0 : Int64)), (.long j9), (.int (0 : Int32))])) _
  refine XS.lcmp X0.here hx rfl (hb hby at_187) rfl ?_
  show Steps p.tables e below (T0.setTop (mkF m 188 #[.val (.long j0), .second, .val (.long j2), .second, .val (.long j4), .second, .val (.int i6), .val (.long j7), .second, .val (.long j9), .second, .val (.long j11), .second, .val (.ref o13), .val (.ref o14), .val (.double d15), .second, .val (.double d17), .second, .val (.int (1 : Int32)), .unset, .unset] [(.int (lcmpW j9 (0 : Int64))), (.int (0 : Int32))])) _
  refine XS.ifNo X0.here hx rfl (hb hby at_188) rfl ((if0 _ _).trans (feq hc188).1) ?_
  show Steps p.tables e below (T0.setTop (mkF m 191 #[.val (.long j0), .second, .val (.long j2), .second, .val (.long j4), .second, .val (.int i6), .val (.long j7), .second, .val (.long j9), .second, .val (.long j11), .second, .val (.ref o13), .val (.ref o14), .val (.double d15), .second, .val (.double d17), .second, .val (.int (1 : Int32)), .unset, .unset] [(.int (0 : Int32))])) _
  refine XS.lload X0.here hx rfl (hb hby at_191) rfl ?_
  show Steps p.tables e below (T0.setTop (mkF m 193 #[.val (.long j0), .second, .val (.long j2), .second, .val (.long j4), .second, .val (.int i6), .val (.long j7), .second, .val (.long j9), .second, .val (.long j11), .second, .val (.ref o13), .val (.ref o14), .val (.double d15), .second, .val (.double d17), .second, .val (.int (1 : Int32)), .unset, .unset] [(.long j7), (.int (0 : Int32))])) _
  refine XS.lconst X0.here hx rfl (hb hby at_193) ?_
  show Steps p.tables e below (T0.setTop (mkF m 194 #[.val (.long j0), .second, .val (.long j2), .second, .val (.long j4), .second, .val (.int i6), .val (.long j7), .second, .val (.long j9), .second, .val (.long j11), .second, .val (.ref o13), .val (.ref o14), .val (.double d15), .second, .val (.double d17), .second, .val (.int (1 : Int32)), .unset, .unset] [(.long (0 : Int64)), (.long j7), (.int (0 : Int32))])) _
  refine XS.lcmp X0.here hx rfl (hb hby at_194) rfl ?_
  show Steps p.tables e below (T0.setTop (mkF m 195 #[.val (.long j0), .second, .val (.long j2), .second, .val (.long j4), .second, .val (.int i6), .val (.long j7), .second, .val (.long j9), .second, .val (.long j11), .second, .val (.ref o13), .val (.ref o14), .val (.double d15), .second, .val (.double d17), .second, .val (.int (1 : Int32)), .unset, .unset] [(.int (lcmpW j7 (0 : Int64))), (.int (0 : Int32))])) _
  refine XS.ifYes X0.here hx rfl (pc0 := 195) (pc' := 202) rfl (hb hby at_195) rfl ((if0 _ _).trans (feq hc195).2) (by decide) (by decide) ?_
  show Steps p.tables e below (T0.setTop (mkF m 202 #[.val (.long j0), .second, .val (.long j2), .second, .val (.long j4), .second, .val (.int i6), .val (.long j7), .second, .val (.long j9), .second, .val (.long j11), .second, .val (.ref o13), .val (.ref o14), .val (.double d15), .second, .val (.double d17), .second, .val (.int (1 : Int32)), .unset, .unset] [(.int (0 : Int32))])) _
  refine XS.iconst X0.here hx rfl (hb hby at_202) ?_
  show Steps p.tables e below (T0.setTop (mkF m 203 #[.val (.long j0), .second, .val (.long j2), .second, .val (.long j4), .second, .val (.int i6), .val (.long j7), .second, .val (.long j9), .second, .val (.long j11), .second, .val (.ref o13), .val (.ref o14), .val (.double d15), .second, .val (.double d17), .second, .val (.int (1 : Int32)), .unset, .unset] [(.int (0 : Int32)), (.int (0 : Int32))])) _
  refine XS.icmpNo X0.here hx rfl (hb hby at_203) rfl (teq (rfl : (0 : Int32) = (0 : Int32))).2 ?_
  show Steps p.tables e below (T0.setTop (mkF m 206 #[.val (.long j0), .second, .val (.long j2), .second, .val (.long j4), .second, .val (.int i6), .val (.long j7), .second, .val (.long j9), .second, .val (.long j11), .second, .val (.ref o13), .val (.ref o14), .val (.double d15), .second, .val (.double d17), .second, .val (.int (1 : Int32)), .unset, .unset] [])) _
  refine XS.iconst X0.here hx rfl (hb hby at_206) ?_
  show Steps p.tables e below (T0.setTop (mkF m 207 #[.val (.long j0), .second, .val (.long j2), .second, .val (.long j4), .second, .val (.int i6), .val (.long j7), .second, .val (.long j9), .second, .val (.long j11), .second, .val (.ref o13), .val (.ref o14), .val (.double d15), .second, .val (.double d17), .second, .val (.int (1 : Int32)), .unset, .unset] [(.int (1 : Int32))])) _
  refine XS.goto X0.here hx rfl (pc0 := 207) (pc' := 211) rfl (hb hby at_207) (by decide) (by decide) ?_
  show Steps p.tables e below (T0.setTop (mkF m 211 #[.val (.long j0), .second, .val (.long j2), .second, .val (.long j4), .second, .val (.int i6), .val (.long j7), .second, .val (.long j9), .second, .val (.long j11), .second, .val (.ref o13), .val (.ref o14), .val (.double d15), .second, .val (.double d17), .second, .val (.int (1 : Int32)), .unset, .unset] [(.int (1 : Int32))])) _
  refine XS.istore X0.here hx rfl (hb hby at_211) rfl (l' := #[.val (.long j0), .second, .val (.long j2), .second, .val (.long j4), .second, .val (.int i6), .val (.long j7), .second, .val (.long j9), .second, .val (.long j11), .second, .val (.ref o13), .val (.ref o14), .val (.double d15), .second, .val (.double d17), .second, .val (.int (1 : Int32)), .unset, .unset]) rfl ?_
  exact kt
set_option maxRecDepth 65536 in
set_option maxHeartbeats 40000000 in
theorem sgF {p : Program} {l : Launch} {e : Env} {R : Room} {s : State} {m : MethodId} {args : Array Value} {below : List Frame} {meth : Method} {c : Code} {T0 : State} {locs : List Loc} {cells slots : Nat} {Z : State} {a0 : Array Value} {h0 : Heap} (j0 : Int64) (j2 : Int64) (j4 : Int64) (i6 : Int32) (j7 : Int64) (j9 : Int64) (j11 : Int64) (o13 : Addr) (o14 : Addr) (d15 : UInt64) (d17 : UInt64)
    (X0 : Stand p l e R s m args below meth c T0 locs cells slots) (hx : p.tables.exec = Jvm.exec) (hZ : Z.Warmed39 s.vm) (hw : ∀ d ∈ tables_1, d.before a0 Z = true) (hby : c.code = code) (hml : c.maxLocals = 22) (hown : s.vm.findClass "com/example/bits_for_sets/bitsforsets/tool/ReplayCountsFalsePositiveRatePinLaw" = some m.cls) (e0 : T0.heap = h0) (H : ((¬ ((1 : Int32) = (0 : Int32))) ∧ ((cmpValue (FP.dcmp d15 FP.dconst0) .l) = (0 : Int32)) ∧ ((lcmpW j9 (0 : Int64)) = (0 : Int32))) ∨ ((¬ ((1 : Int32) = (0 : Int32))) ∧ (¬ ((cmpValue (FP.dcmp d15 FP.dconst0) .l) = (0 : Int32))) ∧ (¬ ((lcmpW j9 (0 : Int64)) = (0 : Int32))) ∧ (¬ ((lcmpW j7 (0 : Int64)) = (0 : Int32))))) :
    ∃ (T' : State), Stand p l e R s m args below meth c T' locs cells slots ∧ T'.heap = h0 ∧
      ∀ target, Steps p.tables e below (T'.setTop (mkF m 213 #[.val (.long j0), .second, .val (.long j2), .second, .val (.long j4), .second, .val (.int i6), .val (.long j7), .second, .val (.long j9), .second, .val (.long j11), .second, .val (.ref o13), .val (.ref o14), .val (.double d15), .second, .val (.double d17), .second, .val (.int (1 : Int32)), .unset, .unset] [])) target → Steps p.tables e below (T0.setTop (mkF m 167 #[.val (.long j0), .second, .val (.long j2), .second, .val (.long j4), .second, .val (.int i6), .val (.long j7), .second, .val (.long j9), .second, .val (.long j11), .second, .val (.ref o13), .val (.ref o14), .val (.double d15), .second, .val (.double d17), .second, .val (.int (1 : Int32)), .unset, .unset] [])) target := by
  rcases H with ⟨hc169, hc176, hc188⟩ | ⟨hc169, hc176, hc188, hc195⟩
  · exact tn0_167_213_fftf_sgF j0 j2 j4 i6 j7 j9 j11 o13 o14 d15 d17 X0 hx hZ hw hby hml hown e0 hc169 hc176 hc188
  · exact tn0_167_213_ftftf_sgF j0 j2 j4 i6 j7 j9 j11 o13 o14 d15 d17 X0 hx hZ hw hby hml hown e0 hc169 hc176 hc188 hc195
set_option maxRecDepth 65536 in
set_option maxHeartbeats 40000000 in
theorem tn0_213_247_t_sgG {p : Program} {l : Launch} {e : Env} {R : Room} {s : State} {m : MethodId} {args : Array Value} {below : List Frame} {meth : Method} {c : Code} {T0 : State} {locs : List Loc} {cells slots : Nat} {Z : State} {a0 : Array Value} {h0 : Heap} (j0 : Int64) (j2 : Int64) (j4 : Int64) (i6 : Int32) (j7 : Int64) (j9 : Int64) (j11 : Int64) (o13 : Addr) (o14 : Addr) (d15 : UInt64) (d17 : UInt64)
    (X0 : Stand p l e R s m args below meth c T0 locs cells slots) (hx : p.tables.exec = Jvm.exec) (hZ : Z.Warmed39 s.vm) (hw : ∀ d ∈ tables_1, d.before a0 Z = true) (hby : c.code = code) (hml : c.maxLocals = 22) (hown : s.vm.findClass "com/example/bits_for_sets/bitsforsets/tool/ReplayCountsFalsePositiveRatePinLaw" = some m.cls) (e0 : T0.heap = h0) (hc217 : ¬ ((0 : Int32) < (lcmpW j7 (0 : Int64)))) :
    ∃ (T' : State), Stand p l e R s m args below meth c T' locs cells slots ∧ T'.heap = h0 ∧
      ∀ target, Steps p.tables e below (T'.setTop (mkF m 247 #[.val (.long j0), .second, .val (.long j2), .second, .val (.long j4), .second, .val (.int i6), .val (.long j7), .second, .val (.long j9), .second, .val (.long j11), .second, .val (.ref o13), .val (.ref o14), .val (.double d15), .second, .val (.double d17), .second, .val (.int (1 : Int32)), .unset, .unset] [])) target → Steps p.tables e below (T0.setTop (mkF m 213 #[.val (.long j0), .second, .val (.long j2), .second, .val (.long j4), .second, .val (.int i6), .val (.long j7), .second, .val (.long j9), .second, .val (.long j11), .second, .val (.ref o13), .val (.ref o14), .val (.double d15), .second, .val (.double d17), .second, .val (.int (1 : Int32)), .unset, .unset] [])) target := by
  refine ⟨T0, X0, e0, fun target kt => ?_⟩
  show Steps p.tables e below (T0.setTop (mkF m 213 #[.val (.long j0), .second, .val (.long j2), .second, .val (.long j4), .second, .val (.int i6), .val (.long j7), .second, .val (.long j9), .second, .val (.long j11), .second, .val (.ref o13), .val (.ref o14), .val (.double d15), .second, .val (.double d17), .second, .val (.int (1 : Int32)), .unset, .unset] [])) _
  refine XS.lload X0.here hx rfl (hb hby at_213) rfl ?_
  show Steps p.tables e below (T0.setTop (mkF m 215 #[.val (.long j0), .second, .val (.long j2), .second, .val (.long j4), .second, .val (.int i6), .val (.long j7), .second, .val (.long j9), .second, .val (.long j11), .second, .val (.ref o13), .val (.ref o14), .val (.double d15), .second, .val (.double d17), .second, .val (.int (1 : Int32)), .unset, .unset] [(.long j7)])) _
  refine XS.lconst X0.here hx rfl (hb hby at_215) ?_
  show Steps p.tables e below (T0.setTop (mkF m 216 #[.val (.long j0), .second, .val (.long j2), .second, .val (.long j4), .second, .val (.int i6), .val (.long j7), .second, .val (.long j9), .second, .val (.long j11), .second, .val (.ref o13), .val (.ref o14), .val (.double d15), .second, .val (.double d17), .second, .val (.int (1 : Int32)), .unset, .unset] [(.long (0 : Int64)), (.long j7)])) _
  refine XS.lcmp X0.here hx rfl (hb hby at_216) rfl ?_
  show Steps p.tables e below (T0.setTop (mkF m 217 #[.val (.long j0), .second, .val (.long j2), .second, .val (.long j4), .second, .val (.int i6), .val (.long j7), .second, .val (.long j9), .second, .val (.long j11), .second, .val (.ref o13), .val (.ref o14), .val (.double d15), .second, .val (.double d17), .second, .val (.int (1 : Int32)), .unset, .unset] [(.int (lcmpW j7 (0 : Int64)))])) _
  refine XS.ifYes X0.here hx rfl (pc0 := 217) (pc' := 247) rfl (hb hby at_217) rfl ((if0 _ _).trans (flt hc217).2.2.2) (by decide) (by decide) ?_
  exact kt
set_option maxRecDepth 65536 in
set_option maxHeartbeats 40000000 in
theorem tn0_213_247_ft_sgG {p : Program} {l : Launch} {e : Env} {R : Room} {s : State} {m : MethodId} {args : Array Value} {below : List Frame} {meth : Method} {c : Code} {T0 : State} {locs : List Loc} {cells slots : Nat} {Z : State} {a0 : Array Value} {h0 : Heap} (j0 : Int64) (j2 : Int64) (j4 : Int64) (i6 : Int32) (j7 : Int64) (j9 : Int64) (j11 : Int64) (o13 : Addr) (o14 : Addr) (d15 : UInt64) (d17 : UInt64)
    (X0 : Stand p l e R s m args below meth c T0 locs cells slots) (hx : p.tables.exec = Jvm.exec) (hZ : Z.Warmed39 s.vm) (hw : ∀ d ∈ tables_1, d.before a0 Z = true) (hby : c.code = code) (hml : c.maxLocals = 22) (hown : s.vm.findClass "com/example/bits_for_sets/bitsforsets/tool/ReplayCountsFalsePositiveRatePinLaw" = some m.cls) (e0 : T0.heap = h0) (hc217 : (0 : Int32) < (lcmpW j7 (0 : Int64))) (hc225 : ¬ ((lcmpW j9 j7) = (0 : Int32))) :
    ∃ (T' : State), Stand p l e R s m args below meth c T' locs cells slots ∧ T'.heap = h0 ∧
      ∀ target, Steps p.tables e below (T'.setTop (mkF m 247 #[.val (.long j0), .second, .val (.long j2), .second, .val (.long j4), .second, .val (.int i6), .val (.long j7), .second, .val (.long j9), .second, .val (.long j11), .second, .val (.ref o13), .val (.ref o14), .val (.double d15), .second, .val (.double d17), .second, .val (.int (1 : Int32)), .unset, .unset] [])) target → Steps p.tables e below (T0.setTop (mkF m 213 #[.val (.long j0), .second, .val (.long j2), .second, .val (.long j4), .second, .val (.int i6), .val (.long j7), .second, .val (.long j9), .second, .val (.long j11), .second, .val (.ref o13), .val (.ref o14), .val (.double d15), .second, .val (.double d17), .second, .val (.int (1 : Int32)), .unset, .unset] [])) target := by
  refine ⟨T0, X0, e0, fun target kt => ?_⟩
  show Steps p.tables e below (T0.setTop (mkF m 213 #[.val (.long j0), .second, .val (.long j2), .second, .val (.long j4), .second, .val (.int i6), .val (.long j7), .second, .val (.long j9), .second, .val (.long j11), .second, .val (.ref o13), .val (.ref o14), .val (.double d15), .second, .val (.double d17), .second, .val (.int (1 : Int32)), .unset, .unset] [])) _
  refine XS.lload X0.here hx rfl (hb hby at_213) rfl ?_
  show Steps p.tables e below (T0.setTop (mkF m 215 #[.val (.long j0), .second, .val (.long j2), .second, .val (.long j4), .second, .val (.int i6), .val (.long j7), .second, .val (.long j9), .second, .val (.long j11), .second, .val (.ref o13), .val (.ref o14), .val (.double d15), .second, .val (.double d17), .second, .val (.int (1 : Int32)), .unset, .unset] [(.long j7)])) _
  refine XS.lconst X0.here hx rfl (hb hby at_215) ?_
  show Steps p.tables e below (T0.setTop (mkF m 216 #[.val (.long j0), .second, .val (.long j2), .second, .val (.long j4), .second, .val (.int i6), .val (.long j7), .second, .val (.long j9), .second, .val (.long j11), .second, .val (.ref o13), .val (.ref o14), .val (.double d15), .second, .val (.double d17), .second, .val (.int (1 : Int32)), .unset, .unset] [(.long (0 : Int64)), (.long j7)])) _
  refine XS.lcmp X0.here hx rfl (hb hby at_216) rfl ?_
  show Steps p.tables e below (T0.setTop (mkF m 217 #[.val (.long j0), .second, .val (.long j2), .second, .val (.long j4), .second, .val (.int i6), .val (.long j7), .second, .val (.long j9), .second, .val (.long j11), .second, .val (.ref o13), .val (.ref o14), .val (.double d15), .second, .val (.double d17), .second, .val (.int (1 : Int32)), .unset, .unset] [(.int (lcmpW j7 (0 : Int64)))])) _
  refine XS.ifNo X0.here hx rfl (hb hby at_217) rfl ((if0 _ _).trans (tlt hc217).2.2.2) ?_
  show Steps p.tables e below (T0.setTop (mkF m 220 #[.val (.long j0), .second, .val (.long j2), .second, .val (.long j4), .second, .val (.int i6), .val (.long j7), .second, .val (.long j9), .second, .val (.long j11), .second, .val (.ref o13), .val (.ref o14), .val (.double d15), .second, .val (.double d17), .second, .val (.int (1 : Int32)), .unset, .unset] [])) _
  refine XS.lload X0.here hx rfl (hb hby at_220) rfl ?_
  show Steps p.tables e below (T0.setTop (mkF m 222 #[.val (.long j0), .second, .val (.long j2), .second, .val (.long j4), .second, .val (.int i6), .val (.long j7), .second, .val (.long j9), .second, .val (.long j11), .second, .val (.ref o13), .val (.ref o14), .val (.double d15), .second, .val (.double d17), .second, .val (.int (1 : Int32)), .unset, .unset] [(.long j9)])) _
  refine XS.lload X0.here hx rfl (hb hby at_222) rfl ?_
  show Steps p.tables e below (T0.setTop (mkF m 224 #[.val (.long j0), .second, .val (.long j2), .second, .val (.long j4), .second, .val (.int i6), .val (.long j7), .second, .val (.long j9), .second, .val (.long j11), .second, .val (.ref o13), .val (.ref o14), .val (.double d15), .second, .val (.double d17), .second, .val (.int (1 : Int32)), .unset, .unset] [(.long j7), (.long j9)])) _
  refine XS.lcmp X0.here hx rfl (hb hby at_224) rfl ?_
  show Steps p.tables e below (T0.setTop (mkF m 225 #[.val (.long j0), .second, .val (.long j2), .second, .val (.long j4), .second, .val (.int i6), .val (.long j7), .second, .val (.long j9), .second, .val (.long j11), .second, .val (.ref o13), .val (.ref o14), .val (.double d15), .second, .val (.double d17), .second, .val (.int (1 : Int32)), .unset, .unset] [(.int (lcmpW j9 j7))])) _
  refine XS.ifYes X0.here hx rfl (pc0 := 225) (pc' := 247) rfl (hb hby at_225) rfl ((if0 _ _).trans (feq hc225).2) (by decide) (by decide) ?_
  exact kt
set_option maxRecDepth 65536 in
set_option maxHeartbeats 40000000 in
theorem tn0_213_247_ffff_sgG {p : Program} {l : Launch} {e : Env} {R : Room} {s : State} {m : MethodId} {args : Array Value} {below : List Frame} {meth : Method} {c : Code} {T0 : State} {locs : List Loc} {cells slots : Nat} {Z : State} {a0 : Array Value} {h0 : Heap} (j0 : Int64) (j2 : Int64) (j4 : Int64) (i6 : Int32) (j7 : Int64) (j9 : Int64) (j11 : Int64) (o13 : Addr) (o14 : Addr) (d15 : UInt64) (d17 : UInt64)
    (X0 : Stand p l e R s m args below meth c T0 locs cells slots) (hx : p.tables.exec = Jvm.exec) (hZ : Z.Warmed39 s.vm) (hw : ∀ d ∈ tables_1, d.before a0 Z = true) (hby : c.code = code) (hml : c.maxLocals = 22) (hown : s.vm.findClass "com/example/bits_for_sets/bitsforsets/tool/ReplayCountsFalsePositiveRatePinLaw" = some m.cls) (e0 : T0.heap = h0) (hc217 : (0 : Int32) < (lcmpW j7 (0 : Int64))) (hc225 : (lcmpW j9 j7) = (0 : Int32)) (hc230 : ¬ ((1 : Int32) = (0 : Int32))) (hc237 : (cmpValue (FP.dcmp d15 FP.dconst1) .l) = (0 : Int32)) :
    ∃ (T' : State), Stand p l e R s m args below meth c T' locs cells slots ∧ T'.heap = h0 ∧
      ∀ target, Steps p.tables e below (T'.setTop (mkF m 247 #[.val (.long j0), .second, .val (.long j2), .second, .val (.long j4), .second, .val (.int i6), .val (.long j7), .second, .val (.long j9), .second, .val (.long j11), .second, .val (.ref o13), .val (.ref o14), .val (.double d15), .second, .val (.double d17), .second, .val (.int (1 : Int32)), .unset, .unset] [])) target → Steps p.tables e below (T0.setTop (mkF m 213 #[.val (.long j0), .second, .val (.long j2), .second, .val (.long j4), .second, .val (.int i6), .val (.long j7), .second, .val (.long j9), .second, .val (.long j11), .second, .val (.ref o13), .val (.ref o14), .val (.double d15), .second, .val (.double d17), .second, .val (.int (1 : Int32)), .unset, .unset] [])) target := by
  refine ⟨T0, X0, e0, fun target kt => ?_⟩
  show Steps p.tables e below (T0.setTop (mkF m 213 #[.val (.long j0), .second, .val (.long j2), .second, .val (.long j4), .second, .val (.int i6), .val (.long j7), .second, .val (.long j9), .second, .val (.long j11), .second, .val (.ref o13), .val (.ref o14), .val (.double d15), .second, .val (.double d17), .second, .val (.int (1 : Int32)), .unset, .unset] [])) _
  refine XS.lload X0.here hx rfl (hb hby at_213) rfl ?_
  show Steps p.tables e below (T0.setTop (mkF m 215 #[.val (.long j0), .second, .val (.long j2), .second, .val (.long j4), .second, .val (.int i6), .val (.long j7), .second, .val (.long j9), .second, .val (.long j11), .second, .val (.ref o13), .val (.ref o14), .val (.double d15), .second, .val (.double d17), .second, .val (.int (1 : Int32)), .unset, .unset] [(.long j7)])) _
  refine XS.lconst X0.here hx rfl (hb hby at_215) ?_
  show Steps p.tables e below (T0.setTop (mkF m 216 #[.val (.long j0), .second, .val (.long j2), .second, .val (.long j4), .second, .val (.int i6), .val (.long j7), .second, .val (.long j9), .second, .val (.long j11), .second, .val (.ref o13), .val (.ref o14), .val (.double d15), .second, .val (.double d17), .second, .val (.int (1 : Int32)), .unset, .unset] [(.long (0 : Int64)), (.long j7)])) _
  refine XS.lcmp X0.here hx rfl (hb hby at_216) rfl ?_
  show Steps p.tables e below (T0.setTop (mkF m 217 #[.val (.long j0), .second, .val (.long j2), .second, .val (.long j4), .second, .val (.int i6), .val (.long j7), .second, .val (.long j9), .second, .val (.long j11), .second, .val (.ref o13), .val (.ref o14), .val (.double d15), .second, .val (.double d17), .second, .val (.int (1 : Int32)), .unset, .unset] [(.int (lcmpW j7 (0 : Int64)))])) _
  refine XS.ifNo X0.here hx rfl (hb hby at_217) rfl ((if0 _ _).trans (tlt hc217).2.2.2) ?_
  show Steps p.tables e below (T0.setTop (mkF m 220 #[.val (.long j0), .second, .val (.long j2), .second, .val (.long j4), .second, .val (.int i6), .val (.long j7), .second, .val (.long j9), .second, .val (.long j11), .second, .val (.ref o13), .val (.ref o14), .val (.double d15), .second, .val (.double d17), .second, .val (.int (1 : Int32)), .unset, .unset] [])) _
  refine XS.lload X0.here hx rfl (hb hby at_220) rfl ?_
  show Steps p.tables e below (T0.setTop (mkF m 222 #[.val (.long j0), .second, .val (.long j2), .second, .val (.long j4), .second, .val (.int i6), .val (.long j7), .second, .val (.long j9), .second, .val (.long j11), .second, .val (.ref o13), .val (.ref o14), .val (.double d15), .second, .val (.double d17), .second, .val (.int (1 : Int32)), .unset, .unset] [(.long j9)])) _
  refine XS.lload X0.here hx rfl (hb hby at_222) rfl ?_
  show Steps p.tables e below (T0.setTop (mkF m 224 #[.val (.long j0), .second, .val (.long j2), .second, .val (.long j4), .second, .val (.int i6), .val (.long j7), .second, .val (.long j9), .second, .val (.long j11), .second, .val (.ref o13), .val (.ref o14), .val (.double d15), .second, .val (.double d17), .second, .val (.int (1 : Int32)), .unset, .unset] [(.long j7), (.long j9)])) _
  refine XS.lcmp X0.here hx rfl (hb hby at_224) rfl ?_
  show Steps p.tables e below (T0.setTop (mkF m 225 #[.val (.long j0), .second, .val (.long j2), .second, .val (.long j4), .second, .val (.int i6), .val (.long j7), .second, .val (.long j9), .second, .val (.long j11), .second, .val (.ref o13), .val (.ref o14), .val (.double d15), .second, .val (.double d17), .second, .val (.int (1 : Int32)), .unset, .unset] [(.int (lcmpW j9 j7))])) _
  refine XS.ifNo X0.here hx rfl (hb hby at_225) rfl ((if0 _ _).trans (teq hc225).2) ?_
  show Steps p.tables e below (T0.setTop (mkF m 228 #[.val (.long j0), .second, .val (.long j2), .second, .val (.long j4), .second, .val (.int i6), .val (.long j7), .second, .val (.long j9), .second, .val (.long j11), .second, .val (.ref o13), .val (.ref o14), .val (.double d15), .second, .val (.double d17), .second, .val (.int (1 : Int32)), .unset, .unset] [])) _
  refine XS.iload X0.here hx rfl (hb hby at_228) rfl ?_
  show Steps p.tables e below (T0.setTop (mkF m 230 #[.val (.long j0), .second, .val (.long j2), .second, .val (.long j4), .second, .val (.int i6), .val (.long j7), .second, .val (.long j9), .second, .val (.long j11), .second, .val (.ref o13), .val (.ref o14), .val (.double d15), .second, .val (.double d17), .second, .val (.int (1 : Int32)), .unset, .unset] [(.int (1 : Int32))])) _
  refine XS.ifNo X0.here hx rfl (hb hby at_230) rfl ((if0 _ _).trans (feq hc230).1) ?_
  show Steps p.tables e below (T0.setTop (mkF m 233 #[.val (.long j0), .second, .val (.long j2), .second, .val (.long j4), .second, .val (.int i6), .val (.long j7), .second, .val (.long j9), .second, .val (.long j11), .second, .val (.ref o13), .val (.ref o14), .val (.double d15), .second, .val (.double d17), .second, .val (.int (1 : Int32)), .unset, .unset] [])) _
  refine XS.dload X0.here hx rfl (hb hby at_233) rfl ?_
  show Steps p.tables e below (T0.setTop (mkF m 235 #[.val (.long j0), .second, .val (.long j2), .second, .val (.long j4), .second, .val (.int i6), .val (.long j7), .second, .val (.long j9), .second, .val (.long j11), .second, .val (.ref o13), .val (.ref o14), .val (.double d15), .second, .val (.double d17), .second, .val (.int (1 : Int32)), .unset, .unset] [(.double d15)])) _
  refine XS.dconst1 X0.here hx rfl (hb hby at_235) rfl ?_
  show Steps p.tables e below (T0.setTop (mkF m 236 #[.val (.long j0), .second, .val (.long j2), .second, .val (.long j4), .second, .val (.int i6), .val (.long j7), .second, .val (.long j9), .second, .val (.long j11), .second, .val (.ref o13), .val (.ref o14), .val (.double d15), .second, .val (.double d17), .second, .val (.int (1 : Int32)), .unset, .unset] [(.double FP.dconst1), (.double d15)])) _
  refine XS.dcmpS X0.here hx rfl (hb hby at_236) rfl rfl ?_
  show Steps p.tables e below (T0.setTop (mkF m 237 #[.val (.long j0), .second, .val (.long j2), .second, .val (.long j4), .second, .val (.int i6), .val (.long j7), .second, .val (.long j9), .second, .val (.long j11), .second, .val (.ref o13), .val (.ref o14), .val (.double d15), .second, .val (.double d17), .second, .val (.int (1 : Int32)), .unset, .unset] [(.int (cmpValue (FP.dcmp d15 FP.dconst1) .l))])) _
  refine XS.ifNo X0.here hx rfl (hb hby at_237) rfl ((if0 _ _).trans (teq hc237).2) ?_
  show Steps p.tables e below (T0.setTop (mkF m 240 #[.val (.long j0), .second, .val (.long j2), .second, .val (.long j4), .second, .val (.int i6), .val (.long j7), .second, .val (.long j9), .second, .val (.long j11), .second, .val (.ref o13), .val (.ref o14), .val (.double d15), .second, .val (.double d17), .second, .val (.int (1 : Int32)), .unset, .unset] [])) _
  refine XS.iconst X0.here hx rfl (hb hby at_240) ?_
  show Steps p.tables e below (T0.setTop (mkF m 241 #[.val (.long j0), .second, .val (.long j2), .second, .val (.long j4), .second, .val (.int i6), .val (.long j7), .second, .val (.long j9), .second, .val (.long j11), .second, .val (.ref o13), .val (.ref o14), .val (.double d15), .second, .val (.double d17), .second, .val (.int (1 : Int32)), .unset, .unset] [(.int (1 : Int32))])) _
  refine XS.goto X0.here hx rfl (pc0 := 241) (pc' := 245) rfl (hb hby at_241) (by decide) (by decide) ?_
  show Steps p.tables e below (T0.setTop (mkF m 245 #[.val (.long j0), .second, .val (.long j2), .second, .val (.long j4), .second, .val (.int i6), .val (.long j7), .second, .val (.long j9), .second, .val (.long j11), .second, .val (.ref o13), .val (.ref o14), .val (.double d15), .second, .val (.double d17), .second, .val (.int (1 : Int32)), .unset, .unset] [(.int (1 : Int32))])) _
  refine XS.istore X0.here hx rfl (hb hby at_245) rfl (l' := #[.val (.long j0), .second, .val (.long j2), .second, .val (.long j4), .second, .val (.int i6), .val (.long j7), .second, .val (.long j9), .second, .val (.long j11), .second, .val (.ref o13), .val (.ref o14), .val (.double d15), .second, .val (.double d17), .second, .val (.int (1 : Int32)), .unset, .unset]) rfl ?_
  exact kt
set_option maxRecDepth 65536 in
set_option maxHeartbeats 40000000 in
theorem sgG {p : Program} {l : Launch} {e : Env} {R : Room} {s : State} {m : MethodId} {args : Array Value} {below : List Frame} {meth : Method} {c : Code} {T0 : State} {locs : List Loc} {cells slots : Nat} {Z : State} {a0 : Array Value} {h0 : Heap} (j0 : Int64) (j2 : Int64) (j4 : Int64) (i6 : Int32) (j7 : Int64) (j9 : Int64) (j11 : Int64) (o13 : Addr) (o14 : Addr) (d15 : UInt64) (d17 : UInt64)
    (X0 : Stand p l e R s m args below meth c T0 locs cells slots) (hx : p.tables.exec = Jvm.exec) (hZ : Z.Warmed39 s.vm) (hw : ∀ d ∈ tables_1, d.before a0 Z = true) (hby : c.code = code) (hml : c.maxLocals = 22) (hown : s.vm.findClass "com/example/bits_for_sets/bitsforsets/tool/ReplayCountsFalsePositiveRatePinLaw" = some m.cls) (e0 : T0.heap = h0) (H : ((¬ ((0 : Int32) < (lcmpW j7 (0 : Int64))))) ∨ (((0 : Int32) < (lcmpW j7 (0 : Int64))) ∧ (¬ ((lcmpW j9 j7) = (0 : Int32)))) ∨ (((0 : Int32) < (lcmpW j7 (0 : Int64))) ∧ ((lcmpW j9 j7) = (0 : Int32)) ∧ (¬ ((1 : Int32) = (0 : Int32))) ∧ ((cmpValue (FP.dcmp d15 FP.dconst1) .l) = (0 : Int32)))) :
    ∃ (T' : State), Stand p l e R s m args below meth c T' locs cells slots ∧ T'.heap = h0 ∧
      ∀ target, Steps p.tables e below (T'.setTop (mkF m 247 #[.val (.long j0), .second, .val (.long j2), .second, .val (.long j4), .second, .val (.int i6), .val (.long j7), .second, .val (.long j9), .second, .val (.long j11), .second, .val (.ref o13), .val (.ref o14), .val (.double d15), .second, .val (.double d17), .second, .val (.int (1 : Int32)), .unset, .unset] [])) target → Steps p.tables e below (T0.setTop (mkF m 213 #[.val (.long j0), .second, .val (.long j2), .second, .val (.long j4), .second, .val (.int i6), .val (.long j7), .second, .val (.long j9), .second, .val (.long j11), .second, .val (.ref o13), .val (.ref o14), .val (.double d15), .second, .val (.double d17), .second, .val (.int (1 : Int32)), .unset, .unset] [])) target := by
  rcases H with hc217 | ⟨hc217, hc225⟩ | ⟨hc217, hc225, hc230, hc237⟩
  · exact tn0_213_247_t_sgG j0 j2 j4 i6 j7 j9 j11 o13 o14 d15 d17 X0 hx hZ hw hby hml hown e0 hc217
  · exact tn0_213_247_ft_sgG j0 j2 j4 i6 j7 j9 j11 o13 o14 d15 d17 X0 hx hZ hw hby hml hown e0 hc217 hc225
  · exact tn0_213_247_ffff_sgG j0 j2 j4 i6 j7 j9 j11 o13 o14 d15 d17 X0 hx hZ hw hby hml hown e0 hc217 hc225 hc230 hc237
set_option maxRecDepth 65536 in
set_option maxHeartbeats 40000000 in
theorem tn0_247_263_t_sgH {p : Program} {l : Launch} {e : Env} {R : Room} {s : State} {m : MethodId} {args : Array Value} {below : List Frame} {meth : Method} {c : Code} {T0 : State} {locs : List Loc} {cells slots : Nat} {Z : State} {a0 : Array Value} {h0 : Heap} (j0 : Int64) (j2 : Int64) (j4 : Int64) (i6 : Int32) (j7 : Int64) (j9 : Int64) (j11 : Int64) (o13 : Addr) (o14 : Addr) (d15 : UInt64) (d17 : UInt64) (i19 : Int32)
    (X0 : Stand p l e R s m args below meth c T0 locs cells slots) (hx : p.tables.exec = Jvm.exec) (hZ : Z.Warmed39 s.vm) (hw : ∀ d ∈ tables_1, d.before a0 Z = true) (hby : c.code = code) (hml : c.maxLocals = 22) (hown : s.vm.findClass "com/example/bits_for_sets/bitsforsets/tool/ReplayCountsFalsePositiveRatePinLaw" = some m.cls) (e0 : T0.heap = h0) (hc253 : ¬ ((lcmpW j7 (9007199254740992 : Int64)) < (0 : Int32))) :
    ∃ (T' : State), Stand p l e R s m args below meth c T' locs cells slots ∧ T'.heap = h0 ∧
      ∀ target, Steps p.tables e below (T'.setTop (mkF m 263 #[.val (.long j0), .second, .val (.long j2), .second, .val (.long j4), .second, .val (.int i6), .val (.long j7), .second, .val (.long j9), .second, .val (.long j11), .second, .val (.ref o13), .val (.ref o14), .val (.double d15), .second, .val (.double d17), .second, .val (.int i19), .val (.int (0 : Int32)), .unset] [])) target → Steps p.tables e below (T0.setTop (mkF m 247 #[.val (.long j0), .second, .val (.long j2), .second, .val (.long j4), .second, .val (.int i6), .val (.long j7), .second, .val (.long j9), .second, .val (.long j11), .second, .val (.ref o13), .val (.ref o14), .val (.double d15), .second, .val (.double d17), .second, .val (.int i19), .unset, .unset] [])) target := by
  refine ⟨T0, X0, e0, fun target kt => ?_⟩
  show Steps p.tables e below (T0.setTop (mkF m 247 #[.val (.long j0), .second, .val (.long j2), .second, .val (.long j4), .second, .val (.int i6), .val (.long j7), .second, .val (.long j9), .second, .val (.long j11), .second, .val (.ref o13), .val (.ref o14), .val (.double d15), .second, .val (.double d17), .second, .val (.int i19), .unset, .unset] [])) _
  refine XS.lload X0.here hx rfl (hb hby at_247) rfl ?_
  show Steps p.tables e below (T0.setTop (mkF m 249 #[.val (.long j0), .second, .val (.long j2), .second, .val (.long j4), .second, .val (.int i6), .val (.long j7), .second, .val (.long j9), .second, .val (.long j11), .second, .val (.ref o13), .val (.ref o14), .val (.double d15), .second, .val (.double d17), .second, .val (.int i19), .unset, .unset] [(.long j7)])) _
  refine X0.ldc2Long hx hown (mvT hZ (hw _ (List.mem_of_getElem? (i := 37) rfl))) (g := (mkF m 249 #[.val (.long j0), .second, .val (.long j2), .second, .val (.long j4), .second, .val (.int i6), .val (.long j7), .second, .val (.long j9), .second, .val (.long j11), .second, .val (.ref o13), .val (.ref o14), .val (.double d15), .second, .val (.double d17), .second, .val (.int i19), .unset, .unset] [(.long j7)])) rfl (hb hby at_249) _ ?_
  show Steps p.tables e below (T0.setTop (mkF m 252 #[.val (.long j0), .second, .val (.long j2), .second, .val (.long j4), .second, .val (.int i6), .val (.long j7), .second, .val (.long j9), .second, .val (.long j11), .second, .val (.ref o13), .val (.ref o14), .val (.double d15), .second, .val (.double d17), .second, .val (.int i19), .unset, .unset] [(.long (9007199254740992 : Int64)), (.long j7)])) _
  refine XS.lcmp X0.here hx rfl (hb hby at_252) rfl ?_
  show Steps p.tables e below (T0.setTop (mkF m 253 #[.val (.long j0), .second, .val (.long j2), .second, .val (.long j4), .second, .val (.int i6), .val (.long j7), .second, .val (.long j9), .second, .val (.long j11), .second, .val (.ref o13), .val (.ref o14), .val (.double d15), .second, .val (.double d17), .second, .val (.int i19), .unset, .unset] [(.int (lcmpW j7 (9007199254740992 : Int64)))])) _
  refine XS.ifYes X0.here hx rfl (pc0 := 253) (pc' := 260) rfl (hb hby at_253) rfl ((if0 _ _).trans (flt hc253).2.1) (by decide) (by decide) ?_
  show Steps p.tables e below (T0.setTop (mkF m 260 #[.val (.long j0), .second, .val (.long j2), .second, .val (.long j4), .second, .val (.int i6), .val (.long j7), .second, .val (.long j9), .second, .val (.long j11), .second, .val (.ref o13), .val (.ref o14), .val (.double d15), .second, .val (.double d17), .second, .val (.int i19), .unset, .unset] [])) _
  refine XS.iconst X0.here hx rfl (hb hby at_260) ?_
  show Steps p.tables e below (T0.setTop (mkF m 261 #[.val (.long j0), .second, .val (.long j2), .second, .val (.long j4), .second, .val (.int i6), .val (.long j7), .second, .val (.long j9), .second, .val (.long j11), .second, .val (.ref o13), .val (.ref o14), .val (.double d15), .second, .val (.double d17), .second, .val (.int i19), .unset, .unset] [(.int (0 : Int32))])) _
  refine XS.istore X0.here hx rfl (hb hby at_261) rfl (l' := #[.val (.long j0), .second, .val (.long j2), .second, .val (.long j4), .second, .val (.int i6), .val (.long j7), .second, .val (.long j9), .second, .val (.long j11), .second, .val (.ref o13), .val (.ref o14), .val (.double d15), .second, .val (.double d17), .second, .val (.int i19), .val (.int (0 : Int32)), .unset]) rfl ?_
  exact kt
set_option maxRecDepth 65536 in
set_option maxHeartbeats 40000000 in
theorem tn0_247_263_f_sgH {p : Program} {l : Launch} {e : Env} {R : Room} {s : State} {m : MethodId} {args : Array Value} {below : List Frame} {meth : Method} {c : Code} {T0 : State} {locs : List Loc} {cells slots : Nat} {Z : State} {a0 : Array Value} {h0 : Heap} (j0 : Int64) (j2 : Int64) (j4 : Int64) (i6 : Int32) (j7 : Int64) (j9 : Int64) (j11 : Int64) (o13 : Addr) (o14 : Addr) (d15 : UInt64) (d17 : UInt64) (i19 : Int32)
    (X0 : Stand p l e R s m args below meth c T0 locs cells slots) (hx : p.tables.exec = Jvm.exec) (hZ : Z.Warmed39 s.vm) (hw : ∀ d ∈ tables_1, d.before a0 Z = true) (hby : c.code = code) (hml : c.maxLocals = 22) (hown : s.vm.findClass "com/example/bits_for_sets/bitsforsets/tool/ReplayCountsFalsePositiveRatePinLaw" = some m.cls) (e0 : T0.heap = h0) (hc253 : (lcmpW j7 (9007199254740992 : Int64)) < (0 : Int32)) :
    ∃ (T' : State), Stand p l e R s m args below meth c T' locs cells slots ∧ T'.heap = h0 ∧
      ∀ target, Steps p.tables e below (T'.setTop (mkF m 263 #[.val (.long j0), .second, .val (.long j2), .second, .val (.long j4), .second, .val (.int i6), .val (.long j7), .second, .val (.long j9), .second, .val (.long j11), .second, .val (.ref o13), .val (.ref o14), .val (.double d15), .second, .val (.double d17), .second, .val (.int i19), .val (.int (1 : Int32)), .unset] [])) target → Steps p.tables e below (T0.setTop (mkF m 247 #[.val (.long j0), .second, .val (.long j2), .second, .val (.long j4), .second, .val (.int i6), .val (.long j7), .second, .val (.long j9), .second, .val (.long j11), .second, .val (.ref o13), .val (.ref o14), .val (.double d15), .second, .val (.double d17), .second, .val (.int i19), .unset, .unset] [])) target := by
  refine ⟨T0, X0, e0, fun target kt => ?_⟩
  show Steps p.tables e below (T0.setTop (mkF m 247 #[.val (.long j0), .second, .val (.long j2), .second, .val (.long j4), .second, .val (.int i6), .val (.long j7), .second, .val (.long j9), .second, .val (.long j11), .second, .val (.ref o13), .val (.ref o14), .val (.double d15), .second, .val (.double d17), .second, .val (.int i19), .unset, .unset] [])) _
  refine XS.lload X0.here hx rfl (hb hby at_247) rfl ?_
  show Steps p.tables e below (T0.setTop (mkF m 249 #[.val (.long j0), .second, .val (.long j2), .second, .val (.long j4), .second, .val (.int i6), .val (.long j7), .second, .val (.long j9), .second, .val (.long j11), .second, .val (.ref o13), .val (.ref o14), .val (.double d15), .second, .val (.double d17), .second, .val (.int i19), .unset, .unset] [(.long j7)])) _
  refine X0.ldc2Long hx hown (mvT hZ (hw _ (List.mem_of_getElem? (i := 37) rfl))) (g := (mkF m 249 #[.val (.long j0), .second, .val (.long j2), .second, .val (.long j4), .second, .val (.int i6), .val (.long j7), .second, .val (.long j9), .second, .val (.long j11), .second, .val (.ref o13), .val (.ref o14), .val (.double d15), .second, .val (.double d17), .second, .val (.int i19), .unset, .unset] [(.long j7)])) rfl (hb hby at_249) _ ?_
  show Steps p.tables e below (T0.setTop (mkF m 252 #[.val (.long j0), .second, .val (.long j2), .second, .val (.long j4), .second, .val (.int i6), .val (.long j7), .second, .val (.long j9), .second, .val (.long j11), .second, .val (.ref o13), .val (.ref o14), .val (.double d15), .second, .val (.double d17), .second, .val (.int i19), .unset, .unset] [(.long (9007199254740992 : Int64)), (.long j7)])) _
  refine XS.lcmp X0.here hx rfl (hb hby at_252) rfl ?_
  show Steps p.tables e below (T0.setTop (mkF m 253 #[.val (.long j0), .second, .val (.long j2), .second, .val (.long j4), .second, .val (.int i6), .val (.long j7), .second, .val (.long j9), .second, .val (.long j11), .second, .val (.ref o13), .val (.ref o14), .val (.double d15), .second, .val (.double d17), .second, .val (.int i19), .unset, .unset] [(.int (lcmpW j7 (9007199254740992 : Int64)))])) _
  refine XS.ifNo X0.here hx rfl (hb hby at_253) rfl ((if0 _ _).trans (tlt hc253).2.1) ?_
  show Steps p.tables e below (T0.setTop (mkF m 256 #[.val (.long j0), .second, .val (.long j2), .second, .val (.long j4), .second, .val (.int i6), .val (.long j7), .second, .val (.long j9), .second, .val (.long j11), .second, .val (.ref o13), .val (.ref o14), .val (.double d15), .second, .val (.double d17), .second, .val (.int i19), .unset, .unset] [])) _
  refine XS.iconst X0.here hx rfl (hb hby at_256) ?_
  show Steps p.tables e below (T0.setTop (mkF m 257 #[.val (.long j0), .second, .val (.long j2), .second, .val (.long j4), .second, .val (.int i6), .val (.long j7), .second, .val (.long j9), .second, .val (.long j11), .second, .val (.ref o13), .val (.ref o14), .val (.double d15), .second, .val (.double d17), .second, .val (.int i19), .unset, .unset] [(.int (1 : Int32))])) _
  refine XS.goto X0.here hx rfl (pc0 := 257) (pc' := 261) rfl (hb hby at_257) (by decide) (by decide) ?_
  show Steps p.tables e below (T0.setTop (mkF m 261 #[.val (.long j0), .second, .val (.long j2), .second, .val (.long j4), .second, .val (.int i6), .val (.long j7), .second, .val (.long j9), .second, .val (.long j11), .second, .val (.ref o13), .val (.ref o14), .val (.double d15), .second, .val (.double d17), .second, .val (.int i19), .unset, .unset] [(.int (1 : Int32))])) _
  refine XS.istore X0.here hx rfl (hb hby at_261) rfl (l' := #[.val (.long j0), .second, .val (.long j2), .second, .val (.long j4), .second, .val (.int i6), .val (.long j7), .second, .val (.long j9), .second, .val (.long j11), .second, .val (.ref o13), .val (.ref o14), .val (.double d15), .second, .val (.double d17), .second, .val (.int i19), .val (.int (1 : Int32)), .unset]) rfl ?_
  exact kt
def own_sgH_20 (j7 : Int64) : Int32 := (if (lcmpW j7 (9007199254740992 : Int64)) < (0 : Int32) then (1 : Int32) else (0 : Int32))
set_option maxRecDepth 65536 in
set_option maxHeartbeats 40000000 in
theorem sgH {p : Program} {l : Launch} {e : Env} {R : Room} {s : State} {m : MethodId} {args : Array Value} {below : List Frame} {meth : Method} {c : Code} {T0 : State} {locs : List Loc} {cells slots : Nat} {Z : State} {a0 : Array Value} {h0 : Heap} (j0 : Int64) (j2 : Int64) (j4 : Int64) (i6 : Int32) (j7 : Int64) (j9 : Int64) (j11 : Int64) (o13 : Addr) (o14 : Addr) (d15 : UInt64) (d17 : UInt64) (i19 : Int32)
    (X0 : Stand p l e R s m args below meth c T0 locs cells slots) (hx : p.tables.exec = Jvm.exec) (hZ : Z.Warmed39 s.vm) (hw : ∀ d ∈ tables_1, d.before a0 Z = true) (hby : c.code = code) (hml : c.maxLocals = 22) (hown : s.vm.findClass "com/example/bits_for_sets/bitsforsets/tool/ReplayCountsFalsePositiveRatePinLaw" = some m.cls) (e0 : T0.heap = h0) :
    ∃ (T' : State), Stand p l e R s m args below meth c T' locs cells slots ∧ T'.heap = h0 ∧
      ∀ target, Steps p.tables e below (T'.setTop (mkF m 263 #[.val (.long j0), .second, .val (.long j2), .second, .val (.long j4), .second, .val (.int i6), .val (.long j7), .second, .val (.long j9), .second, .val (.long j11), .second, .val (.ref o13), .val (.ref o14), .val (.double d15), .second, .val (.double d17), .second, .val (.int i19), .val (.int (own_sgH_20 j7)), .unset] [])) target → Steps p.tables e below (T0.setTop (mkF m 247 #[.val (.long j0), .second, .val (.long j2), .second, .val (.long j4), .second, .val (.int i6), .val (.long j7), .second, .val (.long j9), .second, .val (.long j11), .second, .val (.ref o13), .val (.ref o14), .val (.double d15), .second, .val (.double d17), .second, .val (.int i19), .unset, .unset] [])) target := by
  unfold own_sgH_20
  by_cases hc253 : (lcmpW j7 (9007199254740992 : Int64)) < (0 : Int32)
  · simp only [if_pos hc253]
    exact tn0_247_263_f_sgH j0 j2 j4 i6 j7 j9 j11 o13 o14 d15 d17 i19 X0 hx hZ hw hby hml hown e0 hc253
  · simp only [if_neg hc253]
    exact tn0_247_263_t_sgH j0 j2 j4 i6 j7 j9 j11 o13 o14 d15 d17 i19 X0 hx hZ hw hby hml hown e0 hc253
set_option maxRecDepth 65536 in
set_option maxHeartbeats 40000000 in
theorem tn0_263_357_t_sgI {p : Program} {l : Launch} {e : Env} {R : Room} {s : State} {m : MethodId} {args : Array Value} {below : List Frame} {meth : Method} {c : Code} {T0 : State} {locs : List Loc} {cells slots : Nat} {Z : State} {a0 : Array Value} {h0 : Heap} (j0 : Int64) (j2 : Int64) (j4 : Int64) (i6 : Int32) (j7 : Int64) (j9 : Int64) (j11 : Int64) (o13 : Addr) (o14 : Addr) (d15 : UInt64) (d17 : UInt64) (i20 : Int32)
    (X0 : Stand p l e R s m args below meth c T0 locs cells slots) (hx : p.tables.exec = Jvm.exec) (hZ : Z.Warmed39 s.vm) (hw : ∀ d ∈ tables_1, d.before a0 Z = true) (hby : c.code = code) (hml : c.maxLocals = 22) (hown : s.vm.findClass "com/example/bits_for_sets/bitsforsets/tool/ReplayCountsFalsePositiveRatePinLaw" = some m.cls) (e0 : T0.heap = h0) (hc267 : ¬ ((0 : Int32) < (lcmpW j7 (0 : Int64)))) :
    ∃ (T' : State), Stand p l e R s m args below meth c T' locs cells slots ∧ T'.heap = h0 ∧
      ∀ target, Steps p.tables e below (T'.setTop (mkF m 357 #[.val (.long j0), .second, .val (.long j2), .second, .val (.long j4), .second, .val (.int i6), .val (.long j7), .second, .val (.long j9), .second, .val (.long j11), .second, .val (.ref o13), .val (.ref o14), .val (.double d15), .second, .val (.double d17), .second, .val (.int (1 : Int32)), .val (.int i20), .unset] [])) target → Steps p.tables e below (T0.setTop (mkF m 263 #[.val (.long j0), .second, .val (.long j2), .second, .val (.long j4), .second, .val (.int i6), .val (.long j7), .second, .val (.long j9), .second, .val (.long j11), .second, .val (.ref o13), .val (.ref o14), .val (.double d15), .second, .val (.double d17), .second, .val (.int (1 : Int32)), .val (.int i20), .unset] [])) target := by
  refine ⟨T0, X0, e0, fun target kt => ?_⟩
  show Steps p.tables e below (T0.setTop (mkF m 263 #[.val (.long j0), .second, .val (.long j2), .second, .val (.long j4), .second, .val (.int i6), .val (.long j7), .second, .val (.long j9), .second, .val (.long j11), .second, .val (.ref o13), .val (.ref o14), .val (.double d15), .second, .val (.double d17), .second, .val (.int (1 : Int32)), .val (.int i20), .unset] [])) _
  refine XS.lload X0.here hx rfl (hb hby at_263) rfl ?_
  show Steps p.tables e below (T0.setTop (mkF m 265 #[.val (.long j0), .second, .val (.long j2), .second, .val (.long j4), .second, .val (.int i6), .val (.long j7), .second, .val (.long j9), .second, .val (.long j11), .second, .val (.ref o13), .val (.ref o14), .val (.double d15), .second, .val (.double d17), .second, .val (.int (1 : Int32)), .val (.int i20), .unset] [(.long j7)])) _
  refine XS.lconst X0.here hx rfl (hb hby at_265) ?_
  show Steps p.tables e below (T0.setTop (mkF m 266 #[.val (.long j0), .second, .val (.long j2), .second, .val (.long j4), .second, .val (.int i6), .val (.long j7), .second, .val (.long j9), .second, .val (.long j11), .second, .val (.ref o13), .val (.ref o14), .val (.double d15), .second, .val (.double d17), .second, .val (.int (1 : Int32)), .val (.int i20), .unset] [(.long (0 : Int64)), (.long j7)])) _
  refine XS.lcmp X0.here hx rfl (hb hby at_266) rfl ?_
  show Steps p.tables e below (T0.setTop (mkF m 267 #[.val (.long j0), .second, .val (.long j2), .second, .val (.long j4), .second, .val (.int i6), .val (.long j7), .second, .val (.long j9), .second, .val (.long j11), .second, .val (.ref o13), .val (.ref o14), .val (.double d15), .second, .val (.double d17), .second, .val (.int (1 : Int32)), .val (.int i20), .unset] [(.int (lcmpW j7 (0 : Int64)))])) _
  refine XS.ifYes X0.here hx rfl (pc0 := 267) (pc' := 357) rfl (hb hby at_267) rfl ((if0 _ _).trans (flt hc267).2.2.2) (by decide) (by decide) ?_
  exact kt
set_option maxRecDepth 65536 in
set_option maxHeartbeats 40000000 in
theorem tn0_263_357_ft_sgI {p : Program} {l : Launch} {e : Env} {R : Room} {s : State} {m : MethodId} {args : Array Value} {below : List Frame} {meth : Method} {c : Code} {T0 : State} {locs : List Loc} {cells slots : Nat} {Z : State} {a0 : Array Value} {h0 : Heap} (j0 : Int64) (j2 : Int64) (j4 : Int64) (i6 : Int32) (j7 : Int64) (j9 : Int64) (j11 : Int64) (o13 : Addr) (o14 : Addr) (d15 : UInt64) (d17 : UInt64) (i20 : Int32)
    (X0 : Stand p l e R s m args below meth c T0 locs cells slots) (hx : p.tables.exec = Jvm.exec) (hZ : Z.Warmed39 s.vm) (hw : ∀ d ∈ tables_1, d.before a0 Z = true) (hby : c.code = code) (hml : c.maxLocals = 22) (hown : s.vm.findClass "com/example/bits_for_sets/bitsforsets/tool/ReplayCountsFalsePositiveRatePinLaw" = some m.cls) (e0 : T0.heap = h0) (hc267 : (0 : Int32) < (lcmpW j7 (0 : Int64))) (hc272 : i20 = (0 : Int32)) :
    ∃ (T' : State), Stand p l e R s m args below meth c T' locs cells slots ∧ T'.heap = h0 ∧
      ∀ target, Steps p.tables e below (T'.setTop (mkF m 357 #[.val (.long j0), .second, .val (.long j2), .second, .val (.long j4), .second, .val (.int i6), .val (.long j7), .second, .val (.long j9), .second, .val (.long j11), .second, .val (.ref o13), .val (.ref o14), .val (.double d15), .second, .val (.double d17), .second, .val (.int (1 : Int32)), .val (.int i20), .unset] [])) target → Steps p.tables e below (T0.setTop (mkF m 263 #[.val (.long j0), .second, .val (.long j2), .second, .val (.long j4), .second, .val (.int i6), .val (.long j7), .second, .val (.long j9), .second, .val (.long j11), .second, .val (.ref o13), .val (.ref o14), .val (.double d15), .second, .val (.double d17), .second, .val (.int (1 : Int32)), .val (.int i20), .unset] [])) target := by
  refine ⟨T0, X0, e0, fun target kt => ?_⟩
  show Steps p.tables e below (T0.setTop (mkF m 263 #[.val (.long j0), .second, .val (.long j2), .second, .val (.long j4), .second, .val (.int i6), .val (.long j7), .second, .val (.long j9), .second, .val (.long j11), .second, .val (.ref o13), .val (.ref o14), .val (.double d15), .second, .val (.double d17), .second, .val (.int (1 : Int32)), .val (.int i20), .unset] [])) _
  refine XS.lload X0.here hx rfl (hb hby at_263) rfl ?_
  show Steps p.tables e below (T0.setTop (mkF m 265 #[.val (.long j0), .second, .val (.long j2), .second, .val (.long j4), .second, .val (.int i6), .val (.long j7), .second, .val (.long j9), .second, .val (.long j11), .second, .val (.ref o13), .val (.ref o14), .val (.double d15), .second, .val (.double d17), .second, .val (.int (1 : Int32)), .val (.int i20), .unset] [(.long j7)])) _
  refine XS.lconst X0.here hx rfl (hb hby at_265) ?_
  show Steps p.tables e below (T0.setTop (mkF m 266 #[.val (.long j0), .second, .val (.long j2), .second, .val (.long j4), .second, .val (.int i6), .val (.long j7), .second, .val (.long j9), .second, .val (.long j11), .second, .val (.ref o13), .val (.ref o14), .val (.double d15), .second, .val (.double d17), .second, .val (.int (1 : Int32)), .val (.int i20), .unset] [(.long (0 : Int64)), (.long j7)])) _
  refine XS.lcmp X0.here hx rfl (hb hby at_266) rfl ?_
  show Steps p.tables e below (T0.setTop (mkF m 267 #[.val (.long j0), .second, .val (.long j2), .second, .val (.long j4), .second, .val (.int i6), .val (.long j7), .second, .val (.long j9), .second, .val (.long j11), .second, .val (.ref o13), .val (.ref o14), .val (.double d15), .second, .val (.double d17), .second, .val (.int (1 : Int32)), .val (.int i20), .unset] [(.int (lcmpW j7 (0 : Int64)))])) _
  refine XS.ifNo X0.here hx rfl (hb hby at_267) rfl ((if0 _ _).trans (tlt hc267).2.2.2) ?_
  show Steps p.tables e below (T0.setTop (mkF m 270 #[.val (.long j0), .second, .val (.long j2), .second, .val (.long j4), .second, .val (.int i6), .val (.long j7), .second, .val (.long j9), .second, .val (.long j11), .second, .val (.ref o13), .val (.ref o14), .val (.double d15), .second, .val (.double d17), .second, .val (.int (1 : Int32)), .val (.int i20), .unset] [])) _
  refine XS.iload X0.here hx rfl (hb hby at_270) rfl ?_
  show Steps p.tables e below (T0.setTop (mkF m 272 #[.val (.long j0), .second, .val (.long j2), .second, .val (.long j4), .second, .val (.int i6), .val (.long j7), .second, .val (.long j9), .second, .val (.long j11), .second, .val (.ref o13), .val (.ref o14), .val (.double d15), .second, .val (.double d17), .second, .val (.int (1 : Int32)), .val (.int i20), .unset] [(.int i20)])) _
  refine XS.ifYes X0.here hx rfl (pc0 := 272) (pc' := 357) rfl (hb hby at_272) rfl ((if0 _ _).trans (teq hc272).1) (by decide) (by decide) ?_
  exact kt
set_option maxRecDepth 65536 in
set_option maxHeartbeats 40000000 in
theorem tn0_263_357_fffffft_sgI {p : Program} {l : Launch} {e : Env} {R : Room} {s : State} {m : MethodId} {args : Array Value} {below : List Frame} {meth : Method} {c : Code} {T0 : State} {locs : List Loc} {cells slots : Nat} {Z : State} {a0 : Array Value} {h0 : Heap} (j0 : Int64) (j2 : Int64) (j4 : Int64) (i6 : Int32) (j7 : Int64) (j9 : Int64) (j11 : Int64) (o13 : Addr) (o14 : Addr) (d15 : UInt64) (d17 : UInt64) (i20 : Int32)
    (X0 : Stand p l e R s m args below meth c T0 locs cells slots) (hx : p.tables.exec = Jvm.exec) (hZ : Z.Warmed39 s.vm) (hw : ∀ d ∈ tables_1, d.before a0 Z = true) (hby : c.code = code) (hml : c.maxLocals = 22) (hown : s.vm.findClass "com/example/bits_for_sets/bitsforsets/tool/ReplayCountsFalsePositiveRatePinLaw" = some m.cls) (e0 : T0.heap = h0) (hc267 : (0 : Int32) < (lcmpW j7 (0 : Int64))) (hc272 : ¬ (i20 = (0 : Int32))) (hc277 : ¬ ((1 : Int32) = (0 : Int32))) (hc284 : (cmpValue (FP.dcmp d15 FP.dconst1) .l) = (0 : Int32)) (hc297 : (lcmpW j9 j7) = (0 : Int32)) (hc321 : ¬ ((lcmpW (j7 &&& (1 : Int64)) (0 : Int64)) = (0 : Int32))) :
    ∃ (T' : State), Stand p l e R s m args below meth c T' locs cells slots ∧ T'.heap = h0 ∧
      ∀ target, Steps p.tables e below (T'.setTop (mkF m 357 #[.val (.long j0), .second, .val (.long j2), .second, .val (.long j4), .second, .val (.int i6), .val (.long j7), .second, .val (.long j9), .second, .val (.long j11), .second, .val (.ref o13), .val (.ref o14), .val (.double d15), .second, .val (.double d17), .second, .val (.int (1 : Int32)), .val (.int i20), .unset] [])) target → Steps p.tables e below (T0.setTop (mkF m 263 #[.val (.long j0), .second, .val (.long j2), .second, .val (.long j4), .second, .val (.int i6), .val (.long j7), .second, .val (.long j9), .second, .val (.long j11), .second, .val (.ref o13), .val (.ref o14), .val (.double d15), .second, .val (.double d17), .second, .val (.int (1 : Int32)), .val (.int i20), .unset] [])) target := by
  refine ⟨T0, X0, e0, fun target kt => ?_⟩
  show Steps p.tables e below (T0.setTop (mkF m 263 #[.val (.long j0), .second, .val (.long j2), .second, .val (.long j4), .second, .val (.int i6), .val (.long j7), .second, .val (.long j9), .second, .val (.long j11), .second, .val (.ref o13), .val (.ref o14), .val (.double d15), .second, .val (.double d17), .second, .val (.int (1 : Int32)), .val (.int i20), .unset] [])) _
  refine XS.lload X0.here hx rfl (hb hby at_263) rfl ?_
  show Steps p.tables e below (T0.setTop (mkF m 265 #[.val (.long j0), .second, .val (.long j2), .second, .val (.long j4), .second, .val (.int i6), .val (.long j7), .second, .val (.long j9), .second, .val (.long j11), .second, .val (.ref o13), .val (.ref o14), .val (.double d15), .second, .val (.double d17), .second, .val (.int (1 : Int32)), .val (.int i20), .unset] [(.long j7)])) _
  refine XS.lconst X0.here hx rfl (hb hby at_265) ?_
  show Steps p.tables e below (T0.setTop (mkF m 266 #[.val (.long j0), .second, .val (.long j2), .second, .val (.long j4), .second, .val (.int i6), .val (.long j7), .second, .val (.long j9), .second, .val (.long j11), .second, .val (.ref o13), .val (.ref o14), .val (.double d15), .second, .val (.double d17), .second, .val (.int (1 : Int32)), .val (.int i20), .unset] [(.long (0 : Int64)), (.long j7)])) _
  refine XS.lcmp X0.here hx rfl (hb hby at_266) rfl ?_
  show Steps p.tables e below (T0.setTop (mkF m 267 #[.val (.long j0), .second, .val (.long j2), .second, .val (.long j4), .second, .val (.int i6), .val (.long j7), .second, .val (.long j9), .second, .val (.long j11), .second, .val (.ref o13), .val (.ref o14), .val (.double d15), .second, .val (.double d17), .second, .val (.int (1 : Int32)), .val (.int i20), .unset] [(.int (lcmpW j7 (0 : Int64)))])) _
  refine XS.ifNo X0.here hx rfl (hb hby at_267) rfl ((if0 _ _).trans (tlt hc267).2.2.2) ?_
  show Steps p.tables e below (T0.setTop (mkF m 270 #[.val (.long j0), .second, .val (.long j2), .second, .val (.long j4), .second, .val (.int i6), .val (.long j7), .second, .val (.long j9), .second, .val (.long j11), .second, .val (.ref o13), .val (.ref o14), .val (.double d15), .second, .val (.double d17), .second, .val (.int (1 : Int32)), .val (.int i20), .unset] [])) _
  refine XS.iload X0.here hx rfl (hb hby at_270) rfl ?_
  show Steps p.tables e below (T0.setTop (mkF m 272 #[.val (.long j0), .second, .val (.long j2), .second, .val (.long j4), .second, .val (.int i6), .val (.long j7), .second, .val (.long j9), .second, .val (.long j11), .second, .val (.ref o13), .val (.ref o14), .val (.double d15), .second, .val (.double d17), .second, .val (.int (1 : Int32)), .val (.int i20), .unset] [(.int i20)])) _
  refine XS.ifNo X0.here hx rfl (hb hby at_272) rfl ((if0 _ _).trans (feq hc272).1) ?_
  show Steps p.tables e below (T0.setTop (mkF m 275 #[.val (.long j0), .second, .val (.long j2), .second, .val (.long j4), .second, .val (.int i6), .val (.long j7), .second, .val (.long j9), .second, .val (.long j11), .second, .val (.ref o13), .val (.ref o14), .val (.double d15), .second, .val (.double d17), .second, .val (.int (1 : Int32)), .val (.int i20), .unset] [])) _
  refine XS.iload X0.here hx rfl (hb hby at_275) rfl ?_
  show Steps p.tables e below (T0.setTop (mkF m 277 #[.val (.long j0), .second, .val (.long j2), .second, .val (.long j4), .second, .val (.int i6), .val (.long j7), .second, .val (.long j9), .second, .val (.long j11), .second, .val (.ref o13), .val (.ref o14), .val (.double d15), .second, .val (.double d17), .second, .val (.int (1 : Int32)), .val (.int i20), .unset] [(.int (1 : Int32))])) _
  refine XS.ifNo X0.here hx rfl (hb hby at_277) rfl ((if0 _ _).trans (feq hc277).1) ?_
  show Steps p.tables e below (T0.setTop (mkF m 280 #[.val (.long j0), .second, .val (.long j2), .second, .val (.long j4), .second, .val (.int i6), .val (.long j7), .second, .val (.long j9), .second, .val (.long j11), .second, .val (.ref o13), .val (.ref o14), .val (.double d15), .second, .val (.double d17), .second, .val (.int (1 : Int32)), .val (.int i20), .unset] [])) _
  refine XS.dload X0.here hx rfl (hb hby at_280) rfl ?_
  show Steps p.tables e below (T0.setTop (mkF m 282 #[.val (.long j0), .second, .val (.long j2), .second, .val (.long j4), .second, .val (.int i6), .val (.long j7), .second, .val (.long j9), .second, .val (.long j11), .second, .val (.ref o13), .val (.ref o14), .val (.double d15), .second, .val (.double d17), .second, .val (.int (1 : Int32)), .val (.int i20), .unset] [(.double d15)])) _
  refine XS.dconst1 X0.here hx rfl (hb hby at_282) rfl ?_
  show Steps p.tables e below (T0.setTop (mkF m 283 #[.val (.long j0), .second, .val (.long j2), .second, .val (.long j4), .second, .val (.int i6), .val (.long j7), .second, .val (.long j9), .second, .val (.long j11), .second, .val (.ref o13), .val (.ref o14), .val (.double d15), .second, .val (.double d17), .second, .val (.int (1 : Int32)), .val (.int i20), .unset] [(.double FP.dconst1), (.double d15)])) _
  refine XS.dcmpS X0.here hx rfl (hb hby at_283) rfl rfl ?_
  show Steps p.tables e below (T0.setTop (mkF m 284 #[.val (.long j0), .second, .val (.long j2), .second, .val (.long j4), .second, .val (.int i6), .val (.long j7), .second, .val (.long j9), .second, .val (.long j11), .second, .val (.ref o13), .val (.ref o14), .val (.double d15), .second, .val (.double d17), .second, .val (.int (1 : Int32)), .val (.int i20), .unset] [(.int (cmpValue (FP.dcmp d15 FP.dconst1) .l))])) _
  refine XS.ifNo X0.here hx rfl (hb hby at_284) rfl ((if0 _ _).trans (teq hc284).2) ?_
  show Steps p.tables e below (T0.setTop (mkF m 287 #[.val (.long j0), .second, .val (.long j2), .second, .val (.long j4), .second, .val (.int i6), .val (.long j7), .second, .val (.long j9), .second, .val (.long j11), .second, .val (.ref o13), .val (.ref o14), .val (.double d15), .second, .val (.double d17), .second, .val (.int (1 : Int32)), .val (.int i20), .unset] [])) _
  refine XS.iconst X0.here hx rfl (hb hby at_287) ?_
  show Steps p.tables e below (T0.setTop (mkF m 288 #[.val (.long j0), .second, .val (.long j2), .second, .val (.long j4), .second, .val (.int i6), .val (.long j7), .second, .val (.long j9), .second, .val (.long j11), .second, .val (.ref o13), .val (.ref o14), .val (.double d15), .second, .val (.double d17), .second, .val (.int (1 : Int32)), .val (.int i20), .unset] [(.int (1 : Int32))])) _
  refine XS.goto X0.here hx rfl (pc0 := 288) (pc' := 292) rfl (hb hby at_288) (by decide) (by decide) ?_
  show Steps p.tables e below (T0.setTop (mkF m 292 #[.val (.long j0), .second, .val (.long j2), .second, .val (.long j4), .second, .val (.int i6), .val (.long j7), .second, .val (.long j9), .second, .val (.long j11), .second, .val (.ref o13), .val (.ref o14), .val (.double d15), .second, .val (.double d17), .second, .val (.int (1 : Int32)), .val (.int i20), .unset] [(.int (1 : Int32))])) _
  refine XS.lload X0.here hx rfl (hb hby at_292) rfl ?_
  show Steps p.tables e below (T0.setTop (mkF m 294 #[.val (.long j0), .second, .val (.long j2), .second, .val (.long j4), .second, .val (.int i6), .val (.long j7), .second, .val (.long j9), .second, .val (.long j11), .second, .val (.ref o13), .val (.ref o14), .val (.double d15), .second, .val (.double d17), .second, .val (.int (1 : Int32)), .val (.int i20), .unset] [(.long j9), (.int (1 : Int32))])) _
  refine XS.lload X0.here hx rfl (hb hby at_294) rfl ?_
  show Steps p.tables e below (T0.setTop (mkF m 296 #[.val (.long j0), .second, .val (.long j2), .second, .val (.long j4), .second, .val (.int i6), .val (.long j7), .second, .val (.long j9), .second, .val (.long j11), .second, .val (.ref o13), .val (.ref o14), .val (.double d15), .second, .val (.double d17), .second, .val (.int (1 : Int32)), .val (.int i20), .unset] [(.long j7), (.long j9), (.int (1 : Int32))])) _
  refine XS.lcmp X0.here hx rfl (hb hby at_296) rfl ?_
  show Steps p.tables e below (T0.setTop (mkF m 297 #[.val (.long j0), .second, .val (.long j2), .second, .val (.long j4), .second, .val (.int i6), .val (.long j7), .second, .val (.long j9), .second, .val (.long j11), .second, .val (.ref o13), .val (.ref o14), .val (.double d15), .second, .val (.double d17), .second, .val (.int (1 : Int32)), .val (.int i20), .unset] [(.int (lcmpW j9 j7)), (.int (1 : Int32))])) _
  refine XS.ifNo X0.here hx rfl (hb hby at_297) rfl ((if0 _ _).trans (teq hc297).2) ?_
  show Steps p.tables e below (T0.setTop (mkF m 300 #[.val (.long j0), .second, .val (.long j2), .second, .val (.long j4), .second, .val (.int i6), .val (.long j7), .second, .val (.long j9), .second, .val (.long j11), .second, .val (.ref o13), .val (.ref o14), .val (.double d15), .second, .val (.double d17), .second, .val (.int (1 : Int32)), .val (.int i20), .unset] [(.int (1 : Int32))])) _
  refine XS.iconst X0.here hx rfl (hb hby at_300) ?_
  show Steps p.tables e below (T0.setTop (mkF m 301 #[.val (.long j0), .second, .val (.long j2), .second, .val (.long j4), .second, .val (.int i6), .val (.long j7), .second, .val (.long j9), .second, .val (.long j11), .second, .val (.ref o13), .val (.ref o14), .val (.double d15), .second, .val (.double d17), .second, .val (.int (1 : Int32)), .val (.int i20), .unset] [(.int (1 : Int32)), (.int (1 : Int32))])) _
  refine XS.goto X0.here hx rfl (pc0 := 301) (pc' := 305) rfl (hb hby at_301) (by decide) (by decide) ?_
  show Steps p.tables e below (T0.setTop (mkF m 305 #[.val (.long j0), .second, .val (.long j2), .second, .val (.long j4), .second, .val (.int i6), .val (.long j7), .second, .val (.long j9), .second, .val (.long j11), .second, .val (.ref o13), .val (.ref o14), .val (.double d15), .second, .val (.double d17), .second, .val (.int (1 : Int32)), .val (.int i20), .unset] [(.int (1 : Int32)), (.int (1 : Int32))])) _
  refine XS.icmpNo X0.here hx rfl (hb hby at_305) rfl (teq (rfl : (1 : Int32) = (1 : Int32))).2 ?_
  show Steps p.tables e below (T0.setTop (mkF m 308 #[.val (.long j0), .second, .val (.long j2), .second, .val (.long j4), .second, .val (.int i6), .val (.long j7), .second, .val (.long j9), .second, .val (.long j11), .second, .val (.ref o13), .val (.ref o14), .val (.double d15), .second, .val (.double d17), .second, .val (.int (1 : Int32)), .val (.int i20), .unset] [])) _
  refine XS.iconst X0.here hx rfl (hb hby at_308) ?_
  show Steps p.tables e below (T0.setTop (mkF m 309 #[.val (.long j0), .second, .val (.long j2), .second, .val (.long j4), .second, .val (.int i6), .val (.long j7), .second, .val (.long j9), .second, .val (.long j11), .second, .val (.ref o13), .val (.ref o14), .val (.double d15), .second, .val (.double d17), .second, .val (.int (1 : Int32)), .val (.int i20), .unset] [(.int (1 : Int32))])) _
  refine XS.goto X0.here hx rfl (pc0 := 309) (pc' := 313) rfl (hb hby at_309) (by decide) (by decide) ?_
  show Steps p.tables e below (T0.setTop (mkF m 313 #[.val (.long j0), .second, .val (.long j2), .second, .val (.long j4), .second, .val (.int i6), .val (.long j7), .second, .val (.long j9), .second, .val (.long j11), .second, .val (.ref o13), .val (.ref o14), .val (.double d15), .second, .val (.double d17), .second, .val (.int (1 : Int32)), .val (.int i20), .unset] [(.int (1 : Int32))])) _
  refine XS.istore X0.here hx rfl (hb hby at_313) rfl (l' := #[.val (.long j0), .second, .val (.long j2), .second, .val (.long j4), .second, .val (.int i6), .val (.long j7), .second, .val (.long j9), .second, .val (.long j11), .second, .val (.ref o13), .val (.ref o14), .val (.double d15), .second, .val (.double d17), .second, .val (.int (1 : Int32)), .val (.int i20), .unset]) rfl ?_
  show Steps p.tables e below (T0.setTop (mkF m 315 #[.val (.long j0), .second, .val (.long j2), .second, .val (.long j4), .second, .val (.int i6), .val (.long j7), .second, .val (.long j9), .second, .val (.long j11), .second, .val (.ref o13), .val (.ref o14), .val (.double d15), .second, .val (.double d17), .second, .val (.int (1 : Int32)), .val (.int i20), .unset] [])) _
  refine XS.lload X0.here hx rfl (hb hby at_315) rfl ?_
  show Steps p.tables e below (T0.setTop (mkF m 317 #[.val (.long j0), .second, .val (.long j2), .second, .val (.long j4), .second, .val (.int i6), .val (.long j7), .second, .val (.long j9), .second, .val (.long j11), .second, .val (.ref o13), .val (.ref o14), .val (.double d15), .second, .val (.double d17), .second, .val (.int (1 : Int32)), .val (.int i20), .unset] [(.long j7)])) _
  refine XS.lconst X0.here hx rfl (hb hby at_317) ?_
  show Steps p.tables e below (T0.setTop (mkF m 318 #[.val (.long j0), .second, .val (.long j2), .second, .val (.long j4), .second, .val (.int i6), .val (.long j7), .second, .val (.long j9), .second, .val (.long j11), .second, .val (.ref o13), .val (.ref o14), .val (.double d15), .second, .val (.double d17), .second, .val (.int (1 : Int32)), .val (.int i20), .unset] [(.long (1 : Int64)), (.long j7)])) _
  refine XS.land X0.here hx rfl (hb hby at_318) rfl ?_
  show Steps p.tables e below (T0.setTop (mkF m 319 #[.val (.long j0), .second, .val (.long j2), .second, .val (.long j4), .second, .val (.int i6), .val (.long j7), .second, .val (.long j9), .second, .val (.long j11), .second, .val (.ref o13), .val (.ref o14), .val (.double d15), .second, .val (.double d17), .second, .val (.int (1 : Int32)), .val (.int i20), .unset] [(.long (j7 &&& (1 : Int64)))])) _
  refine XS.lconst X0.here hx rfl (hb hby at_319) ?_
  show Steps p.tables e below (T0.setTop (mkF m 320 #[.val (.long j0), .second, .val (.long j2), .second, .val (.long j4), .second, .val (.int i6), .val (.long j7), .second, .val (.long j9), .second, .val (.long j11), .second, .val (.ref o13), .val (.ref o14), .val (.double d15), .second, .val (.double d17), .second, .val (.int (1 : Int32)), .val (.int i20), .unset] [(.long (0 : Int64)), (.long (j7 &&& (1 : Int64)))])) _
  refine XS.lcmp X0.here hx rfl (hb hby at_320) rfl ?_
  show Steps p.tables e below (T0.setTop (mkF m 321 #[.val (.long j0), .second, .val (.long j2), .second, .val (.long j4), .second, .val (.int i6), .val (.long j7), .second, .val (.long j9), .second, .val (.long j11), .second, .val (.ref o13), .val (.ref o14), .val (.double d15), .second, .val (.double d17), .second, .val (.int (1 : Int32)), .val (.int i20), .unset] [(.int (lcmpW (j7 &&& (1 : Int64)) (0 : Int64)))])) _
  refine XS.ifYes X0.here hx rfl (pc0 := 321) (pc' := 357) rfl (hb hby at_321) rfl ((if0 _ _).trans (feq hc321).2) (by decide) (by decide) ?_
  exact kt
set_option maxRecDepth 65536 in
set_option maxHeartbeats 40000000 in
theorem tn0_263_357_ffffffft_sgI {p : Program} {l : Launch} {e : Env} {R : Room} {s : State} {m : MethodId} {args : Array Value} {below : List Frame} {meth : Method} {c : Code} {T0 : State} {locs : List Loc} {cells slots : Nat} {Z : State} {a0 : Array Value} {h0 : Heap} (j0 : Int64) (j2 : Int64) (j4 : Int64) (i6 : Int32) (j7 : Int64) (j9 : Int64) (j11 : Int64) (o13 : Addr) (o14 : Addr) (d15 : UInt64) (d17 : UInt64) (i20 : Int32)
    (X0 : Stand p l e R s m args below meth c T0 locs cells slots) (hx : p.tables.exec = Jvm.exec) (hZ : Z.Warmed39 s.vm) (hw : ∀ d ∈ tables_1, d.before a0 Z = true) (hby : c.code = code) (hml : c.maxLocals = 22) (hown : s.vm.findClass "com/example/bits_for_sets/bitsforsets/tool/ReplayCountsFalsePositiveRatePinLaw" = some m.cls) (e0 : T0.heap = h0) (hc267 : (0 : Int32) < (lcmpW j7 (0 : Int64))) (hc272 : ¬ (i20 = (0 : Int32))) (hc277 : ¬ ((1 : Int32) = (0 : Int32))) (hc284 : (cmpValue (FP.dcmp d15 FP.dconst1) .l) = (0 : Int32)) (hc297 : (lcmpW j9 j7) = (0 : Int32)) (hc321 : (lcmpW (j7 &&& (1 : Int64)) (0 : Int64)) = (0 : Int32)) (hc333 : ¬ ((lcmpW j9 (j7 / (2 : Int64))) = (0 : Int32))) :
    ∃ (T' : State), Stand p l e R s m args below meth c T' locs cells slots ∧ T'.heap = h0 ∧
      ∀ target, Steps p.tables e below (T'.setTop (mkF m 357 #[.val (.long j0), .second, .val (.long j2), .second, .val (.long j4), .second, .val (.int i6), .val (.long j7), .second, .val (.long j9), .second, .val (.long j11), .second, .val (.ref o13), .val (.ref o14), .val (.double d15), .second, .val (.double d17), .second, .val (.int (1 : Int32)), .val (.int i20), .unset] [])) target → Steps p.tables e below (T0.setTop (mkF m 263 #[.val (.long j0), .second, .val (.long j2), .second, .val (.long j4), .second, .val (.int i6), .val (.long j7), .second, .val (.long j9), .second, .val (.long j11), .second, .val (.ref o13), .val (.ref o14), .val (.double d15), .second, .val (.double d17), .second, .val (.int (1 : Int32)), .val (.int i20), .unset] [])) target := by
  refine ⟨T0, X0, e0, fun target kt => ?_⟩
  show Steps p.tables e below (T0.setTop (mkF m 263 #[.val (.long j0), .second, .val (.long j2), .second, .val (.long j4), .second, .val (.int i6), .val (.long j7), .second, .val (.long j9), .second, .val (.long j11), .second, .val (.ref o13), .val (.ref o14), .val (.double d15), .second, .val (.double d17), .second, .val (.int (1 : Int32)), .val (.int i20), .unset] [])) _
  refine XS.lload X0.here hx rfl (hb hby at_263) rfl ?_
  show Steps p.tables e below (T0.setTop (mkF m 265 #[.val (.long j0), .second, .val (.long j2), .second, .val (.long j4), .second, .val (.int i6), .val (.long j7), .second, .val (.long j9), .second, .val (.long j11), .second, .val (.ref o13), .val (.ref o14), .val (.double d15), .second, .val (.double d17), .second, .val (.int (1 : Int32)), .val (.int i20), .unset] [(.long j7)])) _
  refine XS.lconst X0.here hx rfl (hb hby at_265) ?_
  show Steps p.tables e below (T0.setTop (mkF m 266 #[.val (.long j0), .second, .val (.long j2), .second, .val (.long j4), .second, .val (.int i6), .val (.long j7), .second, .val (.long j9), .second, .val (.long j11), .second, .val (.ref o13), .val (.ref o14), .val (.double d15), .second, .val (.double d17), .second, .val (.int (1 : Int32)), .val (.int i20), .unset] [(.long (0 : Int64)), (.long j7)])) _
  refine XS.lcmp X0.here hx rfl (hb hby at_266) rfl ?_
  show Steps p.tables e below (T0.setTop (mkF m 267 #[.val (.long j0), .second, .val (.long j2), .second, .val (.long j4), .second, .val (.int i6), .val (.long j7), .second, .val (.long j9), .second, .val (.long j11), .second, .val (.ref o13), .val (.ref o14), .val (.double d15), .second, .val (.double d17), .second, .val (.int (1 : Int32)), .val (.int i20), .unset] [(.int (lcmpW j7 (0 : Int64)))])) _
  refine XS.ifNo X0.here hx rfl (hb hby at_267) rfl ((if0 _ _).trans (tlt hc267).2.2.2) ?_
  show Steps p.tables e below (T0.setTop (mkF m 270 #[.val (.long j0), .second, .val (.long j2), .second, .val (.long j4), .second, .val (.int i6), .val (.long j7), .second, .val (.long j9), .second, .val (.long j11), .second, .val (.ref o13), .val (.ref o14), .val (.double d15), .second, .val (.double d17), .second, .val (.int (1 : Int32)), .val (.int i20), .unset] [])) _
  refine XS.iload X0.here hx rfl (hb hby at_270) rfl ?_
  show Steps p.tables e below (T0.setTop (mkF m 272 #[.val (.long j0), .second, .val (.long j2), .second, .val (.long j4), .second, .val (.int i6), .val (.long j7), .second, .val (.long j9), .second, .val (.long j11), .second, .val (.ref o13), .val (.ref o14), .val (.double d15), .second, .val (.double d17), .second, .val (.int (1 : Int32)), .val (.int i20), .unset] [(.int i20)])) _
  refine XS.ifNo X0.here hx rfl (hb hby at_272) rfl ((if0 _ _).trans (feq hc272).1) ?_
  show Steps p.tables e below (T0.setTop (mkF m 275 #[.val (.long j0), .second, .val (.long j2), .second, .val (.long j4), .second, .val (.int i6), .val (.long j7), .second, .val (.long j9), .second, .val (.long j11), .second, .val (.ref o13), .val (.ref o14), .val (.double d15), .second, .val (.double d17), .second, .val (.int (1 : Int32)), .val (.int i20), .unset] [])) _
  refine XS.iload X0.here hx rfl (hb hby at_275) rfl ?_
  show Steps p.tables e below (T0.setTop (mkF m 277 #[.val (.long j0), .second, .val (.long j2), .second, .val (.long j4), .second, .val (.int i6), .val (.long j7), .second, .val (.long j9), .second, .val (.long j11), .second, .val (.ref o13), .val (.ref o14), .val (.double d15), .second, .val (.double d17), .second, .val (.int (1 : Int32)), .val (.int i20), .unset] [(.int (1 : Int32))])) _
  refine XS.ifNo X0.here hx rfl (hb hby at_277) rfl ((if0 _ _).trans (feq hc277).1) ?_
  show Steps p.tables e below (T0.setTop (mkF m 280 #[.val (.long j0), .second, .val (.long j2), .second, .val (.long j4), .second, .val (.int i6), .val (.long j7), .second, .val (.long j9), .second, .val (.long j11), .second, .val (.ref o13), .val (.ref o14), .val (.double d15), .second, .val (.double d17), .second, .val (.int (1 : Int32)), .val (.int i20), .unset] [])) _
  refine XS.dload X0.here hx rfl (hb hby at_280) rfl ?_
  show Steps p.tables e below (T0.setTop (mkF m 282 #[.val (.long j0), .second, .val (.long j2), .second, .val (.long j4), .second, .val (.int i6), .val (.long j7), .second, .val (.long j9), .second, .val (.long j11), .second, .val (.ref o13), .val (.ref o14), .val (.double d15), .second, .val (.double d17), .second, .val (.int (1 : Int32)), .val (.int i20), .unset] [(.double d15)])) _
  refine XS.dconst1 X0.here hx rfl (hb hby at_282) rfl ?_
  show Steps p.tables e below (T0.setTop (mkF m 283 #[.val (.long j0), .second, .val (.long j2), .second, .val (.long j4), .second, .val (.int i6), .val (.long j7), .second, .val (.long j9), .second, .val (.long j11), .second, .val (.ref o13), .val (.ref o14), .val (.double d15), .second, .val (.double d17), .second, .val (.int (1 : Int32)), .val (.int i20), .unset] [(.double FP.dconst1), (.double d15)])) _
  refine XS.dcmpS X0.here hx rfl (hb hby at_283) rfl rfl ?_
  show Steps p.tables e below (T0.setTop (mkF m 284 #[.val (.long j0), .second, .val (.long j2), .second, .val (.long j4), .second, .val (.int i6), .val (.long j7), .second, .val (.long j9), .second, .val (.long j11), .second, .val (.ref o13), .val (.ref o14), .val (.double d15), .second, .val (.double d17), .second, .val (.int (1 : Int32)), .val (.int i20), .unset] [(.int (cmpValue (FP.dcmp d15 FP.dconst1) .l))])) _
  refine XS.ifNo X0.here hx rfl (hb hby at_284) rfl ((if0 _ _).trans (teq hc284).2) ?_
  show Steps p.tables e below (T0.setTop (mkF m 287 #[.val (.long j0), .second, .val (.long j2), .second, .val (.long j4), .second, .val (.int i6), .val (.long j7), .second, .val (.long j9), .second, .val (.long j11), .second, .val (.ref o13), .val (.ref o14), .val (.double d15), .second, .val (.double d17), .second, .val (.int (1 : Int32)), .val (.int i20), .unset] [])) _
  refine XS.iconst X0.here hx rfl (hb hby at_287) ?_
  show Steps p.tables e below (T0.setTop (mkF m 288 #[.val (.long j0), .second, .val (.long j2), .second, .val (.long j4), .second, .val (.int i6), .val (.long j7), .second, .val (.long j9), .second, .val (.long j11), .second, .val (.ref o13), .val (.ref o14), .val (.double d15), .second, .val (.double d17), .second, .val (.int (1 : Int32)), .val (.int i20), .unset] [(.int (1 : Int32))])) _
  refine XS.goto X0.here hx rfl (pc0 := 288) (pc' := 292) rfl (hb hby at_288) (by decide) (by decide) ?_
  show Steps p.tables e below (T0.setTop (mkF m 292 #[.val (.long j0), .second, .val (.long j2), .second, .val (.long j4), .second, .val (.int i6), .val (.long j7), .second, .val (.long j9), .second, .val (.long j11), .second, .val (.ref o13), .val (.ref o14), .val (.double d15), .second, .val (.double d17), .second, .val (.int (1 : Int32)), .val (.int i20), .unset] [(.int (1 : Int32))])) _
  refine XS.lload X0.here hx rfl (hb hby at_292) rfl ?_
  show Steps p.tables e below (T0.setTop (mkF m 294 #[.val (.long j0), .second, .val (.long j2), .second, .val (.long j4), .second, .val (.int i6), .val (.long j7), .second, .val (.long j9), .second, .val (.long j11), .second, .val (.ref o13), .val (.ref o14), .val (.double d15), .second, .val (.double d17), .second, .val (.int (1 : Int32)), .val (.int i20), .unset] [(.long j9), (.int (1 : Int32))])) _
  refine XS.lload X0.here hx rfl (hb hby at_294) rfl ?_
  show Steps p.tables e below (T0.setTop (mkF m 296 #[.val (.long j0), .second, .val (.long j2), .second, .val (.long j4), .second, .val (.int i6), .val (.long j7), .second, .val (.long j9), .second, .val (.long j11), .second, .val (.ref o13), .val (.ref o14), .val (.double d15), .second, .val (.double d17), .second, .val (.int (1 : Int32)), .val (.int i20), .unset] [(.long j7), (.long j9), (.int (1 : Int32))])) _
  refine XS.lcmp X0.here hx rfl (hb hby at_296) rfl ?_
  show Steps p.tables e below (T0.setTop (mkF m 297 #[.val (.long j0), .second, .val (.long j2), .second, .val (.long j4), .second, .val (.int i6), .val (.long j7), .second, .val (.long j9), .second, .val (.long j11), .second, .val (.ref o13), .val (.ref o14), .val (.double d15), .second, .val (.double d17), .second, .val (.int (1 : Int32)), .val (.int i20), .unset] [(.int (lcmpW j9 j7)), (.int (1 : Int32))])) _
  refine XS.ifNo X0.here hx rfl (hb hby at_297) rfl ((if0 _ _).trans (teq hc297).2) ?_
  show Steps p.tables e below (T0.setTop (mkF m 300 #[.val (.long j0), .second, .val (.long j2), .second, .val (.long j4), .second, .val (.int i6), .val (.long j7), .second, .val (.long j9), .second, .val (.long j11), .second, .val (.ref o13), .val (.ref o14), .val (.double d15), .second, .val (.double d17), .second, .val (.int (1 : Int32)), .val (.int i20), .unset] [(.int (1 : Int32))])) _
  refine XS.iconst X0.here hx rfl (hb hby at_300) ?_
  show Steps p.tables e below (T0.setTop (mkF m 301 #[.val (.long j0), .second, .val (.long j2), .second, .val (.long j4), .second, .val (.int i6), .val (.long j7), .second, .val (.long j9), .second, .val (.long j11), .second, .val (.ref o13), .val (.ref o14), .val (.double d15), .second, .val (.double d17), .second, .val (.int (1 : Int32)), .val (.int i20), .unset] [(.int (1 : Int32)), (.int (1 : Int32))])) _
  refine XS.goto X0.here hx rfl (pc0 := 301) (pc' := 305) rfl (hb hby at_301) (by decide) (by decide) ?_
  show Steps p.tables e below (T0.setTop (mkF m 305 #[.val (.long j0), .second, .val (.long j2), .second, .val (.long j4), .second, .val (.int i6), .val (.long j7), .second, .val (.long j9), .second, .val (.long j11), .second, .val (.ref o13), .val (.ref o14), .val (.double d15), .second, .val (.double d17), .second, .val (.int (1 : Int32)), .val (.int i20), .unset] [(.int (1 : Int32)), (.int (1 : Int32))])) _
  refine XS.icmpNo X0.here hx rfl (hb hby at_305) rfl (teq (rfl : (1 : Int32) = (1 : Int32))).2 ?_
  show Steps p.tables e below (T0.setTop (mkF m 308 #[.val (.long j0), .second, .val (.long j2), .second, .val (.long j4), .second, .val (.int i6), .val (.long j7), .second, .val (.long j9), .second, .val (.long j11), .second, .val (.ref o13), .val (.ref o14), .val (.double d15), .second, .val (.double d17), .second, .val (.int (1 : Int32)), .val (.int i20), .unset] [])) _
  refine XS.iconst X0.here hx rfl (hb hby at_308) ?_
  show Steps p.tables e below (T0.setTop (mkF m 309 #[.val (.long j0), .second, .val (.long j2), .second, .val (.long j4), .second, .val (.int i6), .val (.long j7), .second, .val (.long j9), .second, .val (.long j11), .second, .val (.ref o13), .val (.ref o14), .val (.double d15), .second, .val (.double d17), .second, .val (.int (1 : Int32)), .val (.int i20), .unset] [(.int (1 : Int32))])) _
  refine XS.goto X0.here hx rfl (pc0 := 309) (pc' := 313) rfl (hb hby at_309) (by decide) (by decide) ?_
  show Steps p.tables e below (T0.setTop (mkF m 313 #[.val (.long j0), .second, .val (.long j2), .second, .val (.long j4), .second, .val (.int i6), .val (.long j7), .second, .val (.long j9), .second, .val (.long j11), .second, .val (.ref o13), .val (.ref o14), .val (.double d15), .second, .val (.double d17), .second, .val (.int (1 : Int32)), .val (.int i20), .unset] [(.int (1 : Int32))])) _
  refine XS.istore X0.here hx rfl (hb hby at_313) rfl (l' := #[.val (.long j0), .second, .val (.long j2), .second, .val (.long j4), .second, .val (.int i6), .val (.long j7), .second, .val (.long j9), .second, .val (.long j11), .second, .val (.ref o13), .val (.ref o14), .val (.double d15), .second, .val (.double d17), .second, .val (.int (1 : Int32)), .val (.int i20), .unset]) rfl ?_
  show Steps p.tables e below (T0.setTop (mkF m 315 #[.val (.long j0), .second, .val (.long j2), .second, .val (.long j4), .second, .val (.int i6), .val (.long j7), .second, .val (.long j9), .second, .val (.long j11), .second, .val (.ref o13), .val (.ref o14), .val (.double d15), .second, .val (.double d17), .second, .val (.int (1 : Int32)), .val (.int i20), .unset] [])) _
  refine XS.lload X0.here hx rfl (hb hby at_315) rfl ?_
  show Steps p.tables e below (T0.setTop (mkF m 317 #[.val (.long j0), .second, .val (.long j2), .second, .val (.long j4), .second, .val (.int i6), .val (.long j7), .second, .val (.long j9), .second, .val (.long j11), .second, .val (.ref o13), .val (.ref o14), .val (.double d15), .second, .val (.double d17), .second, .val (.int (1 : Int32)), .val (.int i20), .unset] [(.long j7)])) _
  refine XS.lconst X0.here hx rfl (hb hby at_317) ?_
  show Steps p.tables e below (T0.setTop (mkF m 318 #[.val (.long j0), .second, .val (.long j2), .second, .val (.long j4), .second, .val (.int i6), .val (.long j7), .second, .val (.long j9), .second, .val (.long j11), .second, .val (.ref o13), .val (.ref o14), .val (.double d15), .second, .val (.double d17), .second, .val (.int (1 : Int32)), .val (.int i20), .unset] [(.long (1 : Int64)), (.long j7)])) _
  refine XS.land X0.here hx rfl (hb hby at_318) rfl ?_
  show Steps p.tables e below (T0.setTop (mkF m 319 #[.val (.long j0), .second, .val (.long j2), .second, .val (.long j4), .second, .val (.int i6), .val (.long j7), .second, .val (.long j9), .second, .val (.long j11), .second, .val (.ref o13), .val (.ref o14), .val (.double d15), .second, .val (.double d17), .second, .val (.int (1 : Int32)), .val (.int i20), .unset] [(.long (j7 &&& (1 : Int64)))])) _
  refine XS.lconst X0.here hx rfl (hb hby at_319) ?_
  show Steps p.tables e below (T0.setTop (mkF m 320 #[.val (.long j0), .second, .val (.long j2), .second, .val (.long j4), .second, .val (.int i6), .val (.long j7), .second, .val (.long j9), .second, .val (.long j11), .second, .val (.ref o13), .val (.ref o14), .val (.double d15), .second, .val (.double d17), .second, .val (.int (1 : Int32)), .val (.int i20), .unset] [(.long (0 : Int64)), (.long (j7 &&& (1 : Int64)))])) _
  refine XS.lcmp X0.here hx rfl (hb hby at_320) rfl ?_
  show Steps p.tables e below (T0.setTop (mkF m 321 #[.val (.long j0), .second, .val (.long j2), .second, .val (.long j4), .second, .val (.int i6), .val (.long j7), .second, .val (.long j9), .second, .val (.long j11), .second, .val (.ref o13), .val (.ref o14), .val (.double d15), .second, .val (.double d17), .second, .val (.int (1 : Int32)), .val (.int i20), .unset] [(.int (lcmpW (j7 &&& (1 : Int64)) (0 : Int64)))])) _
  refine XS.ifNo X0.here hx rfl (hb hby at_321) rfl ((if0 _ _).trans (teq hc321).2) ?_
  show Steps p.tables e below (T0.setTop (mkF m 324 #[.val (.long j0), .second, .val (.long j2), .second, .val (.long j4), .second, .val (.int i6), .val (.long j7), .second, .val (.long j9), .second, .val (.long j11), .second, .val (.ref o13), .val (.ref o14), .val (.double d15), .second, .val (.double d17), .second, .val (.int (1 : Int32)), .val (.int i20), .unset] [])) _
  refine XS.lload X0.here hx rfl (hb hby at_324) rfl ?_
  show Steps p.tables e below (T0.setTop (mkF m 326 #[.val (.long j0), .second, .val (.long j2), .second, .val (.long j4), .second, .val (.int i6), .val (.long j7), .second, .val (.long j9), .second, .val (.long j11), .second, .val (.ref o13), .val (.ref o14), .val (.double d15), .second, .val (.double d17), .second, .val (.int (1 : Int32)), .val (.int i20), .unset] [(.long j9)])) _
  refine XS.lload X0.here hx rfl (hb hby at_326) rfl ?_
  show Steps p.tables e below (T0.setTop (mkF m 328 #[.val (.long j0), .second, .val (.long j2), .second, .val (.long j4), .second, .val (.int i6), .val (.long j7), .second, .val (.long j9), .second, .val (.long j11), .second, .val (.ref o13), .val (.ref o14), .val (.double d15), .second, .val (.double d17), .second, .val (.int (1 : Int32)), .val (.int i20), .unset] [(.long j7), (.long j9)])) _
  refine X0.ldc2Long hx hown (mvT hZ (hw _ (List.mem_of_getElem? (i := 39) rfl))) (g := (mkF m 328 #[.val (.long j0), .second, .val (.long j2), .second, .val (.long j4), .second, .val (.int i6), .val (.long j7), .second, .val (.long j9), .second, .val (.long j11), .second, .val (.ref o13), .val (.ref o14), .val (.double d15), .second, .val (.double d17), .second, .val (.int (1 : Int32)), .val (.int i20), .unset] [(.long j7), (.long j9)])) rfl (hb hby at_328) _ ?_
  show Steps p.tables e below (T0.setTop (mkF m 331 #[.val (.long j0), .second, .val (.long j2), .second, .val (.long j4), .second, .val (.int i6), .val (.long j7), .second, .val (.long j9), .second, .val (.long j11), .second, .val (.ref o13), .val (.ref o14), .val (.double d15), .second, .val (.double d17), .second, .val (.int (1 : Int32)), .val (.int i20), .unset] [(.long (2 : Int64)), (.long j7), (.long j9)])) _
  refine XS.ldiv X0.here hx rfl (hb hby at_331) rfl (by decide) ?_
  show Steps p.tables e below (T0.setTop (mkF m 332 #[.val (.long j0), .second, .val (.long j2), .second, .val (.long j4), .second, .val (.int i6), .val (.long j7), .second, .val (.long j9), .second, .val (.long j11), .second, .val (.ref o13), .val (.ref o14), .val (.double d15), .second, .val (.double d17), .second, .val (.int (1 : Int32)), .val (.int i20), .unset] [(.long (j7 / (2 : Int64))), (.long j9)])) _
  refine XS.lcmp X0.here hx rfl (hb hby at_332) rfl ?_
  show Steps p.tables e below (T0.setTop (mkF m 333 #[.val (.long j0), .second, .val (.long j2), .second, .val (.long j4), .second, .val (.int i6), .val (.long j7), .second, .val (.long j9), .second, .val (.long j11), .second, .val (.ref o13), .val (.ref o14), .val (.double d15), .second, .val (.double d17), .second, .val (.int (1 : Int32)), .val (.int i20), .unset] [(.int (lcmpW j9 (j7 / (2 : Int64))))])) _
  refine XS.ifYes X0.here hx rfl (pc0 := 333) (pc' := 357) rfl (hb hby at_333) rfl ((if0 _ _).trans (feq hc333).2) (by decide) (by decide) ?_
  exact kt
set_option maxRecDepth 65536 in
set_option maxHeartbeats 40000000 in
theorem tn0_263_357_ffffffffff_sgI {p : Program} {l : Launch} {e : Env} {R : Room} {s : State} {m : MethodId} {args : Array Value} {below : List Frame} {meth : Method} {c : Code} {T0 : State} {locs : List Loc} {cells slots : Nat} {Z : State} {a0 : Array Value} {h0 : Heap} (j0 : Int64) (j2 : Int64) (j4 : Int64) (i6 : Int32) (j7 : Int64) (j9 : Int64) (j11 : Int64) (o13 : Addr) (o14 : Addr) (d15 : UInt64) (d17 : UInt64) (i20 : Int32)
    (X0 : Stand p l e R s m args below meth c T0 locs cells slots) (hx : p.tables.exec = Jvm.exec) (hZ : Z.Warmed39 s.vm) (hw : ∀ d ∈ tables_1, d.before a0 Z = true) (hby : c.code = code) (hml : c.maxLocals = 22) (hown : s.vm.findClass "com/example/bits_for_sets/bitsforsets/tool/ReplayCountsFalsePositiveRatePinLaw" = some m.cls) (e0 : T0.heap = h0) (hc267 : (0 : Int32) < (lcmpW j7 (0 : Int64))) (hc272 : ¬ (i20 = (0 : Int32))) (hc277 : ¬ ((1 : Int32) = (0 : Int32))) (hc284 : (cmpValue (FP.dcmp d15 FP.dconst1) .l) = (0 : Int32)) (hc297 : (lcmpW j9 j7) = (0 : Int32)) (hc321 : (lcmpW (j7 &&& (1 : Int64)) (0 : Int64)) = (0 : Int32)) (hc333 : (lcmpW j9 (j7 / (2 : Int64))) = (0 : Int32)) (hc338 : ¬ ((1 : Int32) = (0 : Int32))) (hc347 : (cmpValue (FP.dcmp d15 (4602678819172646912 : UInt64)) .l) = (0 : Int32)) :
    ∃ (T' : State), Stand p l e R s m args below meth c T' locs cells slots ∧ T'.heap = h0 ∧
      ∀ target, Steps p.tables e below (T'.setTop (mkF m 357 #[.val (.long j0), .second, .val (.long j2), .second, .val (.long j4), .second, .val (.int i6), .val (.long j7), .second, .val (.long j9), .second, .val (.long j11), .second, .val (.ref o13), .val (.ref o14), .val (.double d15), .second, .val (.double d17), .second, .val (.int (1 : Int32)), .val (.int i20), .unset] [])) target → Steps p.tables e below (T0.setTop (mkF m 263 #[.val (.long j0), .second, .val (.long j2), .second, .val (.long j4), .second, .val (.int i6), .val (.long j7), .second, .val (.long j9), .second, .val (.long j11), .second, .val (.ref o13), .val (.ref o14), .val (.double d15), .second, .val (.double d17), .second, .val (.int (1 : Int32)), .val (.int i20), .unset] [])) target := by
  refine ⟨T0, X0, e0, fun target kt => ?_⟩
  show Steps p.tables e below (T0.setTop (mkF m 263 #[.val (.long j0), .second, .val (.long j2), .second, .val (.long j4), .second, .val (.int i6), .val (.long j7), .second, .val (.long j9), .second, .val (.long j11), .second, .val (.ref o13), .val (.ref o14), .val (.double d15), .second, .val (.double d17), .second, .val (.int (1 : Int32)), .val (.int i20), .unset] [])) _
  refine XS.lload X0.here hx rfl (hb hby at_263) rfl ?_
  show Steps p.tables e below (T0.setTop (mkF m 265 #[.val (.long j0), .second, .val (.long j2), .second, .val (.long j4), .second, .val (.int i6), .val (.long j7), .second, .val (.long j9), .second, .val (.long j11), .second, .val (.ref o13), .val (.ref o14), .val (.double d15), .second, .val (.double d17), .second, .val (.int (1 : Int32)), .val (.int i20), .unset] [(.long j7)])) _
  refine XS.lconst X0.here hx rfl (hb hby at_265) ?_
  show Steps p.tables e below (T0.setTop (mkF m 266 #[.val (.long j0), .second, .val (.long j2), .second, .val (.long j4), .second, .val (.int i6), .val (.long j7), .second, .val (.long j9), .second, .val (.long j11), .second, .val (.ref o13), .val (.ref o14), .val (.double d15), .second, .val (.double d17), .second, .val (.int (1 : Int32)), .val (.int i20), .unset] [(.long (0 : Int64)), (.long j7)])) _
  refine XS.lcmp X0.here hx rfl (hb hby at_266) rfl ?_
  show Steps p.tables e below (T0.setTop (mkF m 267 #[.val (.long j0), .second, .val (.long j2), .second, .val (.long j4), .second, .val (.int i6), .val (.long j7), .second, .val (.long j9), .second, .val (.long j11), .second, .val (.ref o13), .val (.ref o14), .val (.double d15), .second, .val (.double d17), .second, .val (.int (1 : Int32)), .val (.int i20), .unset] [(.int (lcmpW j7 (0 : Int64)))])) _
  refine XS.ifNo X0.here hx rfl (hb hby at_267) rfl ((if0 _ _).trans (tlt hc267).2.2.2) ?_
  show Steps p.tables e below (T0.setTop (mkF m 270 #[.val (.long j0), .second, .val (.long j2), .second, .val (.long j4), .second, .val (.int i6), .val (.long j7), .second, .val (.long j9), .second, .val (.long j11), .second, .val (.ref o13), .val (.ref o14), .val (.double d15), .second, .val (.double d17), .second, .val (.int (1 : Int32)), .val (.int i20), .unset] [])) _
  refine XS.iload X0.here hx rfl (hb hby at_270) rfl ?_
  show Steps p.tables e below (T0.setTop (mkF m 272 #[.val (.long j0), .second, .val (.long j2), .second, .val (.long j4), .second, .val (.int i6), .val (.long j7), .second, .val (.long j9), .second, .val (.long j11), .second, .val (.ref o13), .val (.ref o14), .val (.double d15), .second, .val (.double d17), .second, .val (.int (1 : Int32)), .val (.int i20), .unset] [(.int i20)])) _
  refine XS.ifNo X0.here hx rfl (hb hby at_272) rfl ((if0 _ _).trans (feq hc272).1) ?_
  show Steps p.tables e below (T0.setTop (mkF m 275 #[.val (.long j0), .second, .val (.long j2), .second, .val (.long j4), .second, .val (.int i6), .val (.long j7), .second, .val (.long j9), .second, .val (.long j11), .second, .val (.ref o13), .val (.ref o14), .val (.double d15), .second, .val (.double d17), .second, .val (.int (1 : Int32)), .val (.int i20), .unset] [])) _
  refine XS.iload X0.here hx rfl (hb hby at_275) rfl ?_
  show Steps p.tables e below (T0.setTop (mkF m 277 #[.val (.long j0), .second, .val (.long j2), .second, .val (.long j4), .second, .val (.int i6), .val (.long j7), .second, .val (.long j9), .second, .val (.long j11), .second, .val (.ref o13), .val (.ref o14), .val (.double d15), .second, .val (.double d17), .second, .val (.int (1 : Int32)), .val (.int i20), .unset] [(.int (1 : Int32))])) _
  refine XS.ifNo X0.here hx rfl (hb hby at_277) rfl ((if0 _ _).trans (feq hc277).1) ?_
  show Steps p.tables e below (T0.setTop (mkF m 280 #[.val (.long j0), .second, .val (.long j2), .second, .val (.long j4), .second, .val (.int i6), .val (.long j7), .second, .val (.long j9), .second, .val (.long j11), .second, .val (.ref o13), .val (.ref o14), .val (.double d15), .second, .val (.double d17), .second, .val (.int (1 : Int32)), .val (.int i20), .unset] [])) _
  refine XS.dload X0.here hx rfl (hb hby at_280) rfl ?_
  show Steps p.tables e below (T0.setTop (mkF m 282 #[.val (.long j0), .second, .val (.long j2), .second, .val (.long j4), .second, .val (.int i6), .val (.long j7), .second, .val (.long j9), .second, .val (.long j11), .second, .val (.ref o13), .val (.ref o14), .val (.double d15), .second, .val (.double d17), .second, .val (.int (1 : Int32)), .val (.int i20), .unset] [(.double d15)])) _
  refine XS.dconst1 X0.here hx rfl (hb hby at_282) rfl ?_
  show Steps p.tables e below (T0.setTop (mkF m 283 #[.val (.long j0), .second, .val (.long j2), .second, .val (.long j4), .second, .val (.int i6), .val (.long j7), .second, .val (.long j9), .second, .val (.long j11), .second, .val (.ref o13), .val (.ref o14), .val (.double d15), .second, .val (.double d17), .second, .val (.int (1 : Int32)), .val (.int i20), .unset] [(.double FP.dconst1), (.double d15)])) _
  refine XS.dcmpS X0.here hx rfl (hb hby at_283) rfl rfl ?_
  show Steps p.tables e below (T0.setTop (mkF m 284 #[.val (.long j0), .second, .val (.long j2), .second, .val (.long j4), .second, .val (.int i6), .val (.long j7), .second, .val (.long j9), .second, .val (.long j11), .second, .val (.ref o13), .val (.ref o14), .val (.double d15), .second, .val (.double d17), .second, .val (.int (1 : Int32)), .val (.int i20), .unset] [(.int (cmpValue (FP.dcmp d15 FP.dconst1) .l))])) _
  refine XS.ifNo X0.here hx rfl (hb hby at_284) rfl ((if0 _ _).trans (teq hc284).2) ?_
  show Steps p.tables e below (T0.setTop (mkF m 287 #[.val (.long j0), .second, .val (.long j2), .second, .val (.long j4), .second, .val (.int i6), .val (.long j7), .second, .val (.long j9), .second, .val (.long j11), .second, .val (.ref o13), .val (.ref o14), .val (.double d15), .second, .val (.double d17), .second, .val (.int (1 : Int32)), .val (.int i20), .unset] [])) _
  refine XS.iconst X0.here hx rfl (hb hby at_287) ?_
  show Steps p.tables e below (T0.setTop (mkF m 288 #[.val (.long j0), .second, .val (.long j2), .second, .val (.long j4), .second, .val (.int i6), .val (.long j7), .second, .val (.long j9), .second, .val (.long j11), .second, .val (.ref o13), .val (.ref o14), .val (.double d15), .second, .val (.double d17), .second, .val (.int (1 : Int32)), .val (.int i20), .unset] [(.int (1 : Int32))])) _
  refine XS.goto X0.here hx rfl (pc0 := 288) (pc' := 292) rfl (hb hby at_288) (by decide) (by decide) ?_
  show Steps p.tables e below (T0.setTop (mkF m 292 #[.val (.long j0), .second, .val (.long j2), .second, .val (.long j4), .second, .val (.int i6), .val (.long j7), .second, .val (.long j9), .second, .val (.long j11), .second, .val (.ref o13), .val (.ref o14), .val (.double d15), .second, .val (.double d17), .second, .val (.int (1 : Int32)), .val (.int i20), .unset] [(.int (1 : Int32))])) _
  refine XS.lload X0.here hx rfl (hb hby at_292) rfl ?_
  show Steps p.tables e below (T0.setTop (mkF m 294 #[.val (.long j0), .second, .val (.long j2), .second, .val (.long j4), .second, .val (.int i6), .val (.long j7), .second, .val (.long j9), .second, .val (.long j11), .second, .val (.ref o13), .val (.ref o14), .val (.double d15), .second, .val (.double d17), .second, .val (.int (1 : Int32)), .val (.int i20), .unset] [(.long j9), (.int (1 : Int32))])) _
  refine XS.lload X0.here hx rfl (hb hby at_294) rfl ?_
  show Steps p.tables e below (T0.setTop (mkF m 296 #[.val (.long j0), .second, .val (.long j2), .second, .val (.long j4), .second, .val (.int i6), .val (.long j7), .second, .val (.long j9), .second, .val (.long j11), .second, .val (.ref o13), .val (.ref o14), .val (.double d15), .second, .val (.double d17), .second, .val (.int (1 : Int32)), .val (.int i20), .unset] [(.long j7), (.long j9), (.int (1 : Int32))])) _
  refine XS.lcmp X0.here hx rfl (hb hby at_296) rfl ?_
  show Steps p.tables e below (T0.setTop (mkF m 297 #[.val (.long j0), .second, .val (.long j2), .second, .val (.long j4), .second, .val (.int i6), .val (.long j7), .second, .val (.long j9), .second, .val (.long j11), .second, .val (.ref o13), .val (.ref o14), .val (.double d15), .second, .val (.double d17), .second, .val (.int (1 : Int32)), .val (.int i20), .unset] [(.int (lcmpW j9 j7)), (.int (1 : Int32))])) _
  refine XS.ifNo X0.here hx rfl (hb hby at_297) rfl ((if0 _ _).trans (teq hc297).2) ?_
  show Steps p.tables e below (T0.setTop (mkF m 300 #[.val (.long j0), .second, .val (.long j2), .second, .val (.long j4), .second, .val (.int i6), .val (.long j7), .second, .val (.long j9), .second, .val (.long j11), .second, .val (.ref o13), .val (.ref o14), .val (.double d15), .second, .val (.double d17), .second, .val (.int (1 : Int32)), .val (.int i20), .unset] [(.int (1 : Int32))])) _
  refine XS.iconst X0.here hx rfl (hb hby at_300) ?_
  show Steps p.tables e below (T0.setTop (mkF m 301 #[.val (.long j0), .second, .val (.long j2), .second, .val (.long j4), .second, .val (.int i6), .val (.long j7), .second, .val (.long j9), .second, .val (.long j11), .second, .val (.ref o13), .val (.ref o14), .val (.double d15), .second, .val (.double d17), .second, .val (.int (1 : Int32)), .val (.int i20), .unset] [(.int (1 : Int32)), (.int (1 : Int32))])) _
  refine XS.goto X0.here hx rfl (pc0 := 301) (pc' := 305) rfl (hb hby at_301) (by decide) (by decide) ?_
  show Steps p.tables e below (T0.setTop (mkF m 305 #[.val (.long j0), .second, .val (.long j2), .second, .val (.long j4), .second, .val (.int i6), .val (.long j7), .second, .val (.long j9), .second, .val (.long j11), .second, .val (.ref o13), .val (.ref o14), .val (.double d15), .second, .val (.double d17), .second, .val (.int (1 : Int32)), .val (.int i20), .unset] [(.int (1 : Int32)), (.int (1 : Int32))])) _
  refine XS.icmpNo X0.here hx rfl (hb hby at_305) rfl (teq (rfl : (1 : Int32) = (1 : Int32))).2 ?_
  show Steps p.tables e below (T0.setTop (mkF m 308 #[.val (.long j0), .second, .val (.long j2), .second, .val (.long j4), .second, .val (.int i6), .val (.long j7), .second, .val (.long j9), .second, .val (.long j11), .second, .val (.ref o13), .val (.ref o14), .val (.double d15), .second, .val (.double d17), .second, .val (.int (1 : Int32)), .val (.int i20), .unset] [])) _
  refine XS.iconst X0.here hx rfl (hb hby at_308) ?_
  show Steps p.tables e below (T0.setTop (mkF m 309 #[.val (.long j0), .second, .val (.long j2), .second, .val (.long j4), .second, .val (.int i6), .val (.long j7), .second, .val (.long j9), .second, .val (.long j11), .second, .val (.ref o13), .val (.ref o14), .val (.double d15), .second, .val (.double d17), .second, .val (.int (1 : Int32)), .val (.int i20), .unset] [(.int (1 : Int32))])) _
  refine XS.goto X0.here hx rfl (pc0 := 309) (pc' := 313) rfl (hb hby at_309) (by decide) (by decide) ?_
  show Steps p.tables e below (T0.setTop (mkF m 313 #[.val (.long j0), .second, .val (.long j2), .second, .val (.long j4), .second, .val (.int i6), .val (.long j7), .second, .val (.long j9), .second, .val (.long j11), .second, .val (.ref o13), .val (.ref o14), .val (.double d15), .second, .val (.double d17), .second, .val (.int (1 : Int32)), .val (.int i20), .unset] [(.int (1 : Int32))])) _
  refine XS.istore X0.here hx rfl (hb hby at_313) rfl (l' := #[.val (.long j0), .second, .val (.long j2), .second, .val (.long j4), .second, .val (.int i6), .val (.long j7), .second, .val (.long j9), .second, .val (.long j11), .second, .val (.ref o13), .val (.ref o14), .val (.double d15), .second, .val (.double d17), .second, .val (.int (1 : Int32)), .val (.int i20), .unset]) rfl ?_
  show Steps p.tables e below (T0.setTop (mkF m 315 #[.val (.long j0), .second, .val (.long j2), .second, .val (.long j4), .second, .val (.int i6), .val (.long j7), .second, .val (.long j9), .second, .val (.long j11), .second, .val (.ref o13), .val (.ref o14), .val (.double d15), .second, .val (.double d17), .second, .val (.int (1 : Int32)), .val (.int i20), .unset] [])) _
  refine XS.lload X0.here hx rfl (hb hby at_315) rfl ?_
  show Steps p.tables e below (T0.setTop (mkF m 317 #[.val (.long j0), .second, .val (.long j2), .second, .val (.long j4), .second, .val (.int i6), .val (.long j7), .second, .val (.long j9), .second, .val (.long j11), .second, .val (.ref o13), .val (.ref o14), .val (.double d15), .second, .val (.double d17), .second, .val (.int (1 : Int32)), .val (.int i20), .unset] [(.long j7)])) _
  refine XS.lconst X0.here hx rfl (hb hby at_317) ?_
  show Steps p.tables e below (T0.setTop (mkF m 318 #[.val (.long j0), .second, .val (.long j2), .second, .val (.long j4), .second, .val (.int i6), .val (.long j7), .second, .val (.long j9), .second, .val (.long j11), .second, .val (.ref o13), .val (.ref o14), .val (.double d15), .second, .val (.double d17), .second, .val (.int (1 : Int32)), .val (.int i20), .unset] [(.long (1 : Int64)), (.long j7)])) _
  refine XS.land X0.here hx rfl (hb hby at_318) rfl ?_
  show Steps p.tables e below (T0.setTop (mkF m 319 #[.val (.long j0), .second, .val (.long j2), .second, .val (.long j4), .second, .val (.int i6), .val (.long j7), .second, .val (.long j9), .second, .val (.long j11), .second, .val (.ref o13), .val (.ref o14), .val (.double d15), .second, .val (.double d17), .second, .val (.int (1 : Int32)), .val (.int i20), .unset] [(.long (j7 &&& (1 : Int64)))])) _
  refine XS.lconst X0.here hx rfl (hb hby at_319) ?_
  show Steps p.tables e below (T0.setTop (mkF m 320 #[.val (.long j0), .second, .val (.long j2), .second, .val (.long j4), .second, .val (.int i6), .val (.long j7), .second, .val (.long j9), .second, .val (.long j11), .second, .val (.ref o13), .val (.ref o14), .val (.double d15), .second, .val (.double d17), .second, .val (.int (1 : Int32)), .val (.int i20), .unset] [(.long (0 : Int64)), (.long (j7 &&& (1 : Int64)))])) _
  refine XS.lcmp X0.here hx rfl (hb hby at_320) rfl ?_
  show Steps p.tables e below (T0.setTop (mkF m 321 #[.val (.long j0), .second, .val (.long j2), .second, .val (.long j4), .second, .val (.int i6), .val (.long j7), .second, .val (.long j9), .second, .val (.long j11), .second, .val (.ref o13), .val (.ref o14), .val (.double d15), .second, .val (.double d17), .second, .val (.int (1 : Int32)), .val (.int i20), .unset] [(.int (lcmpW (j7 &&& (1 : Int64)) (0 : Int64)))])) _
  refine XS.ifNo X0.here hx rfl (hb hby at_321) rfl ((if0 _ _).trans (teq hc321).2) ?_
  show Steps p.tables e below (T0.setTop (mkF m 324 #[.val (.long j0), .second, .val (.long j2), .second, .val (.long j4), .second, .val (.int i6), .val (.long j7), .second, .val (.long j9), .second, .val (.long j11), .second, .val (.ref o13), .val (.ref o14), .val (.double d15), .second, .val (.double d17), .second, .val (.int (1 : Int32)), .val (.int i20), .unset] [])) _
  refine XS.lload X0.here hx rfl (hb hby at_324) rfl ?_
  show Steps p.tables e below (T0.setTop (mkF m 326 #[.val (.long j0), .second, .val (.long j2), .second, .val (.long j4), .second, .val (.int i6), .val (.long j7), .second, .val (.long j9), .second, .val (.long j11), .second, .val (.ref o13), .val (.ref o14), .val (.double d15), .second, .val (.double d17), .second, .val (.int (1 : Int32)), .val (.int i20), .unset] [(.long j9)])) _
  refine XS.lload X0.here hx rfl (hb hby at_326) rfl ?_
  show Steps p.tables e below (T0.setTop (mkF m 328 #[.val (.long j0), .second, .val (.long j2), .second, .val (.long j4), .second, .val (.int i6), .val (.long j7), .second, .val (.long j9), .second, .val (.long j11), .second, .val (.ref o13), .val (.ref o14), .val (.double d15), .second, .val (.double d17), .second, .val (.int (1 : Int32)), .val (.int i20), .unset] [(.long j7), (.long j9)])) _
  refine X0.ldc2Long hx hown (mvT hZ (hw _ (List.mem_of_getElem? (i := 39) rfl))) (g := (mkF m 328 #[.val (.long j0), .second, .val (.long j2), .second, .val (.long j4), .second, .val (.int i6), .val (.long j7), .second, .val (.long j9), .second, .val (.long j11), .second, .val (.ref o13), .val (.ref o14), .val (.double d15), .second, .val (.double d17), .second, .val (.int (1 : Int32)), .val (.int i20), .unset] [(.long j7), (.long j9)])) rfl (hb hby at_328) _ ?_
  show Steps p.tables e below (T0.setTop (mkF m 331 #[.val (.long j0), .second, .val (.long j2), .second, .val (.long j4), .second, .val (.int i6), .val (.long j7), .second, .val (.long j9), .second, .val (.long j11), .second, .val (.ref o13), .val (.ref o14), .val (.double d15), .second, .val (.double d17), .second, .val (.int (1 : Int32)), .val (.int i20), .unset] [(.long (2 : Int64)), (.long j7), (.long j9)])) _
  refine XS.ldiv X0.here hx rfl (hb hby at_331) rfl (by decide) ?_
  show Steps p.tables e below (T0.setTop (mkF m 332 #[.val (.long j0), .second, .val (.long j2), .second, .val (.long j4), .second, .val (.int i6), .val (.long j7), .second, .val (.long j9), .second, .val (.long j11), .second, .val (.ref o13), .val (.ref o14), .val (.double d15), .second, .val (.double d17), .second, .val (.int (1 : Int32)), .val (.int i20), .unset] [(.long (j7 / (2 : Int64))), (.long j9)])) _
  refine XS.lcmp X0.here hx rfl (hb hby at_332) rfl ?_
  show Steps p.tables e below (T0.setTop (mkF m 333 #[.val (.long j0), .second, .val (.long j2), .second, .val (.long j4), .second, .val (.int i6), .val (.long j7), .second, .val (.long j9), .second, .val (.long j11), .second, .val (.ref o13), .val (.ref o14), .val (.double d15), .second, .val (.double d17), .second, .val (.int (1 : Int32)), .val (.int i20), .unset] [(.int (lcmpW j9 (j7 / (2 : Int64))))])) _
  refine XS.ifNo X0.here hx rfl (hb hby at_333) rfl ((if0 _ _).trans (teq hc333).2) ?_
  show Steps p.tables e below (T0.setTop (mkF m 336 #[.val (.long j0), .second, .val (.long j2), .second, .val (.long j4), .second, .val (.int i6), .val (.long j7), .second, .val (.long j9), .second, .val (.long j11), .second, .val (.ref o13), .val (.ref o14), .val (.double d15), .second, .val (.double d17), .second, .val (.int (1 : Int32)), .val (.int i20), .unset] [])) _
  refine XS.iload X0.here hx rfl (hb hby at_336) rfl ?_
  show Steps p.tables e below (T0.setTop (mkF m 338 #[.val (.long j0), .second, .val (.long j2), .second, .val (.long j4), .second, .val (.int i6), .val (.long j7), .second, .val (.long j9), .second, .val (.long j11), .second, .val (.ref o13), .val (.ref o14), .val (.double d15), .second, .val (.double d17), .second, .val (.int (1 : Int32)), .val (.int i20), .unset] [(.int (1 : Int32))])) _
  refine XS.ifNo X0.here hx rfl (hb hby at_338) rfl ((if0 _ _).trans (feq hc338).1) ?_
  show Steps p.tables e below (T0.setTop (mkF m 341 #[.val (.long j0), .second, .val (.long j2), .second, .val (.long j4), .second, .val (.int i6), .val (.long j7), .second, .val (.long j9), .second, .val (.long j11), .second, .val (.ref o13), .val (.ref o14), .val (.double d15), .second, .val (.double d17), .second, .val (.int (1 : Int32)), .val (.int i20), .unset] [])) _
  refine XS.dload X0.here hx rfl (hb hby at_341) rfl ?_
  show Steps p.tables e below (T0.setTop (mkF m 343 #[.val (.long j0), .second, .val (.long j2), .second, .val (.long j4), .second, .val (.int i6), .val (.long j7), .second, .val (.long j9), .second, .val (.long j11), .second, .val (.ref o13), .val (.ref o14), .val (.double d15), .second, .val (.double d17), .second, .val (.int (1 : Int32)), .val (.int i20), .unset] [(.double d15)])) _
  refine X0.ldc2DoubleC hx hown (mvT hZ (hw _ (List.mem_of_getElem? (i := 41) rfl))) (g := (mkF m 343 #[.val (.long j0), .second, .val (.long j2), .second, .val (.long j4), .second, .val (.int i6), .val (.long j7), .second, .val (.long j9), .second, .val (.long j11), .second, .val (.ref o13), .val (.ref o14), .val (.double d15), .second, .val (.double d17), .second, .val (.int (1 : Int32)), .val (.int i20), .unset] [(.double d15)])) rfl (hb hby at_343) _ ?_
  show Steps p.tables e below (T0.setTop (mkF m 346 #[.val (.long j0), .second, .val (.long j2), .second, .val (.long j4), .second, .val (.int i6), .val (.long j7), .second, .val (.long j9), .second, .val (.long j11), .second, .val (.ref o13), .val (.ref o14), .val (.double d15), .second, .val (.double d17), .second, .val (.int (1 : Int32)), .val (.int i20), .unset] [(.double (4602678819172646912 : UInt64)), (.double d15)])) _
  refine XS.dcmpS X0.here hx rfl (hb hby at_346) rfl rfl ?_
  show Steps p.tables e below (T0.setTop (mkF m 347 #[.val (.long j0), .second, .val (.long j2), .second, .val (.long j4), .second, .val (.int i6), .val (.long j7), .second, .val (.long j9), .second, .val (.long j11), .second, .val (.ref o13), .val (.ref o14), .val (.double d15), .second, .val (.double d17), .second, .val (.int (1 : Int32)), .val (.int i20), .unset] [(.int (cmpValue (FP.dcmp d15 (4602678819172646912 : UInt64)) .l))])) _
  refine XS.ifNo X0.here hx rfl (hb hby at_347) rfl ((if0 _ _).trans (teq hc347).2) ?_
  show Steps p.tables e below (T0.setTop (mkF m 350 #[.val (.long j0), .second, .val (.long j2), .second, .val (.long j4), .second, .val (.int i6), .val (.long j7), .second, .val (.long j9), .second, .val (.long j11), .second, .val (.ref o13), .val (.ref o14), .val (.double d15), .second, .val (.double d17), .second, .val (.int (1 : Int32)), .val (.int i20), .unset] [])) _
  refine XS.iconst X0.here hx rfl (hb hby at_350) ?_
  show Steps p.tables e below (T0.setTop (mkF m 351 #[.val (.long j0), .second, .val (.long j2), .second, .val (.long j4), .second, .val (.int i6), .val (.long j7), .second, .val (.long j9), .second, .val (.long j11), .second, .val (.ref o13), .val (.ref o14), .val (.double d15), .second, .val (.double d17), .second, .val (.int (1 : Int32)), .val (.int i20), .unset] [(.int (1 : Int32))])) _
  refine XS.goto X0.here hx rfl (pc0 := 351) (pc' := 355) rfl (hb hby at_351) (by decide) (by decide) ?_
  show Steps p.tables e below (T0.setTop (mkF m 355 #[.val (.long j0), .second, .val (.long j2), .second, .val (.long j4), .second, .val (.int i6), .val (.long j7), .second, .val (.long j9), .second, .val (.long j11), .second, .val (.ref o13), .val (.ref o14), .val (.double d15), .second, .val (.double d17), .second, .val (.int (1 : Int32)), .val (.int i20), .unset] [(.int (1 : Int32))])) _
  refine XS.istore X0.here hx rfl (hb hby at_355) rfl (l' := #[.val (.long j0), .second, .val (.long j2), .second, .val (.long j4), .second, .val (.int i6), .val (.long j7), .second, .val (.long j9), .second, .val (.long j11), .second, .val (.ref o13), .val (.ref o14), .val (.double d15), .second, .val (.double d17), .second, .val (.int (1 : Int32)), .val (.int i20), .unset]) rfl ?_
  exact kt
set_option maxRecDepth 65536 in
set_option maxHeartbeats 40000000 in
theorem tn0_263_357_fffttft_sgI {p : Program} {l : Launch} {e : Env} {R : Room} {s : State} {m : MethodId} {args : Array Value} {below : List Frame} {meth : Method} {c : Code} {T0 : State} {locs : List Loc} {cells slots : Nat} {Z : State} {a0 : Array Value} {h0 : Heap} (j0 : Int64) (j2 : Int64) (j4 : Int64) (i6 : Int32) (j7 : Int64) (j9 : Int64) (j11 : Int64) (o13 : Addr) (o14 : Addr) (d15 : UInt64) (d17 : UInt64) (i20 : Int32)
    (X0 : Stand p l e R s m args below meth c T0 locs cells slots) (hx : p.tables.exec = Jvm.exec) (hZ : Z.Warmed39 s.vm) (hw : ∀ d ∈ tables_1, d.before a0 Z = true) (hby : c.code = code) (hml : c.maxLocals = 22) (hown : s.vm.findClass "com/example/bits_for_sets/bitsforsets/tool/ReplayCountsFalsePositiveRatePinLaw" = some m.cls) (e0 : T0.heap = h0) (hc267 : (0 : Int32) < (lcmpW j7 (0 : Int64))) (hc272 : ¬ (i20 = (0 : Int32))) (hc277 : ¬ ((1 : Int32) = (0 : Int32))) (hc284 : ¬ ((cmpValue (FP.dcmp d15 FP.dconst1) .l) = (0 : Int32))) (hc297 : ¬ ((lcmpW j9 j7) = (0 : Int32))) (hc321 : ¬ ((lcmpW (j7 &&& (1 : Int64)) (0 : Int64)) = (0 : Int32))) :
    ∃ (T' : State), Stand p l e R s m args below meth c T' locs cells slots ∧ T'.heap = h0 ∧
      ∀ target, Steps p.tables e below (T'.setTop (mkF m 357 #[.val (.long j0), .second, .val (.long j2), .second, .val (.long j4), .second, .val (.int i6), .val (.long j7), .second, .val (.long j9), .second, .val (.long j11), .second, .val (.ref o13), .val (.ref o14), .val (.double d15), .second, .val (.double d17), .second, .val (.int (1 : Int32)), .val (.int i20), .unset] [])) target → Steps p.tables e below (T0.setTop (mkF m 263 #[.val (.long j0), .second, .val (.long j2), .second, .val (.long j4), .second, .val (.int i6), .val (.long j7), .second, .val (.long j9), .second, .val (.long j11), .second, .val (.ref o13), .val (.ref o14), .val (.double d15), .second, .val (.double d17), .second, .val (.int (1 : Int32)), .val (.int i20), .unset] [])) target := by
  refine ⟨T0, X0, e0, fun target kt => ?_⟩
  show Steps p.tables e below (T0.setTop (mkF m 263 #[.val (.long j0), .second, .val (.long j2), .second, .val (.long j4), .second, .val (.int i6), .val (.long j7), .second, .val (.long j9), .second, .val (.long j11), .second, .val (.ref o13), .val (.ref o14), .val (.double d15), .second, .val (.double d17), .second, .val (.int (1 : Int32)), .val (.int i20), .unset] [])) _
  refine XS.lload X0.here hx rfl (hb hby at_263) rfl ?_
  show Steps p.tables e below (T0.setTop (mkF m 265 #[.val (.long j0), .second, .val (.long j2), .second, .val (.long j4), .second, .val (.int i6), .val (.long j7), .second, .val (.long j9), .second, .val (.long j11), .second, .val (.ref o13), .val (.ref o14), .val (.double d15), .second, .val (.double d17), .second, .val (.int (1 : Int32)), .val (.int i20), .unset] [(.long j7)])) _
  refine XS.lconst X0.here hx rfl (hb hby at_265) ?_
  show Steps p.tables e below (T0.setTop (mkF m 266 #[.val (.long j0), .second, .val (.long j2), .second, .val (.long j4), .second, .val (.int i6), .val (.long j7), .second, .val (.long j9), .second, .val (.long j11), .second, .val (.ref o13), .val (.ref o14), .val (.double d15), .second, .val (.double d17), .second, .val (.int (1 : Int32)), .val (.int i20), .unset] [(.long (0 : Int64)), (.long j7)])) _
  refine XS.lcmp X0.here hx rfl (hb hby at_266) rfl ?_
  show Steps p.tables e below (T0.setTop (mkF m 267 #[.val (.long j0), .second, .val (.long j2), .second, .val (.long j4), .second, .val (.int i6), .val (.long j7), .second, .val (.long j9), .second, .val (.long j11), .second, .val (.ref o13), .val (.ref o14), .val (.double d15), .second, .val (.double d17), .second, .val (.int (1 : Int32)), .val (.int i20), .unset] [(.int (lcmpW j7 (0 : Int64)))])) _
  refine XS.ifNo X0.here hx rfl (hb hby at_267) rfl ((if0 _ _).trans (tlt hc267).2.2.2) ?_
  show Steps p.tables e below (T0.setTop (mkF m 270 #[.val (.long j0), .second, .val (.long j2), .second, .val (.long j4), .second, .val (.int i6), .val (.long j7), .second, .val (.long j9), .second, .val (.long j11), .second, .val (.ref o13), .val (.ref o14), .val (.double d15), .second, .val (.double d17), .second, .val (.int (1 : Int32)), .val (.int i20), .unset] [])) _
  refine XS.iload X0.here hx rfl (hb hby at_270) rfl ?_
  show Steps p.tables e below (T0.setTop (mkF m 272 #[.val (.long j0), .second, .val (.long j2), .second, .val (.long j4), .second, .val (.int i6), .val (.long j7), .second, .val (.long j9), .second, .val (.long j11), .second, .val (.ref o13), .val (.ref o14), .val (.double d15), .second, .val (.double d17), .second, .val (.int (1 : Int32)), .val (.int i20), .unset] [(.int i20)])) _
  refine XS.ifNo X0.here hx rfl (hb hby at_272) rfl ((if0 _ _).trans (feq hc272).1) ?_
  show Steps p.tables e below (T0.setTop (mkF m 275 #[.val (.long j0), .second, .val (.long j2), .second, .val (.long j4), .second, .val (.int i6), .val (.long j7), .second, .val (.long j9), .second, .val (.long j11), .second, .val (.ref o13), .val (.ref o14), .val (.double d15), .second, .val (.double d17), .second, .val (.int (1 : Int32)), .val (.int i20), .unset] [])) _
  refine XS.iload X0.here hx rfl (hb hby at_275) rfl ?_
  show Steps p.tables e below (T0.setTop (mkF m 277 #[.val (.long j0), .second, .val (.long j2), .second, .val (.long j4), .second, .val (.int i6), .val (.long j7), .second, .val (.long j9), .second, .val (.long j11), .second, .val (.ref o13), .val (.ref o14), .val (.double d15), .second, .val (.double d17), .second, .val (.int (1 : Int32)), .val (.int i20), .unset] [(.int (1 : Int32))])) _
  refine XS.ifNo X0.here hx rfl (hb hby at_277) rfl ((if0 _ _).trans (feq hc277).1) ?_
  show Steps p.tables e below (T0.setTop (mkF m 280 #[.val (.long j0), .second, .val (.long j2), .second, .val (.long j4), .second, .val (.int i6), .val (.long j7), .second, .val (.long j9), .second, .val (.long j11), .second, .val (.ref o13), .val (.ref o14), .val (.double d15), .second, .val (.double d17), .second, .val (.int (1 : Int32)), .val (.int i20), .unset] [])) _
  refine XS.dload X0.here hx rfl (hb hby at_280) rfl ?_
  show Steps p.tables e below (T0.setTop (mkF m 282 #[.val (.long j0), .second, .val (.long j2), .second, .val (.long j4), .second, .val (.int i6), .val (.long j7), .second, .val (.long j9), .second, .val (.long j11), .second, .val (.ref o13), .val (.ref o14), .val (.double d15), .second, .val (.double d17), .second, .val (.int (1 : Int32)), .val (.int i20), .unset] [(.double d15)])) _
  refine XS.dconst1 X0.here hx rfl (hb hby at_282) rfl ?_
  show Steps p.tables e below (T0.setTop (mkF m 283 #[.val (.long j0), .second, .val (.long j2), .second, .val (.long j4), .second, .val (.int i6), .val (.long j7), .second, .val (.long j9), .second, .val (.long j11), .second, .val (.ref o13), .val (.ref o14), .val (.double d15), .second, .val (.double d17), .second, .val (.int (1 : Int32)), .val (.int i20), .unset] [(.double FP.dconst1), (.double d15)])) _
  refine XS.dcmpS X0.here hx rfl (hb hby at_283) rfl rfl ?_
  show Steps p.tables e below (T0.setTop (mkF m 284 #[.val (.long j0), .second, .val (.long j2), .second, .val (.long j4), .second, .val (.int i6), .val (.long j7), .second, .val (.long j9), .second, .val (.long j11), .second, .val (.ref o13), .val (.ref o14), .val (.double d15), .second, .val (.double d17), .second, .val (.int (1 : Int32)), .val (.int i20), .unset] [(.int (cmpValue (FP.dcmp d15 FP.dconst1) .l))])) _
  refine XS.ifYes X0.here hx rfl (pc0 := 284) (pc' := 291) rfl (hb hby at_284) rfl ((if0 _ _).trans (feq hc284).2) (by decide) (by decide) ?_
  show Steps p.tables e below (T0.setTop (mkF m 291 #[.val (.long j0), .second, .val (.long j2), .second, .val (.long j4), .second, .val (.int i6), .val (.long j7), .second, .val (.long j9), .second, .val (.long j11), .second, .val (.ref o13), .val (.ref o14), .val (.double d15), .second, .val (.double d17), .second, .val (.int (1 : Int32)), .val (.int i20), .unset] [])) _
  refine XS.iconst X0.here hx rfl (hb hby at_291) ?_
  show Steps p.tables e below (T0.setTop (mkF m 292 #[.val (.long j0), .second, .val (.long j2), .second, .val (.long j4), .second, .val (.int i6), .val (.long j7), .second, .val (.long j9), .second, .val (.long j11), .second, .val (.ref o13), .val (.ref o14), .val (.double d15), .second, .val (.double d17), .second, .val (.int (1 : Int32)), .val (.int i20), .unset] [(.int (0 : Int32))])) _
  refine XS.lload X0.here hx rfl (hb hby at_292) rfl ?_
  show Steps p.tables e below (T0.setTop (mkF m 294 #[.val (.long j0), .second, .val (.long j2), .second, .val (.long j4), .second, .val (.int i6), .val (.long j7), .second, .val (.long j9), .second, .val (.long j11), .second, .val (.ref o13), .val (.ref o14), .val (.double d15), .second, .val (.double d17), .second, .val (.int (1 : Int32)), .val (.int i20), .unset] [(.long j9), (.int (0 : Int32))])) _
  refine XS.lload X0.here hx rfl (hb hby at_294) rfl ?_
  show Steps p.tables e below (T0.setTop (mkF m 296 #[.val (.long j0), .second, .val (.long j2), .second, .val (.long j4), .second, .val (.int i6), .val (.long j7), .second, .val (.long j9), .second, .val (.long j11), .second, .val (.ref o13), .val (.ref o14), .val (.double d15), .second, .val (.double d17), .second, .val (.int (1 : Int32)), .val (.int i20), .unset] [(.long j7), (.long j9), (.int (0 : Int32))])) _
  refine XS.lcmp X0.here hx rfl (hb hby at_296) rfl ?_
  show Steps p.tables e below (T0.setTop (mkF m 297 #[.val (.long j0), .second, .val (.long j2), .second, .val (.long j4), .second, .val (.int i6), .val (.long j7), .second, .val (.long j9), .second, .val (.long j11), .second, .val (.ref o13), .val (.ref o14), .val (.double d15), .second, .val (.double d17), .second, .val (.int (1 : Int32)), .val (.int i20), .unset] [(.int (lcmpW j9 j7)), (.int (0 : Int32))])) _
  refine XS.ifYes X0.here hx rfl (pc0 := 297) (pc' := 304) rfl (hb hby at_297) rfl ((if0 _ _).trans (feq hc297).2) (by decide) (by decide) ?_
  show Steps p.tables e below (T0.setTop (mkF m 304 #[.val (.long j0), .second, .val (.long j2), .second, .val (.long j4), .second, .val (.int i6), .val (.long j7), .second, .val (.long j9), .second, .val (.long j11), .second, .val (.ref o13), .val (.ref o14), .val (.double d15), .second, .val (.double d17), .second, .val (.int (1 : Int32)), .val (.int i20), .unset] [(.int (0 : Int32))])) _
  refine XS.iconst X0.here hx rfl (hb hby at_304) ?_
  show Steps p.tables e below (T0.setTop (mkF m 305 #[.val (.long j0), .second, .val (.long j2), .second, .val (.long j4), .second, .val (.int i6), .val (.long j7), .second, .val (.long j9), .second, .val (.long j11), .second, .val (.ref o13), .val (.ref o14), .val (.double d15), .second, .val (.double d17), .second, .val (.int (1 : Int32)), .val (.int i20), .unset] [(.int (0 : Int32)), (.int (0 : Int32))])) _
  refine XS.icmpNo X0.here hx rfl (hb hby at_305) rfl (teq (rfl : (0 : Int32) = (0 : Int32))).2 ?_
  show Steps p.tables e below (T0.setTop (mkF m 308 #[.val (.long j0), .second, .val (.long j2), .second, .val (.long j4), .second, .val (.int i6), .val (.long j7), .second, .val (.long j9), .second, .val (.long j11), .second, .val (.ref o13), .val (.ref o14), .val (.double d15), .second, .val (.double d17), .second, .val (.int (1 : Int32)), .val (.int i20), .unset] [])) _
  refine XS.iconst X0.here hx rfl (hb hby at_308) ?_
  show Steps p.tables e below (T0.setTop (mkF m 309 #[.val (.long j0), .second, .val (.long j2), .second, .val (.long j4), .second, .val (.int i6), .val (.long j7), .second, .val (.long j9), .second, .val (.long j11), .second, .val (.ref o13), .val (.ref o14), .val (.double d15), .second, .val (.double d17), .second, .val (.int (1 : Int32)), .val (.int i20), .unset] [(.int (1 : Int32))])) _
  refine XS.goto X0.here hx rfl (pc0 := 309) (pc' := 313) rfl (hb hby at_309) (by decide) (by decide) ?_
  show Steps p.tables e below (T0.setTop (mkF m 313 #[.val (.long j0), .second, .val (.long j2), .second, .val (.long j4), .second, .val (.int i6), .val (.long j7), .second, .val (.long j9), .second, .val (.long j11), .second, .val (.ref o13), .val (.ref o14), .val (.double d15), .second, .val (.double d17), .second, .val (.int (1 : Int32)), .val (.int i20), .unset] [(.int (1 : Int32))])) _
  refine XS.istore X0.here hx rfl (hb hby at_313) rfl (l' := #[.val (.long j0), .second, .val (.long j2), .second, .val (.long j4), .second, .val (.int i6), .val (.long j7), .second, .val (.long j9), .second, .val (.long j11), .second, .val (.ref o13), .val (.ref o14), .val (.double d15), .second, .val (.double d17), .second, .val (.int (1 : Int32)), .val (.int i20), .unset]) rfl ?_
  show Steps p.tables e below (T0.setTop (mkF m 315 #[.val (.long j0), .second, .val (.long j2), .second, .val (.long j4), .second, .val (.int i6), .val (.long j7), .second, .val (.long j9), .second, .val (.long j11), .second, .val (.ref o13), .val (.ref o14), .val (.double d15), .second, .val (.double d17), .second, .val (.int (1 : Int32)), .val (.int i20), .unset] [])) _
  refine XS.lload X0.here hx rfl (hb hby at_315) rfl ?_
  show Steps p.tables e below (T0.setTop (mkF m 317 #[.val (.long j0), .second, .val (.long j2), .second, .val (.long j4), .second, .val (.int i6), .val (.long j7), .second, .val (.long j9), .second, .val (.long j11), .second, .val (.ref o13), .val (.ref o14), .val (.double d15), .second, .val (.double d17), .second, .val (.int (1 : Int32)), .val (.int i20), .unset] [(.long j7)])) _
  refine XS.lconst X0.here hx rfl (hb hby at_317) ?_
  show Steps p.tables e below (T0.setTop (mkF m 318 #[.val (.long j0), .second, .val (.long j2), .second, .val (.long j4), .second, .val (.int i6), .val (.long j7), .second, .val (.long j9), .second, .val (.long j11), .second, .val (.ref o13), .val (.ref o14), .val (.double d15), .second, .val (.double d17), .second, .val (.int (1 : Int32)), .val (.int i20), .unset] [(.long (1 : Int64)), (.long j7)])) _
  refine XS.land X0.here hx rfl (hb hby at_318) rfl ?_
  show Steps p.tables e below (T0.setTop (mkF m 319 #[.val (.long j0), .second, .val (.long j2), .second, .val (.long j4), .second, .val (.int i6), .val (.long j7), .second, .val (.long j9), .second, .val (.long j11), .second, .val (.ref o13), .val (.ref o14), .val (.double d15), .second, .val (.double d17), .second, .val (.int (1 : Int32)), .val (.int i20), .unset] [(.long (j7 &&& (1 : Int64)))])) _
  refine XS.lconst X0.here hx rfl (hb hby at_319) ?_
  show Steps p.tables e below (T0.setTop (mkF m 320 #[.val (.long j0), .second, .val (.long j2), .second, .val (.long j4), .second, .val (.int i6), .val (.long j7), .second, .val (.long j9), .second, .val (.long j11), .second, .val (.ref o13), .val (.ref o14), .val (.double d15), .second, .val (.double d17), .second, .val (.int (1 : Int32)), .val (.int i20), .unset] [(.long (0 : Int64)), (.long (j7 &&& (1 : Int64)))])) _
  refine XS.lcmp X0.here hx rfl (hb hby at_320) rfl ?_
  show Steps p.tables e below (T0.setTop (mkF m 321 #[.val (.long j0), .second, .val (.long j2), .second, .val (.long j4), .second, .val (.int i6), .val (.long j7), .second, .val (.long j9), .second, .val (.long j11), .second, .val (.ref o13), .val (.ref o14), .val (.double d15), .second, .val (.double d17), .second, .val (.int (1 : Int32)), .val (.int i20), .unset] [(.int (lcmpW (j7 &&& (1 : Int64)) (0 : Int64)))])) _
  refine XS.ifYes X0.here hx rfl (pc0 := 321) (pc' := 357) rfl (hb hby at_321) rfl ((if0 _ _).trans (feq hc321).2) (by decide) (by decide) ?_
  exact kt
set_option maxRecDepth 65536 in
set_option maxHeartbeats 40000000 in
theorem tn0_263_357_fffttfft_sgI {p : Program} {l : Launch} {e : Env} {R : Room} {s : State} {m : MethodId} {args : Array Value} {below : List Frame} {meth : Method} {c : Code} {T0 : State} {locs : List Loc} {cells slots : Nat} {Z : State} {a0 : Array Value} {h0 : Heap} (j0 : Int64) (j2 : Int64) (j4 : Int64) (i6 : Int32) (j7 : Int64) (j9 : Int64) (j11 : Int64) (o13 : Addr) (o14 : Addr) (d15 : UInt64) (d17 : UInt64) (i20 : Int32)
    (X0 : Stand p l e R s m args below meth c T0 locs cells slots) (hx : p.tables.exec = Jvm.exec) (hZ : Z.Warmed39 s.vm) (hw : ∀ d ∈ tables_1, d.before a0 Z = true) (hby : c.code = code) (hml : c.maxLocals = 22) (hown : s.vm.findClass "com/example/bits_for_sets/bitsforsets/tool/ReplayCountsFalsePositiveRatePinLaw" = some m.cls) (e0 : T0.heap = h0) (hc267 : (0 : Int32) < (lcmpW j7 (0 : Int64))) (hc272 : ¬ (i20 = (0 : Int32))) (hc277 : ¬ ((1 : Int32) = (0 : Int32))) (hc284 : ¬ ((cmpValue (FP.dcmp d15 FP.dconst1) .l) = (0 : Int32))) (hc297 : ¬ ((lcmpW j9 j7) = (0 : Int32))) (hc321 : (lcmpW (j7 &&& (1 : Int64)) (0 : Int64)) = (0 : Int32)) (hc333 : ¬ ((lcmpW j9 (j7 / (2 : Int64))) = (0 : Int32))) :
    ∃ (T' : State), Stand p l e R s m args below meth c T' locs cells slots ∧ T'.heap = h0 ∧
      ∀ target, Steps p.tables e below (T'.setTop (mkF m 357 #[.val (.long j0), .second, .val (.long j2), .second, .val (.long j4), .second, .val (.int i6), .val (.long j7), .second, .val (.long j9), .second, .val (.long j11), .second, .val (.ref o13), .val (.ref o14), .val (.double d15), .second, .val (.double d17), .second, .val (.int (1 : Int32)), .val (.int i20), .unset] [])) target → Steps p.tables e below (T0.setTop (mkF m 263 #[.val (.long j0), .second, .val (.long j2), .second, .val (.long j4), .second, .val (.int i6), .val (.long j7), .second, .val (.long j9), .second, .val (.long j11), .second, .val (.ref o13), .val (.ref o14), .val (.double d15), .second, .val (.double d17), .second, .val (.int (1 : Int32)), .val (.int i20), .unset] [])) target := by
  refine ⟨T0, X0, e0, fun target kt => ?_⟩
  show Steps p.tables e below (T0.setTop (mkF m 263 #[.val (.long j0), .second, .val (.long j2), .second, .val (.long j4), .second, .val (.int i6), .val (.long j7), .second, .val (.long j9), .second, .val (.long j11), .second, .val (.ref o13), .val (.ref o14), .val (.double d15), .second, .val (.double d17), .second, .val (.int (1 : Int32)), .val (.int i20), .unset] [])) _
  refine XS.lload X0.here hx rfl (hb hby at_263) rfl ?_
  show Steps p.tables e below (T0.setTop (mkF m 265 #[.val (.long j0), .second, .val (.long j2), .second, .val (.long j4), .second, .val (.int i6), .val (.long j7), .second, .val (.long j9), .second, .val (.long j11), .second, .val (.ref o13), .val (.ref o14), .val (.double d15), .second, .val (.double d17), .second, .val (.int (1 : Int32)), .val (.int i20), .unset] [(.long j7)])) _
  refine XS.lconst X0.here hx rfl (hb hby at_265) ?_
  show Steps p.tables e below (T0.setTop (mkF m 266 #[.val (.long j0), .second, .val (.long j2), .second, .val (.long j4), .second, .val (.int i6), .val (.long j7), .second, .val (.long j9), .second, .val (.long j11), .second, .val (.ref o13), .val (.ref o14), .val (.double d15), .second, .val (.double d17), .second, .val (.int (1 : Int32)), .val (.int i20), .unset] [(.long (0 : Int64)), (.long j7)])) _
  refine XS.lcmp X0.here hx rfl (hb hby at_266) rfl ?_
  show Steps p.tables e below (T0.setTop (mkF m 267 #[.val (.long j0), .second, .val (.long j2), .second, .val (.long j4), .second, .val (.int i6), .val (.long j7), .second, .val (.long j9), .second, .val (.long j11), .second, .val (.ref o13), .val (.ref o14), .val (.double d15), .second, .val (.double d17), .second, .val (.int (1 : Int32)), .val (.int i20), .unset] [(.int (lcmpW j7 (0 : Int64)))])) _
  refine XS.ifNo X0.here hx rfl (hb hby at_267) rfl ((if0 _ _).trans (tlt hc267).2.2.2) ?_
  show Steps p.tables e below (T0.setTop (mkF m 270 #[.val (.long j0), .second, .val (.long j2), .second, .val (.long j4), .second, .val (.int i6), .val (.long j7), .second, .val (.long j9), .second, .val (.long j11), .second, .val (.ref o13), .val (.ref o14), .val (.double d15), .second, .val (.double d17), .second, .val (.int (1 : Int32)), .val (.int i20), .unset] [])) _
  refine XS.iload X0.here hx rfl (hb hby at_270) rfl ?_
  show Steps p.tables e below (T0.setTop (mkF m 272 #[.val (.long j0), .second, .val (.long j2), .second, .val (.long j4), .second, .val (.int i6), .val (.long j7), .second, .val (.long j9), .second, .val (.long j11), .second, .val (.ref o13), .val (.ref o14), .val (.double d15), .second, .val (.double d17), .second, .val (.int (1 : Int32)), .val (.int i20), .unset] [(.int i20)])) _
  refine XS.ifNo X0.here hx rfl (hb hby at_272) rfl ((if0 _ _).trans (feq hc272).1) ?_
  show Steps p.tables e below (T0.setTop (mkF m 275 #[.val (.long j0), .second, .val (.long j2), .second, .val (.long j4), .second, .val (.int i6), .val (.long j7), .second, .val (.long j9), .second, .val (.long j11), .second, .val (.ref o13), .val (.ref o14), .val (.double d15), .second, .val (.double d17), .second, .val (.int (1 : Int32)), .val (.int i20), .unset] [])) _
  refine XS.iload X0.here hx rfl (hb hby at_275) rfl ?_
  show Steps p.tables e below (T0.setTop (mkF m 277 #[.val (.long j0), .second, .val (.long j2), .second, .val (.long j4), .second, .val (.int i6), .val (.long j7), .second, .val (.long j9), .second, .val (.long j11), .second, .val (.ref o13), .val (.ref o14), .val (.double d15), .second, .val (.double d17), .second, .val (.int (1 : Int32)), .val (.int i20), .unset] [(.int (1 : Int32))])) _
  refine XS.ifNo X0.here hx rfl (hb hby at_277) rfl ((if0 _ _).trans (feq hc277).1) ?_
  show Steps p.tables e below (T0.setTop (mkF m 280 #[.val (.long j0), .second, .val (.long j2), .second, .val (.long j4), .second, .val (.int i6), .val (.long j7), .second, .val (.long j9), .second, .val (.long j11), .second, .val (.ref o13), .val (.ref o14), .val (.double d15), .second, .val (.double d17), .second, .val (.int (1 : Int32)), .val (.int i20), .unset] [])) _
  refine XS.dload X0.here hx rfl (hb hby at_280) rfl ?_
  show Steps p.tables e below (T0.setTop (mkF m 282 #[.val (.long j0), .second, .val (.long j2), .second, .val (.long j4), .second, .val (.int i6), .val (.long j7), .second, .val (.long j9), .second, .val (.long j11), .second, .val (.ref o13), .val (.ref o14), .val (.double d15), .second, .val (.double d17), .second, .val (.int (1 : Int32)), .val (.int i20), .unset] [(.double d15)])) _
  refine XS.dconst1 X0.here hx rfl (hb hby at_282) rfl ?_
  show Steps p.tables e below (T0.setTop (mkF m 283 #[.val (.long j0), .second, .val (.long j2), .second, .val (.long j4), .second, .val (.int i6), .val (.long j7), .second, .val (.long j9), .second, .val (.long j11), .second, .val (.ref o13), .val (.ref o14), .val (.double d15), .second, .val (.double d17), .second, .val (.int (1 : Int32)), .val (.int i20), .unset] [(.double FP.dconst1), (.double d15)])) _
  refine XS.dcmpS X0.here hx rfl (hb hby at_283) rfl rfl ?_
  show Steps p.tables e below (T0.setTop (mkF m 284 #[.val (.long j0), .second, .val (.long j2), .second, .val (.long j4), .second, .val (.int i6), .val (.long j7), .second, .val (.long j9), .second, .val (.long j11), .second, .val (.ref o13), .val (.ref o14), .val (.double d15), .second, .val (.double d17), .second, .val (.int (1 : Int32)), .val (.int i20), .unset] [(.int (cmpValue (FP.dcmp d15 FP.dconst1) .l))])) _
  refine XS.ifYes X0.here hx rfl (pc0 := 284) (pc' := 291) rfl (hb hby at_284) rfl ((if0 _ _).trans (feq hc284).2) (by decide) (by decide) ?_
  show Steps p.tables e below (T0.setTop (mkF m 291 #[.val (.long j0), .second, .val (.long j2), .second, .val (.long j4), .second, .val (.int i6), .val (.long j7), .second, .val (.long j9), .second, .val (.long j11), .second, .val (.ref o13), .val (.ref o14), .val (.double d15), .second, .val (.double d17), .second, .val (.int (1 : Int32)), .val (.int i20), .unset] [])) _
  refine XS.iconst X0.here hx rfl (hb hby at_291) ?_
  show Steps p.tables e below (T0.setTop (mkF m 292 #[.val (.long j0), .second, .val (.long j2), .second, .val (.long j4), .second, .val (.int i6), .val (.long j7), .second, .val (.long j9), .second, .val (.long j11), .second, .val (.ref o13), .val (.ref o14), .val (.double d15), .second, .val (.double d17), .second, .val (.int (1 : Int32)), .val (.int i20), .unset] [(.int (0 : Int32))])) _
  refine XS.lload X0.here hx rfl (hb hby at_292) rfl ?_
  show Steps p.tables e below (T0.setTop (mkF m 294 #[.val (.long j0), .second, .val (.long j2), .second, .val (.long j4), .second, .val (.int i6), .val (.long j7), .second, .val (.long j9), .second, .val (.long j11), .second, .val (.ref o13), .val (.ref o14), .val (.double d15), .second, .val (.double d17), .second, .val (.int (1 : Int32)), .val (.int i20), .unset] [(.long j9), (.int (0 : Int32))])) _
  refine XS.lload X0.here hx rfl (hb hby at_294) rfl ?_
  show Steps p.tables e below (T0.setTop (mkF m 296 #[.val (.long j0), .second, .val (.long j2), .second, .val (.long j4), .second, .val (.int i6), .val (.long j7), .second, .val (.long j9), .second, .val (.long j11), .second, .val (.ref o13), .val (.ref o14), .val (.double d15), .second, .val (.double d17), .second, .val (.int (1 : Int32)), .val (.int i20), .unset] [(.long j7), (.long j9), (.int (0 : Int32))])) _
  refine XS.lcmp X0.here hx rfl (hb hby at_296) rfl ?_
  show Steps p.tables e below (T0.setTop (mkF m 297 #[.val (.long j0), .second, .val (.long j2), .second, .val (.long j4), .second, .val (.int i6), .val (.long j7), .second, .val (.long j9), .second, .val (.long j11), .second, .val (.ref o13), .val (.ref o14), .val (.double d15), .second, .val (.double d17), .second, .val (.int (1 : Int32)), .val (.int i20), .unset] [(.int (lcmpW j9 j7)), (.int (0 : Int32))])) _
  refine XS.ifYes X0.here hx rfl (pc0 := 297) (pc' := 304) rfl (hb hby at_297) rfl ((if0 _ _).trans (feq hc297).2) (by decide) (by decide) ?_
  show Steps p.tables e below (T0.setTop (mkF m 304 #[.val (.long j0), .second, .val (.long j2), .second, .val (.long j4), .second, .val (.int i6), .val (.long j7), .second, .val (.long j9), .second, .val (.long j11), .second, .val (.ref o13), .val (.ref o14), .val (.double d15), .second, .val (.double d17), .second, .val (.int (1 : Int32)), .val (.int i20), .unset] [(.int (0 : Int32))])) _
  refine XS.iconst X0.here hx rfl (hb hby at_304) ?_
  show Steps p.tables e below (T0.setTop (mkF m 305 #[.val (.long j0), .second, .val (.long j2), .second, .val (.long j4), .second, .val (.int i6), .val (.long j7), .second, .val (.long j9), .second, .val (.long j11), .second, .val (.ref o13), .val (.ref o14), .val (.double d15), .second, .val (.double d17), .second, .val (.int (1 : Int32)), .val (.int i20), .unset] [(.int (0 : Int32)), (.int (0 : Int32))])) _
  refine XS.icmpNo X0.here hx rfl (hb hby at_305) rfl (teq (rfl : (0 : Int32) = (0 : Int32))).2 ?_
  show Steps p.tables e below (T0.setTop (mkF m 308 #[.val (.long j0), .second, .val (.long j2), .second, .val (.long j4), .second, .val (.int i6), .val (.long j7), .second, .val (.long j9), .second, .val (.long j11), .second, .val (.ref o13), .val (.ref o14), .val (.double d15), .second, .val (.double d17), .second, .val (.int (1 : Int32)), .val (.int i20), .unset] [])) _
  refine XS.iconst X0.here hx rfl (hb hby at_308) ?_
  show Steps p.tables e below (T0.setTop (mkF m 309 #[.val (.long j0), .second, .val (.long j2), .second, .val (.long j4), .second, .val (.int i6), .val (.long j7), .second, .val (.long j9), .second, .val (.long j11), .second, .val (.ref o13), .val (.ref o14), .val (.double d15), .second, .val (.double d17), .second, .val (.int (1 : Int32)), .val (.int i20), .unset] [(.int (1 : Int32))])) _
  refine XS.goto X0.here hx rfl (pc0 := 309) (pc' := 313) rfl (hb hby at_309) (by decide) (by decide) ?_
  show Steps p.tables e below (T0.setTop (mkF m 313 #[.val (.long j0), .second, .val (.long j2), .second, .val (.long j4), .second, .val (.int i6), .val (.long j7), .second, .val (.long j9), .second, .val (.long j11), .second, .val (.ref o13), .val (.ref o14), .val (.double d15), .second, .val (.double d17), .second, .val (.int (1 : Int32)), .val (.int i20), .unset] [(.int (1 : Int32))])) _
  refine XS.istore X0.here hx rfl (hb hby at_313) rfl (l' := #[.val (.long j0), .second, .val (.long j2), .second, .val (.long j4), .second, .val (.int i6), .val (.long j7), .second, .val (.long j9), .second, .val (.long j11), .second, .val (.ref o13), .val (.ref o14), .val (.double d15), .second, .val (.double d17), .second, .val (.int (1 : Int32)), .val (.int i20), .unset]) rfl ?_
  show Steps p.tables e below (T0.setTop (mkF m 315 #[.val (.long j0), .second, .val (.long j2), .second, .val (.long j4), .second, .val (.int i6), .val (.long j7), .second, .val (.long j9), .second, .val (.long j11), .second, .val (.ref o13), .val (.ref o14), .val (.double d15), .second, .val (.double d17), .second, .val (.int (1 : Int32)), .val (.int i20), .unset] [])) _
  refine XS.lload X0.here hx rfl (hb hby at_315) rfl ?_
  show Steps p.tables e below (T0.setTop (mkF m 317 #[.val (.long j0), .second, .val (.long j2), .second, .val (.long j4), .second, .val (.int i6), .val (.long j7), .second, .val (.long j9), .second, .val (.long j11), .second, .val (.ref o13), .val (.ref o14), .val (.double d15), .second, .val (.double d17), .second, .val (.int (1 : Int32)), .val (.int i20), .unset] [(.long j7)])) _
  refine XS.lconst X0.here hx rfl (hb hby at_317) ?_
  show Steps p.tables e below (T0.setTop (mkF m 318 #[.val (.long j0), .second, .val (.long j2), .second, .val (.long j4), .second, .val (.int i6), .val (.long j7), .second, .val (.long j9), .second, .val (.long j11), .second, .val (.ref o13), .val (.ref o14), .val (.double d15), .second, .val (.double d17), .second, .val (.int (1 : Int32)), .val (.int i20), .unset] [(.long (1 : Int64)), (.long j7)])) _
  refine XS.land X0.here hx rfl (hb hby at_318) rfl ?_
  show Steps p.tables e below (T0.setTop (mkF m 319 #[.val (.long j0), .second, .val (.long j2), .second, .val (.long j4), .second, .val (.int i6), .val (.long j7), .second, .val (.long j9), .second, .val (.long j11), .second, .val (.ref o13), .val (.ref o14), .val (.double d15), .second, .val (.double d17), .second, .val (.int (1 : Int32)), .val (.int i20), .unset] [(.long (j7 &&& (1 : Int64)))])) _
  refine XS.lconst X0.here hx rfl (hb hby at_319) ?_
  show Steps p.tables e below (T0.setTop (mkF m 320 #[.val (.long j0), .second, .val (.long j2), .second, .val (.long j4), .second, .val (.int i6), .val (.long j7), .second, .val (.long j9), .second, .val (.long j11), .second, .val (.ref o13), .val (.ref o14), .val (.double d15), .second, .val (.double d17), .second, .val (.int (1 : Int32)), .val (.int i20), .unset] [(.long (0 : Int64)), (.long (j7 &&& (1 : Int64)))])) _
  refine XS.lcmp X0.here hx rfl (hb hby at_320) rfl ?_
  show Steps p.tables e below (T0.setTop (mkF m 321 #[.val (.long j0), .second, .val (.long j2), .second, .val (.long j4), .second, .val (.int i6), .val (.long j7), .second, .val (.long j9), .second, .val (.long j11), .second, .val (.ref o13), .val (.ref o14), .val (.double d15), .second, .val (.double d17), .second, .val (.int (1 : Int32)), .val (.int i20), .unset] [(.int (lcmpW (j7 &&& (1 : Int64)) (0 : Int64)))])) _
  refine XS.ifNo X0.here hx rfl (hb hby at_321) rfl ((if0 _ _).trans (teq hc321).2) ?_
  show Steps p.tables e below (T0.setTop (mkF m 324 #[.val (.long j0), .second, .val (.long j2), .second, .val (.long j4), .second, .val (.int i6), .val (.long j7), .second, .val (.long j9), .second, .val (.long j11), .second, .val (.ref o13), .val (.ref o14), .val (.double d15), .second, .val (.double d17), .second, .val (.int (1 : Int32)), .val (.int i20), .unset] [])) _
  refine XS.lload X0.here hx rfl (hb hby at_324) rfl ?_
  show Steps p.tables e below (T0.setTop (mkF m 326 #[.val (.long j0), .second, .val (.long j2), .second, .val (.long j4), .second, .val (.int i6), .val (.long j7), .second, .val (.long j9), .second, .val (.long j11), .second, .val (.ref o13), .val (.ref o14), .val (.double d15), .second, .val (.double d17), .second, .val (.int (1 : Int32)), .val (.int i20), .unset] [(.long j9)])) _
  refine XS.lload X0.here hx rfl (hb hby at_326) rfl ?_
  show Steps p.tables e below (T0.setTop (mkF m 328 #[.val (.long j0), .second, .val (.long j2), .second, .val (.long j4), .second, .val (.int i6), .val (.long j7), .second, .val (.long j9), .second, .val (.long j11), .second, .val (.ref o13), .val (.ref o14), .val (.double d15), .second, .val (.double d17), .second, .val (.int (1 : Int32)), .val (.int i20), .unset] [(.long j7), (.long j9)])) _
  refine X0.ldc2Long hx hown (mvT hZ (hw _ (List.mem_of_getElem? (i := 39) rfl))) (g := (mkF m 328 #[.val (.long j0), .second, .val (.long j2), .second, .val (.long j4), .second, .val (.int i6), .val (.long j7), .second, .val (.long j9), .second, .val (.long j11), .second, .val (.ref o13), .val (.ref o14), .val (.double d15), .second, .val (.double d17), .second, .val (.int (1 : Int32)), .val (.int i20), .unset] [(.long j7), (.long j9)])) rfl (hb hby at_328) _ ?_
  show Steps p.tables e below (T0.setTop (mkF m 331 #[.val (.long j0), .second, .val (.long j2), .second, .val (.long j4), .second, .val (.int i6), .val (.long j7), .second, .val (.long j9), .second, .val (.long j11), .second, .val (.ref o13), .val (.ref o14), .val (.double d15), .second, .val (.double d17), .second, .val (.int (1 : Int32)), .val (.int i20), .unset] [(.long (2 : Int64)), (.long j7), (.long j9)])) _
  refine XS.ldiv X0.here hx rfl (hb hby at_331) rfl (by decide) ?_
  show Steps p.tables e below (T0.setTop (mkF m 332 #[.val (.long j0), .second, .val (.long j2), .second, .val (.long j4), .second, .val (.int i6), .val (.long j7), .second, .val (.long j9), .second, .val (.long j11), .second, .val (.ref o13), .val (.ref o14), .val (.double d15), .second, .val (.double d17), .second, .val (.int (1 : Int32)), .val (.int i20), .unset] [(.long (j7 / (2 : Int64))), (.long j9)])) _
  refine XS.lcmp X0.here hx rfl (hb hby at_332) rfl ?_
  show Steps p.tables e below (T0.setTop (mkF m 333 #[.val (.long j0), .second, .val (.long j2), .second, .val (.long j4), .second, .val (.int i6), .val (.long j7), .second, .val (.long j9), .second, .val (.long j11), .second, .val (.ref o13), .val (.ref o14), .val (.double d15), .second, .val (.double d17), .second, .val (.int (1 : Int32)), .val (.int i20), .unset] [(.int (lcmpW j9 (j7 / (2 : Int64))))])) _
  refine XS.ifYes X0.here hx rfl (pc0 := 333) (pc' := 357) rfl (hb hby at_333) rfl ((if0 _ _).trans (feq hc333).2) (by decide) (by decide) ?_
  exact kt
set_option maxRecDepth 65536 in
set_option maxHeartbeats 40000000 in
theorem tn0_263_357_fffttfffff_sgI {p : Program} {l : Launch} {e : Env} {R : Room} {s : State} {m : MethodId} {args : Array Value} {below : List Frame} {meth : Method} {c : Code} {T0 : State} {locs : List Loc} {cells slots : Nat} {Z : State} {a0 : Array Value} {h0 : Heap} (j0 : Int64) (j2 : Int64) (j4 : Int64) (i6 : Int32) (j7 : Int64) (j9 : Int64) (j11 : Int64) (o13 : Addr) (o14 : Addr) (d15 : UInt64) (d17 : UInt64) (i20 : Int32)
    (X0 : Stand p l e R s m args below meth c T0 locs cells slots) (hx : p.tables.exec = Jvm.exec) (hZ : Z.Warmed39 s.vm) (hw : ∀ d ∈ tables_1, d.before a0 Z = true) (hby : c.code = code) (hml : c.maxLocals = 22) (hown : s.vm.findClass "com/example/bits_for_sets/bitsforsets/tool/ReplayCountsFalsePositiveRatePinLaw" = some m.cls) (e0 : T0.heap = h0) (hc267 : (0 : Int32) < (lcmpW j7 (0 : Int64))) (hc272 : ¬ (i20 = (0 : Int32))) (hc277 : ¬ ((1 : Int32) = (0 : Int32))) (hc284 : ¬ ((cmpValue (FP.dcmp d15 FP.dconst1) .l) = (0 : Int32))) (hc297 : ¬ ((lcmpW j9 j7) = (0 : Int32))) (hc321 : (lcmpW (j7 &&& (1 : Int64)) (0 : Int64)) = (0 : Int32)) (hc333 : (lcmpW j9 (j7 / (2 : Int64))) = (0 : Int32)) (hc338 : ¬ ((1 : Int32) = (0 : Int32))) (hc347 : (cmpValue (FP.dcmp d15 (4602678819172646912 : UInt64)) .l) = (0 : Int32)) :
    ∃ (T' : State), Stand p l e R s m args below meth c T' locs cells slots ∧ T'.heap = h0 ∧
      ∀ target, Steps p.tables e below (T'.setTop (mkF m 357 #[.val (.long j0), .second, .val (.long j2), .second, .val (.long j4), .second, .val (.int i6), .val (.long j7), .second, .val (.long j9), .second, .val (.long j11), .second, .val (.ref o13), .val (.ref o14), .val (.double d15), .second, .val (.double d17), .second, .val (.int (1 : Int32)), .val (.int i20), .unset] [])) target → Steps p.tables e below (T0.setTop (mkF m 263 #[.val (.long j0), .second, .val (.long j2), .second, .val (.long j4), .second, .val (.int i6), .val (.long j7), .second, .val (.long j9), .second, .val (.long j11), .second, .val (.ref o13), .val (.ref o14), .val (.double d15), .second, .val (.double d17), .second, .val (.int (1 : Int32)), .val (.int i20), .unset] [])) target := by
  refine ⟨T0, X0, e0, fun target kt => ?_⟩
  show Steps p.tables e below (T0.setTop (mkF m 263 #[.val (.long j0), .second, .val (.long j2), .second, .val (.long j4), .second, .val (.int i6), .val (.long j7), .second, .val (.long j9), .second, .val (.long j11), .second, .val (.ref o13), .val (.ref o14), .val (.double d15), .second, .val (.double d17), .second, .val (.int (1 : Int32)), .val (.int i20), .unset] [])) _
  refine XS.lload X0.here hx rfl (hb hby at_263) rfl ?_
  show Steps p.tables e below (T0.setTop (mkF m 265 #[.val (.long j0), .second, .val (.long j2), .second, .val (.long j4), .second, .val (.int i6), .val (.long j7), .second, .val (.long j9), .second, .val (.long j11), .second, .val (.ref o13), .val (.ref o14), .val (.double d15), .second, .val (.double d17), .second, .val (.int (1 : Int32)), .val (.int i20), .unset] [(.long j7)])) _
  refine XS.lconst X0.here hx rfl (hb hby at_265) ?_
  show Steps p.tables e below (T0.setTop (mkF m 266 #[.val (.long j0), .second, .val (.long j2), .second, .val (.long j4), .second, .val (.int i6), .val (.long j7), .second, .val (.long j9), .second, .val (.long j11), .second, .val (.ref o13), .val (.ref o14), .val (.double d15), .second, .val (.double d17), .second, .val (.int (1 : Int32)), .val (.int i20), .unset] [(.long (0 : Int64)), (.long j7)])) _
  refine XS.lcmp X0.here hx rfl (hb hby at_266) rfl ?_
  show Steps p.tables e below (T0.setTop (mkF m 267 #[.val (.long j0), .second, .val (.long j2), .second, .val (.long j4), .second, .val (.int i6), .val (.long j7), .second, .val (.long j9), .second, .val (.long j11), .second, .val (.ref o13), .val (.ref o14), .val (.double d15), .second, .val (.double d17), .second, .val (.int (1 : Int32)), .val (.int i20), .unset] [(.int (lcmpW j7 (0 : Int64)))])) _
  refine XS.ifNo X0.here hx rfl (hb hby at_267) rfl ((if0 _ _).trans (tlt hc267).2.2.2) ?_
  show Steps p.tables e below (T0.setTop (mkF m 270 #[.val (.long j0), .second, .val (.long j2), .second, .val (.long j4), .second, .val (.int i6), .val (.long j7), .second, .val (.long j9), .second, .val (.long j11), .second, .val (.ref o13), .val (.ref o14), .val (.double d15), .second, .val (.double d17), .second, .val (.int (1 : Int32)), .val (.int i20), .unset] [])) _
  refine XS.iload X0.here hx rfl (hb hby at_270) rfl ?_
  show Steps p.tables e below (T0.setTop (mkF m 272 #[.val (.long j0), .second, .val (.long j2), .second, .val (.long j4), .second, .val (.int i6), .val (.long j7), .second, .val (.long j9), .second, .val (.long j11), .second, .val (.ref o13), .val (.ref o14), .val (.double d15), .second, .val (.double d17), .second, .val (.int (1 : Int32)), .val (.int i20), .unset] [(.int i20)])) _
  refine XS.ifNo X0.here hx rfl (hb hby at_272) rfl ((if0 _ _).trans (feq hc272).1) ?_
  show Steps p.tables e below (T0.setTop (mkF m 275 #[.val (.long j0), .second, .val (.long j2), .second, .val (.long j4), .second, .val (.int i6), .val (.long j7), .second, .val (.long j9), .second, .val (.long j11), .second, .val (.ref o13), .val (.ref o14), .val (.double d15), .second, .val (.double d17), .second, .val (.int (1 : Int32)), .val (.int i20), .unset] [])) _
  refine XS.iload X0.here hx rfl (hb hby at_275) rfl ?_
  show Steps p.tables e below (T0.setTop (mkF m 277 #[.val (.long j0), .second, .val (.long j2), .second, .val (.long j4), .second, .val (.int i6), .val (.long j7), .second, .val (.long j9), .second, .val (.long j11), .second, .val (.ref o13), .val (.ref o14), .val (.double d15), .second, .val (.double d17), .second, .val (.int (1 : Int32)), .val (.int i20), .unset] [(.int (1 : Int32))])) _
  refine XS.ifNo X0.here hx rfl (hb hby at_277) rfl ((if0 _ _).trans (feq hc277).1) ?_
  show Steps p.tables e below (T0.setTop (mkF m 280 #[.val (.long j0), .second, .val (.long j2), .second, .val (.long j4), .second, .val (.int i6), .val (.long j7), .second, .val (.long j9), .second, .val (.long j11), .second, .val (.ref o13), .val (.ref o14), .val (.double d15), .second, .val (.double d17), .second, .val (.int (1 : Int32)), .val (.int i20), .unset] [])) _
  refine XS.dload X0.here hx rfl (hb hby at_280) rfl ?_
  show Steps p.tables e below (T0.setTop (mkF m 282 #[.val (.long j0), .second, .val (.long j2), .second, .val (.long j4), .second, .val (.int i6), .val (.long j7), .second, .val (.long j9), .second, .val (.long j11), .second, .val (.ref o13), .val (.ref o14), .val (.double d15), .second, .val (.double d17), .second, .val (.int (1 : Int32)), .val (.int i20), .unset] [(.double d15)])) _
  refine XS.dconst1 X0.here hx rfl (hb hby at_282) rfl ?_
  show Steps p.tables e below (T0.setTop (mkF m 283 #[.val (.long j0), .second, .val (.long j2), .second, .val (.long j4), .second, .val (.int i6), .val (.long j7), .second, .val (.long j9), .second, .val (.long j11), .second, .val (.ref o13), .val (.ref o14), .val (.double d15), .second, .val (.double d17), .second, .val (.int (1 : Int32)), .val (.int i20), .unset] [(.double FP.dconst1), (.double d15)])) _
  refine XS.dcmpS X0.here hx rfl (hb hby at_283) rfl rfl ?_
  show Steps p.tables e below (T0.setTop (mkF m 284 #[.val (.long j0), .second, .val (.long j2), .second, .val (.long j4), .second, .val (.int i6), .val (.long j7), .second, .val (.long j9), .second, .val (.long j11), .second, .val (.ref o13), .val (.ref o14), .val (.double d15), .second, .val (.double d17), .second, .val (.int (1 : Int32)), .val (.int i20), .unset] [(.int (cmpValue (FP.dcmp d15 FP.dconst1) .l))])) _
  refine XS.ifYes X0.here hx rfl (pc0 := 284) (pc' := 291) rfl (hb hby at_284) rfl ((if0 _ _).trans (feq hc284).2) (by decide) (by decide) ?_
  show Steps p.tables e below (T0.setTop (mkF m 291 #[.val (.long j0), .second, .val (.long j2), .second, .val (.long j4), .second, .val (.int i6), .val (.long j7), .second, .val (.long j9), .second, .val (.long j11), .second, .val (.ref o13), .val (.ref o14), .val (.double d15), .second, .val (.double d17), .second, .val (.int (1 : Int32)), .val (.int i20), .unset] [])) _
  refine XS.iconst X0.here hx rfl (hb hby at_291) ?_
  show Steps p.tables e below (T0.setTop (mkF m 292 #[.val (.long j0), .second, .val (.long j2), .second, .val (.long j4), .second, .val (.int i6), .val (.long j7), .second, .val (.long j9), .second, .val (.long j11), .second, .val (.ref o13), .val (.ref o14), .val (.double d15), .second, .val (.double d17), .second, .val (.int (1 : Int32)), .val (.int i20), .unset] [(.int (0 : Int32))])) _
  refine XS.lload X0.here hx rfl (hb hby at_292) rfl ?_
  show Steps p.tables e below (T0.setTop (mkF m 294 #[.val (.long j0), .second, .val (.long j2), .second, .val (.long j4), .second, .val (.int i6), .val (.long j7), .second, .val (.long j9), .second, .val (.long j11), .second, .val (.ref o13), .val (.ref o14), .val (.double d15), .second, .val (.double d17), .second, .val (.int (1 : Int32)), .val (.int i20), .unset] [(.long j9), (.int (0 : Int32))])) _
  refine XS.lload X0.here hx rfl (hb hby at_294) rfl ?_
  show Steps p.tables e below (T0.setTop (mkF m 296 #[.val (.long j0), .second, .val (.long j2), .second, .val (.long j4), .second, .val (.int i6), .val (.long j7), .second, .val (.long j9), .second, .val (.long j11), .second, .val (.ref o13), .val (.ref o14), .val (.double d15), .second, .val (.double d17), .second, .val (.int (1 : Int32)), .val (.int i20), .unset] [(.long j7), (.long j9), (.int (0 : Int32))])) _
  refine XS.lcmp X0.here hx rfl (hb hby at_296) rfl ?_
  show Steps p.tables e below (T0.setTop (mkF m 297 #[.val (.long j0), .second, .val (.long j2), .second, .val (.long j4), .second, .val (.int i6), .val (.long j7), .second, .val (.long j9), .second, .val (.long j11), .second, .val (.ref o13), .val (.ref o14), .val (.double d15), .second, .val (.double d17), .second, .val (.int (1 : Int32)), .val (.int i20), .unset] [(.int (lcmpW j9 j7)), (.int (0 : Int32))])) _
  refine XS.ifYes X0.here hx rfl (pc0 := 297) (pc' := 304) rfl (hb hby at_297) rfl ((if0 _ _).trans (feq hc297).2) (by decide) (by decide) ?_
  show Steps p.tables e below (T0.setTop (mkF m 304 #[.val (.long j0), .second, .val (.long j2), .second, .val (.long j4), .second, .val (.int i6), .val (.long j7), .second, .val (.long j9), .second, .val (.long j11), .second, .val (.ref o13), .val (.ref o14), .val (.double d15), .second, .val (.double d17), .second, .val (.int (1 : Int32)), .val (.int i20), .unset] [(.int (0 : Int32))])) _
  refine XS.iconst X0.here hx rfl (hb hby at_304) ?_
  show Steps p.tables e below (T0.setTop (mkF m 305 #[.val (.long j0), .second, .val (.long j2), .second, .val (.long j4), .second, .val (.int i6), .val (.long j7), .second, .val (.long j9), .second, .val (.long j11), .second, .val (.ref o13), .val (.ref o14), .val (.double d15), .second, .val (.double d17), .second, .val (.int (1 : Int32)), .val (.int i20), .unset] [(.int (0 : Int32)), (.int (0 : Int32))])) _
  refine XS.icmpNo X0.here hx rfl (hb hby at_305) rfl (teq (rfl : (0 : Int32) = (0 : Int32))).2 ?_
  show Steps p.tables e below (T0.setTop (mkF m 308 #[.val (.long j0), .second, .val (.long j2), .second, .val (.long j4), .second, .val (.int i6), .val (.long j7), .second, .val (.long j9), .second, .val (.long j11), .second, .val (.ref o13), .val (.ref o14), .val (.double d15), .second, .val (.double d17), .second, .val (.int (1 : Int32)), .val (.int i20), .unset] [])) _
  refine XS.iconst X0.here hx rfl (hb hby at_308) ?_
  show Steps p.tables e below (T0.setTop (mkF m 309 #[.val (.long j0), .second, .val (.long j2), .second, .val (.long j4), .second, .val (.int i6), .val (.long j7), .second, .val (.long j9), .second, .val (.long j11), .second, .val (.ref o13), .val (.ref o14), .val (.double d15), .second, .val (.double d17), .second, .val (.int (1 : Int32)), .val (.int i20), .unset] [(.int (1 : Int32))])) _
  refine XS.goto X0.here hx rfl (pc0 := 309) (pc' := 313) rfl (hb hby at_309) (by decide) (by decide) ?_
  show Steps p.tables e below (T0.setTop (mkF m 313 #[.val (.long j0), .second, .val (.long j2), .second, .val (.long j4), .second, .val (.int i6), .val (.long j7), .second, .val (.long j9), .second, .val (.long j11), .second, .val (.ref o13), .val (.ref o14), .val (.double d15), .second, .val (.double d17), .second, .val (.int (1 : Int32)), .val (.int i20), .unset] [(.int (1 : Int32))])) _
  refine XS.istore X0.here hx rfl (hb hby at_313) rfl (l' := #[.val (.long j0), .second, .val (.long j2), .second, .val (.long j4), .second, .val (.int i6), .val (.long j7), .second, .val (.long j9), .second, .val (.long j11), .second, .val (.ref o13), .val (.ref o14), .val (.double d15), .second, .val (.double d17), .second, .val (.int (1 : Int32)), .val (.int i20), .unset]) rfl ?_
  show Steps p.tables e below (T0.setTop (mkF m 315 #[.val (.long j0), .second, .val (.long j2), .second, .val (.long j4), .second, .val (.int i6), .val (.long j7), .second, .val (.long j9), .second, .val (.long j11), .second, .val (.ref o13), .val (.ref o14), .val (.double d15), .second, .val (.double d17), .second, .val (.int (1 : Int32)), .val (.int i20), .unset] [])) _
  refine XS.lload X0.here hx rfl (hb hby at_315) rfl ?_
  show Steps p.tables e below (T0.setTop (mkF m 317 #[.val (.long j0), .second, .val (.long j2), .second, .val (.long j4), .second, .val (.int i6), .val (.long j7), .second, .val (.long j9), .second, .val (.long j11), .second, .val (.ref o13), .val (.ref o14), .val (.double d15), .second, .val (.double d17), .second, .val (.int (1 : Int32)), .val (.int i20), .unset] [(.long j7)])) _
  refine XS.lconst X0.here hx rfl (hb hby at_317) ?_
  show Steps p.tables e below (T0.setTop (mkF m 318 #[.val (.long j0), .second, .val (.long j2), .second, .val (.long j4), .second, .val (.int i6), .val (.long j7), .second, .val (.long j9), .second, .val (.long j11), .second, .val (.ref o13), .val (.ref o14), .val (.double d15), .second, .val (.double d17), .second, .val (.int (1 : Int32)), .val (.int i20), .unset] [(.long (1 : Int64)), (.long j7)])) _
  refine XS.land X0.here hx rfl (hb hby at_318) rfl ?_
  show Steps p.tables e below (T0.setTop (mkF m 319 #[.val (.long j0), .second, .val (.long j2), .second, .val (.long j4), .second, .val (.int i6), .val (.long j7), .second, .val (.long j9), .second, .val (.long j11), .second, .val (.ref o13), .val (.ref o14), .val (.double d15), .second, .val (.double d17), .second, .val (.int (1 : Int32)), .val (.int i20), .unset] [(.long (j7 &&& (1 : Int64)))])) _
  refine XS.lconst X0.here hx rfl (hb hby at_319) ?_
  show Steps p.tables e below (T0.setTop (mkF m 320 #[.val (.long j0), .second, .val (.long j2), .second, .val (.long j4), .second, .val (.int i6), .val (.long j7), .second, .val (.long j9), .second, .val (.long j11), .second, .val (.ref o13), .val (.ref o14), .val (.double d15), .second, .val (.double d17), .second, .val (.int (1 : Int32)), .val (.int i20), .unset] [(.long (0 : Int64)), (.long (j7 &&& (1 : Int64)))])) _
  refine XS.lcmp X0.here hx rfl (hb hby at_320) rfl ?_
  show Steps p.tables e below (T0.setTop (mkF m 321 #[.val (.long j0), .second, .val (.long j2), .second, .val (.long j4), .second, .val (.int i6), .val (.long j7), .second, .val (.long j9), .second, .val (.long j11), .second, .val (.ref o13), .val (.ref o14), .val (.double d15), .second, .val (.double d17), .second, .val (.int (1 : Int32)), .val (.int i20), .unset] [(.int (lcmpW (j7 &&& (1 : Int64)) (0 : Int64)))])) _
  refine XS.ifNo X0.here hx rfl (hb hby at_321) rfl ((if0 _ _).trans (teq hc321).2) ?_
  show Steps p.tables e below (T0.setTop (mkF m 324 #[.val (.long j0), .second, .val (.long j2), .second, .val (.long j4), .second, .val (.int i6), .val (.long j7), .second, .val (.long j9), .second, .val (.long j11), .second, .val (.ref o13), .val (.ref o14), .val (.double d15), .second, .val (.double d17), .second, .val (.int (1 : Int32)), .val (.int i20), .unset] [])) _
  refine XS.lload X0.here hx rfl (hb hby at_324) rfl ?_
  show Steps p.tables e below (T0.setTop (mkF m 326 #[.val (.long j0), .second, .val (.long j2), .second, .val (.long j4), .second, .val (.int i6), .val (.long j7), .second, .val (.long j9), .second, .val (.long j11), .second, .val (.ref o13), .val (.ref o14), .val (.double d15), .second, .val (.double d17), .second, .val (.int (1 : Int32)), .val (.int i20), .unset] [(.long j9)])) _
  refine XS.lload X0.here hx rfl (hb hby at_326) rfl ?_
  show Steps p.tables e below (T0.setTop (mkF m 328 #[.val (.long j0), .second, .val (.long j2), .second, .val (.long j4), .second, .val (.int i6), .val (.long j7), .second, .val (.long j9), .second, .val (.long j11), .second, .val (.ref o13), .val (.ref o14), .val (.double d15), .second, .val (.double d17), .second, .val (.int (1 : Int32)), .val (.int i20), .unset] [(.long j7), (.long j9)])) _
  refine X0.ldc2Long hx hown (mvT hZ (hw _ (List.mem_of_getElem? (i := 39) rfl))) (g := (mkF m 328 #[.val (.long j0), .second, .val (.long j2), .second, .val (.long j4), .second, .val (.int i6), .val (.long j7), .second, .val (.long j9), .second, .val (.long j11), .second, .val (.ref o13), .val (.ref o14), .val (.double d15), .second, .val (.double d17), .second, .val (.int (1 : Int32)), .val (.int i20), .unset] [(.long j7), (.long j9)])) rfl (hb hby at_328) _ ?_
  show Steps p.tables e below (T0.setTop (mkF m 331 #[.val (.long j0), .second, .val (.long j2), .second, .val (.long j4), .second, .val (.int i6), .val (.long j7), .second, .val (.long j9), .second, .val (.long j11), .second, .val (.ref o13), .val (.ref o14), .val (.double d15), .second, .val (.double d17), .second, .val (.int (1 : Int32)), .val (.int i20), .unset] [(.long (2 : Int64)), (.long j7), (.long j9)])) _
  refine XS.ldiv X0.here hx rfl (hb hby at_331) rfl (by decide) ?_
  show Steps p.tables e below (T0.setTop (mkF m 332 #[.val (.long j0), .second, .val (.long j2), .second, .val (.long j4), .second, .val (.int i6), .val (.long j7), .second, .val (.long j9), .second, .val (.long j11), .second, .val (.ref o13), .val (.ref o14), .val (.double d15), .second, .val (.double d17), .second, .val (.int (1 : Int32)), .val (.int i20), .unset] [(.long (j7 / (2 : Int64))), (.long j9)])) _
  refine XS.lcmp X0.here hx rfl (hb hby at_332) rfl ?_
  show Steps p.tables e below (T0.setTop (mkF m 333 #[.val (.long j0), .second, .val (.long j2), .second, .val (.long j4), .second, .val (.int i6), .val (.long j7), .second, .val (.long j9), .second, .val (.long j11), .second, .val (.ref o13), .val (.ref o14), .val (.double d15), .second, .val (.double d17), .second, .val (.int (1 : Int32)), .val (.int i20), .unset] [(.int (lcmpW j9 (j7 / (2 : Int64))))])) _
  refine XS.ifNo X0.here hx rfl (hb hby at_333) rfl ((if0 _ _).trans (teq hc333).2) ?_
  show Steps p.tables e below (T0.setTop (mkF m 336 #[.val (.long j0), .second, .val (.long j2), .second, .val (.long j4), .second, .val (.int i6), .val (.long j7), .second, .val (.long j9), .second, .val (.long j11), .second, .val (.ref o13), .val (.ref o14), .val (.double d15), .second, .val (.double d17), .second, .val (.int (1 : Int32)), .val (.int i20), .unset] [])) _
  refine XS.iload X0.here hx rfl (hb hby at_336) rfl ?_
  show Steps p.tables e below (T0.setTop (mkF m 338 #[.val (.long j0), .second, .val (.long j2), .second, .val (.long j4), .second, .val (.int i6), .val (.long j7), .second, .val (.long j9), .second, .val (.long j11), .second, .val (.ref o13), .val (.ref o14), .val (.double d15), .second, .val (.double d17), .second, .val (.int (1 : Int32)), .val (.int i20), .unset] [(.int (1 : Int32))])) _
  refine XS.ifNo X0.here hx rfl (hb hby at_338) rfl ((if0 _ _).trans (feq hc338).1) ?_
  show Steps p.tables e below (T0.setTop (mkF m 341 #[.val (.long j0), .second, .val (.long j2), .second, .val (.long j4), .second, .val (.int i6), .val (.long j7), .second, .val (.long j9), .second, .val (.long j11), .second, .val (.ref o13), .val (.ref o14), .val (.double d15), .second, .val (.double d17), .second, .val (.int (1 : Int32)), .val (.int i20), .unset] [])) _
  refine XS.dload X0.here hx rfl (hb hby at_341) rfl ?_
  show Steps p.tables e below (T0.setTop (mkF m 343 #[.val (.long j0), .second, .val (.long j2), .second, .val (.long j4), .second, .val (.int i6), .val (.long j7), .second, .val (.long j9), .second, .val (.long j11), .second, .val (.ref o13), .val (.ref o14), .val (.double d15), .second, .val (.double d17), .second, .val (.int (1 : Int32)), .val (.int i20), .unset] [(.double d15)])) _
  refine X0.ldc2DoubleC hx hown (mvT hZ (hw _ (List.mem_of_getElem? (i := 41) rfl))) (g := (mkF m 343 #[.val (.long j0), .second, .val (.long j2), .second, .val (.long j4), .second, .val (.int i6), .val (.long j7), .second, .val (.long j9), .second, .val (.long j11), .second, .val (.ref o13), .val (.ref o14), .val (.double d15), .second, .val (.double d17), .second, .val (.int (1 : Int32)), .val (.int i20), .unset] [(.double d15)])) rfl (hb hby at_343) _ ?_
  show Steps p.tables e below (T0.setTop (mkF m 346 #[.val (.long j0), .second, .val (.long j2), .second, .val (.long j4), .second, .val (.int i6), .val (.long j7), .second, .val (.long j9), .second, .val (.long j11), .second, .val (.ref o13), .val (.ref o14), .val (.double d15), .second, .val (.double d17), .second, .val (.int (1 : Int32)), .val (.int i20), .unset] [(.double (4602678819172646912 : UInt64)), (.double d15)])) _
  refine XS.dcmpS X0.here hx rfl (hb hby at_346) rfl rfl ?_
  show Steps p.tables e below (T0.setTop (mkF m 347 #[.val (.long j0), .second, .val (.long j2), .second, .val (.long j4), .second, .val (.int i6), .val (.long j7), .second, .val (.long j9), .second, .val (.long j11), .second, .val (.ref o13), .val (.ref o14), .val (.double d15), .second, .val (.double d17), .second, .val (.int (1 : Int32)), .val (.int i20), .unset] [(.int (cmpValue (FP.dcmp d15 (4602678819172646912 : UInt64)) .l))])) _
  refine XS.ifNo X0.here hx rfl (hb hby at_347) rfl ((if0 _ _).trans (teq hc347).2) ?_
  show Steps p.tables e below (T0.setTop (mkF m 350 #[.val (.long j0), .second, .val (.long j2), .second, .val (.long j4), .second, .val (.int i6), .val (.long j7), .second, .val (.long j9), .second, .val (.long j11), .second, .val (.ref o13), .val (.ref o14), .val (.double d15), .second, .val (.double d17), .second, .val (.int (1 : Int32)), .val (.int i20), .unset] [])) _
  refine XS.iconst X0.here hx rfl (hb hby at_350) ?_
  show Steps p.tables e below (T0.setTop (mkF m 351 #[.val (.long j0), .second, .val (.long j2), .second, .val (.long j4), .second, .val (.int i6), .val (.long j7), .second, .val (.long j9), .second, .val (.long j11), .second, .val (.ref o13), .val (.ref o14), .val (.double d15), .second, .val (.double d17), .second, .val (.int (1 : Int32)), .val (.int i20), .unset] [(.int (1 : Int32))])) _
  refine XS.goto X0.here hx rfl (pc0 := 351) (pc' := 355) rfl (hb hby at_351) (by decide) (by decide) ?_
  show Steps p.tables e below (T0.setTop (mkF m 355 #[.val (.long j0), .second, .val (.long j2), .second, .val (.long j4), .second, .val (.int i6), .val (.long j7), .second, .val (.long j9), .second, .val (.long j11), .second, .val (.ref o13), .val (.ref o14), .val (.double d15), .second, .val (.double d17), .second, .val (.int (1 : Int32)), .val (.int i20), .unset] [(.int (1 : Int32))])) _
  refine XS.istore X0.here hx rfl (hb hby at_355) rfl (l' := #[.val (.long j0), .second, .val (.long j2), .second, .val (.long j4), .second, .val (.int i6), .val (.long j7), .second, .val (.long j9), .second, .val (.long j11), .second, .val (.ref o13), .val (.ref o14), .val (.double d15), .second, .val (.double d17), .second, .val (.int (1 : Int32)), .val (.int i20), .unset]) rfl ?_
  exact kt
set_option maxRecDepth 65536 in
set_option maxHeartbeats 40000000 in
theorem sgI {p : Program} {l : Launch} {e : Env} {R : Room} {s : State} {m : MethodId} {args : Array Value} {below : List Frame} {meth : Method} {c : Code} {T0 : State} {locs : List Loc} {cells slots : Nat} {Z : State} {a0 : Array Value} {h0 : Heap} (j0 : Int64) (j2 : Int64) (j4 : Int64) (i6 : Int32) (j7 : Int64) (j9 : Int64) (j11 : Int64) (o13 : Addr) (o14 : Addr) (d15 : UInt64) (d17 : UInt64) (i20 : Int32)
    (X0 : Stand p l e R s m args below meth c T0 locs cells slots) (hx : p.tables.exec = Jvm.exec) (hZ : Z.Warmed39 s.vm) (hw : ∀ d ∈ tables_1, d.before a0 Z = true) (hby : c.code = code) (hml : c.maxLocals = 22) (hown : s.vm.findClass "com/example/bits_for_sets/bitsforsets/tool/ReplayCountsFalsePositiveRatePinLaw" = some m.cls) (e0 : T0.heap = h0) (H : ((¬ ((0 : Int32) < (lcmpW j7 (0 : Int64))))) ∨ (((0 : Int32) < (lcmpW j7 (0 : Int64))) ∧ (i20 = (0 : Int32))) ∨ (((0 : Int32) < (lcmpW j7 (0 : Int64))) ∧ (¬ (i20 = (0 : Int32))) ∧ (¬ ((1 : Int32) = (0 : Int32))) ∧ ((cmpValue (FP.dcmp d15 FP.dconst1) .l) = (0 : Int32)) ∧ ((lcmpW j9 j7) = (0 : Int32)) ∧ (¬ ((lcmpW (j7 &&& (1 : Int64)) (0 : Int64)) = (0 : Int32)))) ∨ (((0 : Int32) < (lcmpW j7 (0 : Int64))) ∧ (¬ (i20 = (0 : Int32))) ∧ (¬ ((1 : Int32) = (0 : Int32))) ∧ ((cmpValue (FP.dcmp d15 FP.dconst1) .l) = (0 : Int32)) ∧ ((lcmpW j9 j7) = (0 : Int32)) ∧ ((lcmpW (j7 &&& (1 : Int64)) (0 : Int64)) = (0 : Int32)) ∧ (¬ ((lcmpW j9 (j7 / (2 : Int64))) = (0 : Int32)))) ∨ (((0 : Int32) < (lcmpW j7 (0 : Int64))) ∧ (¬ (i20 = (0 : Int32))) ∧ (¬ ((1 : Int32) = (0 : Int32))) ∧ ((cmpValue (FP.dcmp d15 FP.dconst1) .l) = (0 : Int32)) ∧ ((lcmpW j9 j7) = (0 : Int32)) ∧ ((lcmpW (j7 &&& (1 : Int64)) (0 : Int64)) = (0 : Int32)) ∧ ((lcmpW j9 (j7 / (2 : Int64))) = (0 : Int32)) ∧ (¬ ((1 : Int32) = (0 : Int32))) ∧ ((cmpValue (FP.dcmp d15 (4602678819172646912 : UInt64)) .l) = (0 : Int32))) ∨ (((0 : Int32) < (lcmpW j7 (0 : Int64))) ∧ (¬ (i20 = (0 : Int32))) ∧ (¬ ((1 : Int32) = (0 : Int32))) ∧ (¬ ((cmpValue (FP.dcmp d15 FP.dconst1) .l) = (0 : Int32))) ∧ (¬ ((lcmpW j9 j7) = (0 : Int32))) ∧ (¬ ((lcmpW (j7 &&& (1 : Int64)) (0 : Int64)) = (0 : Int32)))) ∨ (((0 : Int32) < (lcmpW j7 (0 : Int64))) ∧ (¬ (i20 = (0 : Int32))) ∧ (¬ ((1 : Int32) = (0 : Int32))) ∧ (¬ ((cmpValue (FP.dcmp d15 FP.dconst1) .l) = (0 : Int32))) ∧ (¬ ((lcmpW j9 j7) = (0 : Int32))) ∧ ((lcmpW (j7 &&& (1 : Int64)) (0 : Int64)) = (0 : Int32)) ∧ (¬ ((lcmpW j9 (j7 / (2 : Int64))) = (0 : Int32)))) ∨ (((0 : Int32) < (lcmpW j7 (0 : Int64))) ∧ (¬ (i20 = (0 : Int32))) ∧ (¬ ((1 : Int32) = (0 : Int32))) ∧ (¬ ((cmpValue (FP.dcmp d15 FP.dconst1) .l) = (0 : Int32))) ∧ (¬ ((lcmpW j9 j7) = (0 : Int32))) ∧ ((lcmpW (j7 &&& (1 : Int64)) (0 : Int64)) = (0 : Int32)) ∧ ((lcmpW j9 (j7 / (2 : Int64))) = (0 : Int32)) ∧ (¬ ((1 : Int32) = (0 : Int32))) ∧ ((cmpValue (FP.dcmp d15 (4602678819172646912 : UInt64)) .l) = (0 : Int32)))) :
    ∃ (T' : State), Stand p l e R s m args below meth c T' locs cells slots ∧ T'.heap = h0 ∧
      ∀ target, Steps p.tables e below (T'.setTop (mkF m 357 #[.val (.long j0), .second, .val (.long j2), .second, .val (.long j4), .second, .val (.int i6), .val (.long j7), .second, .val (.long j9), .second, .val (.long j11), .second, .val (.ref o13), .val (.ref o14), .val (.double d15), .second, .val (.double d17), .second, .val (.int (1 : Int32)), .val (.int i20), .unset] [])) target → Steps p.tables e below (T0.setTop (mkF m 263 #[.val (.long j0), .second, .val (.long j2), .second, .val (.long j4), .second, .val (.int i6), .val (.long j7), .second, .val (.long j9), .second, .val (.long j11), .second, .val (.ref o13), .val (.ref o14), .val (.double d15), .second, .val (.double d17), .second, .val (.int (1 : Int32)), .val (.int i20), .unset] [])) target := by
  rcases H with hc267 | ⟨hc267, hc272⟩ | ⟨hc267, hc272, hc277, hc284, hc297, hc321⟩ | ⟨hc267, hc272, hc277, hc284, hc297, hc321, hc333⟩ | ⟨hc267, hc272, hc277, hc284, hc297, hc321, hc333, hc338, hc347⟩ | ⟨hc267, hc272, hc277, hc284, hc297, hc321⟩ | ⟨hc267, hc272, hc277, hc284, hc297, hc321, hc333⟩ | ⟨hc267, hc272, hc277, hc284, hc297, hc321, hc333, hc338, hc347⟩
  · exact tn0_263_357_t_sgI j0 j2 j4 i6 j7 j9 j11 o13 o14 d15 d17 i20 X0 hx hZ hw hby hml hown e0 hc267
  · exact tn0_263_357_ft_sgI j0 j2 j4 i6 j7 j9 j11 o13 o14 d15 d17 i20 X0 hx hZ hw hby hml hown e0 hc267 hc272
  · exact tn0_263_357_fffffft_sgI j0 j2 j4 i6 j7 j9 j11 o13 o14 d15 d17 i20 X0 hx hZ hw hby hml hown e0 hc267 hc272 hc277 hc284 hc297 hc321
  · exact tn0_263_357_ffffffft_sgI j0 j2 j4 i6 j7 j9 j11 o13 o14 d15 d17 i20 X0 hx hZ hw hby hml hown e0 hc267 hc272 hc277 hc284 hc297 hc321 hc333
  · exact tn0_263_357_ffffffffff_sgI j0 j2 j4 i6 j7 j9 j11 o13 o14 d15 d17 i20 X0 hx hZ hw hby hml hown e0 hc267 hc272 hc277 hc284 hc297 hc321 hc333 hc338 hc347
  · exact tn0_263_357_fffttft_sgI j0 j2 j4 i6 j7 j9 j11 o13 o14 d15 d17 i20 X0 hx hZ hw hby hml hown e0 hc267 hc272 hc277 hc284 hc297 hc321
  · exact tn0_263_357_fffttfft_sgI j0 j2 j4 i6 j7 j9 j11 o13 o14 d15 d17 i20 X0 hx hZ hw hby hml hown e0 hc267 hc272 hc277 hc284 hc297 hc321 hc333
  · exact tn0_263_357_fffttfffff_sgI j0 j2 j4 i6 j7 j9 j11 o13 o14 d15 d17 i20 X0 hx hZ hw hby hml hown e0 hc267 hc272 hc277 hc284 hc297 hc321 hc333 hc338 hc347
set_option maxRecDepth 65536 in
set_option maxHeartbeats 40000000 in
theorem tn0_357_385_t_sgJ {p : Program} {l : Launch} {e : Env} {R : Room} {s : State} {m : MethodId} {args : Array Value} {below : List Frame} {meth : Method} {c : Code} {T0 : State} {locs : List Loc} {cells slots : Nat} {Z : State} {a0 : Array Value} {h0 : Heap} (j0 : Int64) (j2 : Int64) (j4 : Int64) (i6 : Int32) (j7 : Int64) (j9 : Int64) (j11 : Int64) (o13 : Addr) (o14 : Addr) (d15 : UInt64) (d17 : UInt64) (i20 : Int32)
    (X0 : Stand p l e R s m args below meth c T0 locs cells slots) (hx : p.tables.exec = Jvm.exec) (hZ : Z.Warmed39 s.vm) (hw : ∀ d ∈ tables_1, d.before a0 Z = true) (hby : c.code = code) (hml : c.maxLocals = 22) (hown : s.vm.findClass "com/example/bits_for_sets/bitsforsets/tool/ReplayCountsFalsePositiveRatePinLaw" = some m.cls) (e0 : T0.heap = h0) (hc362 : (0 : Int32) < (lcmpW j9 j11)) :
    ∃ (T' : State), Stand p l e R s m args below meth c T' locs cells slots ∧ T'.heap = h0 ∧
      ∀ target, Steps p.tables e below (T'.setTop (mkF m 385 #[.val (.long j0), .second, .val (.long j2), .second, .val (.long j4), .second, .val (.int i6), .val (.long j7), .second, .val (.long j9), .second, .val (.long j11), .second, .val (.ref o13), .val (.ref o14), .val (.double d15), .second, .val (.double d17), .second, .val (.int (1 : Int32)), .val (.int i20), .unset] [])) target → Steps p.tables e below (T0.setTop (mkF m 357 #[.val (.long j0), .second, .val (.long j2), .second, .val (.long j4), .second, .val (.int i6), .val (.long j7), .second, .val (.long j9), .second, .val (.long j11), .second, .val (.ref o13), .val (.ref o14), .val (.double d15), .second, .val (.double d17), .second, .val (.int (1 : Int32)), .val (.int i20), .unset] [])) target := by
  refine ⟨T0, X0, e0, fun target kt => ?_⟩
  show Steps p.tables e below (T0.setTop (mkF m 357 #[.val (.long j0), .second, .val (.long j2), .second, .val (.long j4), .second, .val (.int i6), .val (.long j7), .second, .val (.long j9), .second, .val (.long j11), .second, .val (.ref o13), .val (.ref o14), .val (.double d15), .second, .val (.double d17), .second, .val (.int (1 : Int32)), .val (.int i20), .unset] [])) _
  refine XS.lload X0.here hx rfl (hb hby at_357) rfl ?_
  show Steps p.tables e below (T0.setTop (mkF m 359 #[.val (.long j0), .second, .val (.long j2), .second, .val (.long j4), .second, .val (.int i6), .val (.long j7), .second, .val (.long j9), .second, .val (.long j11), .second, .val (.ref o13), .val (.ref o14), .val (.double d15), .second, .val (.double d17), .second, .val (.int (1 : Int32)), .val (.int i20), .unset] [(.long j9)])) _
  refine XS.lload X0.here hx rfl (hb hby at_359) rfl ?_
  show Steps p.tables e below (T0.setTop (mkF m 361 #[.val (.long j0), .second, .val (.long j2), .second, .val (.long j4), .second, .val (.int i6), .val (.long j7), .second, .val (.long j9), .second, .val (.long j11), .second, .val (.ref o13), .val (.ref o14), .val (.double d15), .second, .val (.double d17), .second, .val (.int (1 : Int32)), .val (.int i20), .unset] [(.long j11), (.long j9)])) _
  refine XS.lcmp X0.here hx rfl (hb hby at_361) rfl ?_
  show Steps p.tables e below (T0.setTop (mkF m 362 #[.val (.long j0), .second, .val (.long j2), .second, .val (.long j4), .second, .val (.int i6), .val (.long j7), .second, .val (.long j9), .second, .val (.long j11), .second, .val (.ref o13), .val (.ref o14), .val (.double d15), .second, .val (.double d17), .second, .val (.int (1 : Int32)), .val (.int i20), .unset] [(.int (lcmpW j9 j11))])) _
  refine XS.ifYes X0.here hx rfl (pc0 := 362) (pc' := 385) rfl (hb hby at_362) rfl ((if0 _ _).trans (tlt hc362).2.2.1) (by decide) (by decide) ?_
  exact kt
set_option maxRecDepth 65536 in
set_option maxHeartbeats 40000000 in
theorem tn0_357_385_fff_sgJ {p : Program} {l : Launch} {e : Env} {R : Room} {s : State} {m : MethodId} {args : Array Value} {below : List Frame} {meth : Method} {c : Code} {T0 : State} {locs : List Loc} {cells slots : Nat} {Z : State} {a0 : Array Value} {h0 : Heap} (j0 : Int64) (j2 : Int64) (j4 : Int64) (i6 : Int32) (j7 : Int64) (j9 : Int64) (j11 : Int64) (o13 : Addr) (o14 : Addr) (d15 : UInt64) (d17 : UInt64) (i20 : Int32)
    (X0 : Stand p l e R s m args below meth c T0 locs cells slots) (hx : p.tables.exec = Jvm.exec) (hZ : Z.Warmed39 s.vm) (hw : ∀ d ∈ tables_1, d.before a0 Z = true) (hby : c.code = code) (hml : c.maxLocals = 22) (hown : s.vm.findClass "com/example/bits_for_sets/bitsforsets/tool/ReplayCountsFalsePositiveRatePinLaw" = some m.cls) (e0 : T0.heap = h0) (hc362 : ¬ ((0 : Int32) < (lcmpW j9 j11))) (hc367 : ¬ ((1 : Int32) = (0 : Int32))) (hc375 : ¬ ((0 : Int32) < (cmpValue (FP.dcmp d15 d17) .g))) :
    ∃ (T' : State), Stand p l e R s m args below meth c T' locs cells slots ∧ T'.heap = h0 ∧
      ∀ target, Steps p.tables e below (T'.setTop (mkF m 385 #[.val (.long j0), .second, .val (.long j2), .second, .val (.long j4), .second, .val (.int i6), .val (.long j7), .second, .val (.long j9), .second, .val (.long j11), .second, .val (.ref o13), .val (.ref o14), .val (.double d15), .second, .val (.double d17), .second, .val (.int (1 : Int32)), .val (.int i20), .unset] [])) target → Steps p.tables e below (T0.setTop (mkF m 357 #[.val (.long j0), .second, .val (.long j2), .second, .val (.long j4), .second, .val (.int i6), .val (.long j7), .second, .val (.long j9), .second, .val (.long j11), .second, .val (.ref o13), .val (.ref o14), .val (.double d15), .second, .val (.double d17), .second, .val (.int (1 : Int32)), .val (.int i20), .unset] [])) target := by
  refine ⟨T0, X0, e0, fun target kt => ?_⟩
  show Steps p.tables e below (T0.setTop (mkF m 357 #[.val (.long j0), .second, .val (.long j2), .second, .val (.long j4), .second, .val (.int i6), .val (.long j7), .second, .val (.long j9), .second, .val (.long j11), .second, .val (.ref o13), .val (.ref o14), .val (.double d15), .second, .val (.double d17), .second, .val (.int (1 : Int32)), .val (.int i20), .unset] [])) _
  refine XS.lload X0.here hx rfl (hb hby at_357) rfl ?_
  show Steps p.tables e below (T0.setTop (mkF m 359 #[.val (.long j0), .second, .val (.long j2), .second, .val (.long j4), .second, .val (.int i6), .val (.long j7), .second, .val (.long j9), .second, .val (.long j11), .second, .val (.ref o13), .val (.ref o14), .val (.double d15), .second, .val (.double d17), .second, .val (.int (1 : Int32)), .val (.int i20), .unset] [(.long j9)])) _
  refine XS.lload X0.here hx rfl (hb hby at_359) rfl ?_
  show Steps p.tables e below (T0.setTop (mkF m 361 #[.val (.long j0), .second, .val (.long j2), .second, .val (.long j4), .second, .val (.int i6), .val (.long j7), .second, .val (.long j9), .second, .val (.long j11), .second, .val (.ref o13), .val (.ref o14), .val (.double d15), .second, .val (.double d17), .second, .val (.int (1 : Int32)), .val (.int i20), .unset] [(.long j11), (.long j9)])) _
  refine XS.lcmp X0.here hx rfl (hb hby at_361) rfl ?_
  show Steps p.tables e below (T0.setTop (mkF m 362 #[.val (.long j0), .second, .val (.long j2), .second, .val (.long j4), .second, .val (.int i6), .val (.long j7), .second, .val (.long j9), .second, .val (.long j11), .second, .val (.ref o13), .val (.ref o14), .val (.double d15), .second, .val (.double d17), .second, .val (.int (1 : Int32)), .val (.int i20), .unset] [(.int (lcmpW j9 j11))])) _
  refine XS.ifNo X0.here hx rfl (hb hby at_362) rfl ((if0 _ _).trans (flt hc362).2.2.1) ?_
  show Steps p.tables e below (T0.setTop (mkF m 365 #[.val (.long j0), .second, .val (.long j2), .second, .val (.long j4), .second, .val (.int i6), .val (.long j7), .second, .val (.long j9), .second, .val (.long j11), .second, .val (.ref o13), .val (.ref o14), .val (.double d15), .second, .val (.double d17), .second, .val (.int (1 : Int32)), .val (.int i20), .unset] [])) _
  refine XS.iload X0.here hx rfl (hb hby at_365) rfl ?_
  show Steps p.tables e below (T0.setTop (mkF m 367 #[.val (.long j0), .second, .val (.long j2), .second, .val (.long j4), .second, .val (.int i6), .val (.long j7), .second, .val (.long j9), .second, .val (.long j11), .second, .val (.ref o13), .val (.ref o14), .val (.double d15), .second, .val (.double d17), .second, .val (.int (1 : Int32)), .val (.int i20), .unset] [(.int (1 : Int32))])) _
  refine XS.ifNo X0.here hx rfl (hb hby at_367) rfl ((if0 _ _).trans (feq hc367).1) ?_
  show Steps p.tables e below (T0.setTop (mkF m 370 #[.val (.long j0), .second, .val (.long j2), .second, .val (.long j4), .second, .val (.int i6), .val (.long j7), .second, .val (.long j9), .second, .val (.long j11), .second, .val (.ref o13), .val (.ref o14), .val (.double d15), .second, .val (.double d17), .second, .val (.int (1 : Int32)), .val (.int i20), .unset] [])) _
  refine XS.dload X0.here hx rfl (hb hby at_370) rfl ?_
  show Steps p.tables e below (T0.setTop (mkF m 372 #[.val (.long j0), .second, .val (.long j2), .second, .val (.long j4), .second, .val (.int i6), .val (.long j7), .second, .val (.long j9), .second, .val (.long j11), .second, .val (.ref o13), .val (.ref o14), .val (.double d15), .second, .val (.double d17), .second, .val (.int (1 : Int32)), .val (.int i20), .unset] [(.double d15)])) _
  refine XS.dload X0.here hx rfl (hb hby at_372) rfl ?_
  show Steps p.tables e below (T0.setTop (mkF m 374 #[.val (.long j0), .second, .val (.long j2), .second, .val (.long j4), .second, .val (.int i6), .val (.long j7), .second, .val (.long j9), .second, .val (.long j11), .second, .val (.ref o13), .val (.ref o14), .val (.double d15), .second, .val (.double d17), .second, .val (.int (1 : Int32)), .val (.int i20), .unset] [(.double d17), (.double d15)])) _
  refine XS.dcmpS X0.here hx rfl (hb hby at_374) rfl rfl ?_
  show Steps p.tables e below (T0.setTop (mkF m 375 #[.val (.long j0), .second, .val (.long j2), .second, .val (.long j4), .second, .val (.int i6), .val (.long j7), .second, .val (.long j9), .second, .val (.long j11), .second, .val (.ref o13), .val (.ref o14), .val (.double d15), .second, .val (.double d17), .second, .val (.int (1 : Int32)), .val (.int i20), .unset] [(.int (cmpValue (FP.dcmp d15 d17) .g))])) _
  refine XS.ifNo X0.here hx rfl (hb hby at_375) rfl ((if0 _ _).trans (flt hc375).2.2.1) ?_
  show Steps p.tables e below (T0.setTop (mkF m 378 #[.val (.long j0), .second, .val (.long j2), .second, .val (.long j4), .second, .val (.int i6), .val (.long j7), .second, .val (.long j9), .second, .val (.long j11), .second, .val (.ref o13), .val (.ref o14), .val (.double d15), .second, .val (.double d17), .second, .val (.int (1 : Int32)), .val (.int i20), .unset] [])) _
  refine XS.iconst X0.here hx rfl (hb hby at_378) ?_
  show Steps p.tables e below (T0.setTop (mkF m 379 #[.val (.long j0), .second, .val (.long j2), .second, .val (.long j4), .second, .val (.int i6), .val (.long j7), .second, .val (.long j9), .second, .val (.long j11), .second, .val (.ref o13), .val (.ref o14), .val (.double d15), .second, .val (.double d17), .second, .val (.int (1 : Int32)), .val (.int i20), .unset] [(.int (1 : Int32))])) _
  refine XS.goto X0.here hx rfl (pc0 := 379) (pc' := 383) rfl (hb hby at_379) (by decide) (by decide) ?_
  show Steps p.tables e below (T0.setTop (mkF m 383 #[.val (.long j0), .second, .val (.long j2), .second, .val (.long j4), .second, .val (.int i6), .val (.long j7), .second, .val (.long j9), .second, .val (.long j11), .second, .val (.ref o13), .val (.ref o14), .val (.double d15), .second, .val (.double d17), .second, .val (.int (1 : Int32)), .val (.int i20), .unset] [(.int (1 : Int32))])) _
  refine XS.istore X0.here hx rfl (hb hby at_383) rfl (l' := #[.val (.long j0), .second, .val (.long j2), .second, .val (.long j4), .second, .val (.int i6), .val (.long j7), .second, .val (.long j9), .second, .val (.long j11), .second, .val (.ref o13), .val (.ref o14), .val (.double d15), .second, .val (.double d17), .second, .val (.int (1 : Int32)), .val (.int i20), .unset]) rfl ?_
  exact kt
set_option maxRecDepth 65536 in
set_option maxHeartbeats 40000000 in
theorem sgJ {p : Program} {l : Launch} {e : Env} {R : Room} {s : State} {m : MethodId} {args : Array Value} {below : List Frame} {meth : Method} {c : Code} {T0 : State} {locs : List Loc} {cells slots : Nat} {Z : State} {a0 : Array Value} {h0 : Heap} (j0 : Int64) (j2 : Int64) (j4 : Int64) (i6 : Int32) (j7 : Int64) (j9 : Int64) (j11 : Int64) (o13 : Addr) (o14 : Addr) (d15 : UInt64) (d17 : UInt64) (i20 : Int32)
    (X0 : Stand p l e R s m args below meth c T0 locs cells slots) (hx : p.tables.exec = Jvm.exec) (hZ : Z.Warmed39 s.vm) (hw : ∀ d ∈ tables_1, d.before a0 Z = true) (hby : c.code = code) (hml : c.maxLocals = 22) (hown : s.vm.findClass "com/example/bits_for_sets/bitsforsets/tool/ReplayCountsFalsePositiveRatePinLaw" = some m.cls) (e0 : T0.heap = h0) (H : (((0 : Int32) < (lcmpW j9 j11))) ∨ ((¬ ((0 : Int32) < (lcmpW j9 j11))) ∧ (¬ ((1 : Int32) = (0 : Int32))) ∧ (¬ ((0 : Int32) < (cmpValue (FP.dcmp d15 d17) .g))))) :
    ∃ (T' : State), Stand p l e R s m args below meth c T' locs cells slots ∧ T'.heap = h0 ∧
      ∀ target, Steps p.tables e below (T'.setTop (mkF m 385 #[.val (.long j0), .second, .val (.long j2), .second, .val (.long j4), .second, .val (.int i6), .val (.long j7), .second, .val (.long j9), .second, .val (.long j11), .second, .val (.ref o13), .val (.ref o14), .val (.double d15), .second, .val (.double d17), .second, .val (.int (1 : Int32)), .val (.int i20), .unset] [])) target → Steps p.tables e below (T0.setTop (mkF m 357 #[.val (.long j0), .second, .val (.long j2), .second, .val (.long j4), .second, .val (.int i6), .val (.long j7), .second, .val (.long j9), .second, .val (.long j11), .second, .val (.ref o13), .val (.ref o14), .val (.double d15), .second, .val (.double d17), .second, .val (.int (1 : Int32)), .val (.int i20), .unset] [])) target := by
  rcases H with hc362 | ⟨hc362, hc367, hc375⟩
  · exact tn0_357_385_t_sgJ j0 j2 j4 i6 j7 j9 j11 o13 o14 d15 d17 i20 X0 hx hZ hw hby hml hown e0 hc362
  · exact tn0_357_385_fff_sgJ j0 j2 j4 i6 j7 j9 j11 o13 o14 d15 d17 i20 X0 hx hZ hw hby hml hown e0 hc362 hc367 hc375
set_option maxRecDepth 65536 in
set_option maxHeartbeats 40000000 in
theorem tn0_385_413_t_sgK {p : Program} {l : Launch} {e : Env} {R : Room} {s : State} {m : MethodId} {args : Array Value} {below : List Frame} {meth : Method} {c : Code} {T0 : State} {locs : List Loc} {cells slots : Nat} {Z : State} {a0 : Array Value} {h0 : Heap} (j0 : Int64) (j2 : Int64) (j4 : Int64) (i6 : Int32) (j7 : Int64) (j9 : Int64) (j11 : Int64) (o13 : Addr) (o14 : Addr) (d15 : UInt64) (d17 : UInt64) (i20 : Int32)
    (X0 : Stand p l e R s m args below meth c T0 locs cells slots) (hx : p.tables.exec = Jvm.exec) (hZ : Z.Warmed39 s.vm) (hw : ∀ d ∈ tables_1, d.before a0 Z = true) (hby : c.code = code) (hml : c.maxLocals = 22) (hown : s.vm.findClass "com/example/bits_for_sets/bitsforsets/tool/ReplayCountsFalsePositiveRatePinLaw" = some m.cls) (e0 : T0.heap = h0) (hc390 : (0 : Int32) < (lcmpW j11 j9)) :
    ∃ (T' : State), Stand p l e R s m args below meth c T' locs cells slots ∧ T'.heap = h0 ∧
      ∀ target, Steps p.tables e below (T'.setTop (mkF m 413 #[.val (.long j0), .second, .val (.long j2), .second, .val (.long j4), .second, .val (.int i6), .val (.long j7), .second, .val (.long j9), .second, .val (.long j11), .second, .val (.ref o13), .val (.ref o14), .val (.double d15), .second, .val (.double d17), .second, .val (.int (1 : Int32)), .val (.int i20), .unset] [])) target → Steps p.tables e below (T0.setTop (mkF m 385 #[.val (.long j0), .second, .val (.long j2), .second, .val (.long j4), .second, .val (.int i6), .val (.long j7), .second, .val (.long j9), .second, .val (.long j11), .second, .val (.ref o13), .val (.ref o14), .val (.double d15), .second, .val (.double d17), .second, .val (.int (1 : Int32)), .val (.int i20), .unset] [])) target := by
  refine ⟨T0, X0, e0, fun target kt => ?_⟩
  show Steps p.tables e below (T0.setTop (mkF m 385 #[.val (.long j0), .second, .val (.long j2), .second, .val (.long j4), .second, .val (.int i6), .val (.long j7), .second, .val (.long j9), .second, .val (.long j11), .second, .val (.ref o13), .val (.ref o14), .val (.double d15), .second, .val (.double d17), .second, .val (.int (1 : Int32)), .val (.int i20), .unset] [])) _
  refine XS.lload X0.here hx rfl (hb hby at_385) rfl ?_
  show Steps p.tables e below (T0.setTop (mkF m 387 #[.val (.long j0), .second, .val (.long j2), .second, .val (.long j4), .second, .val (.int i6), .val (.long j7), .second, .val (.long j9), .second, .val (.long j11), .second, .val (.ref o13), .val (.ref o14), .val (.double d15), .second, .val (.double d17), .second, .val (.int (1 : Int32)), .val (.int i20), .unset] [(.long j11)])) _
  refine XS.lload X0.here hx rfl (hb hby at_387) rfl ?_
  show Steps p.tables e below (T0.setTop (mkF m 389 #[.val (.long j0), .second, .val (.long j2), .second, .val (.long j4), .second, .val (.int i6), .val (.long j7), .second, .val (.long j9), .second, .val (.long j11), .second, .val (.ref o13), .val (.ref o14), .val (.double d15), .second, .val (.double d17), .second, .val (.int (1 : Int32)), .val (.int i20), .unset] [(.long j9), (.long j11)])) _
  refine XS.lcmp X0.here hx rfl (hb hby at_389) rfl ?_
  show Steps p.tables e below (T0.setTop (mkF m 390 #[.val (.long j0), .second, .val (.long j2), .second, .val (.long j4), .second, .val (.int i6), .val (.long j7), .second, .val (.long j9), .second, .val (.long j11), .second, .val (.ref o13), .val (.ref o14), .val (.double d15), .second, .val (.double d17), .second, .val (.int (1 : Int32)), .val (.int i20), .unset] [(.int (lcmpW j11 j9))])) _
  refine XS.ifYes X0.here hx rfl (pc0 := 390) (pc' := 413) rfl (hb hby at_390) rfl ((if0 _ _).trans (tlt hc390).2.2.1) (by decide) (by decide) ?_
  exact kt
set_option maxRecDepth 65536 in
set_option maxHeartbeats 40000000 in
theorem tn0_385_413_fff_sgK {p : Program} {l : Launch} {e : Env} {R : Room} {s : State} {m : MethodId} {args : Array Value} {below : List Frame} {meth : Method} {c : Code} {T0 : State} {locs : List Loc} {cells slots : Nat} {Z : State} {a0 : Array Value} {h0 : Heap} (j0 : Int64) (j2 : Int64) (j4 : Int64) (i6 : Int32) (j7 : Int64) (j9 : Int64) (j11 : Int64) (o13 : Addr) (o14 : Addr) (d15 : UInt64) (d17 : UInt64) (i20 : Int32)
    (X0 : Stand p l e R s m args below meth c T0 locs cells slots) (hx : p.tables.exec = Jvm.exec) (hZ : Z.Warmed39 s.vm) (hw : ∀ d ∈ tables_1, d.before a0 Z = true) (hby : c.code = code) (hml : c.maxLocals = 22) (hown : s.vm.findClass "com/example/bits_for_sets/bitsforsets/tool/ReplayCountsFalsePositiveRatePinLaw" = some m.cls) (e0 : T0.heap = h0) (hc390 : ¬ ((0 : Int32) < (lcmpW j11 j9))) (hc395 : ¬ ((1 : Int32) = (0 : Int32))) (hc403 : ¬ ((0 : Int32) < (cmpValue (FP.dcmp d17 d15) .g))) :
    ∃ (T' : State), Stand p l e R s m args below meth c T' locs cells slots ∧ T'.heap = h0 ∧
      ∀ target, Steps p.tables e below (T'.setTop (mkF m 413 #[.val (.long j0), .second, .val (.long j2), .second, .val (.long j4), .second, .val (.int i6), .val (.long j7), .second, .val (.long j9), .second, .val (.long j11), .second, .val (.ref o13), .val (.ref o14), .val (.double d15), .second, .val (.double d17), .second, .val (.int (1 : Int32)), .val (.int i20), .unset] [])) target → Steps p.tables e below (T0.setTop (mkF m 385 #[.val (.long j0), .second, .val (.long j2), .second, .val (.long j4), .second, .val (.int i6), .val (.long j7), .second, .val (.long j9), .second, .val (.long j11), .second, .val (.ref o13), .val (.ref o14), .val (.double d15), .second, .val (.double d17), .second, .val (.int (1 : Int32)), .val (.int i20), .unset] [])) target := by
  refine ⟨T0, X0, e0, fun target kt => ?_⟩
  show Steps p.tables e below (T0.setTop (mkF m 385 #[.val (.long j0), .second, .val (.long j2), .second, .val (.long j4), .second, .val (.int i6), .val (.long j7), .second, .val (.long j9), .second, .val (.long j11), .second, .val (.ref o13), .val (.ref o14), .val (.double d15), .second, .val (.double d17), .second, .val (.int (1 : Int32)), .val (.int i20), .unset] [])) _
  refine XS.lload X0.here hx rfl (hb hby at_385) rfl ?_
  show Steps p.tables e below (T0.setTop (mkF m 387 #[.val (.long j0), .second, .val (.long j2), .second, .val (.long j4), .second, .val (.int i6), .val (.long j7), .second, .val (.long j9), .second, .val (.long j11), .second, .val (.ref o13), .val (.ref o14), .val (.double d15), .second, .val (.double d17), .second, .val (.int (1 : Int32)), .val (.int i20), .unset] [(.long j11)])) _
  refine XS.lload X0.here hx rfl (hb hby at_387) rfl ?_
  show Steps p.tables e below (T0.setTop (mkF m 389 #[.val (.long j0), .second, .val (.long j2), .second, .val (.long j4), .second, .val (.int i6), .val (.long j7), .second, .val (.long j9), .second, .val (.long j11), .second, .val (.ref o13), .val (.ref o14), .val (.double d15), .second, .val (.double d17), .second, .val (.int (1 : Int32)), .val (.int i20), .unset] [(.long j9), (.long j11)])) _
  refine XS.lcmp X0.here hx rfl (hb hby at_389) rfl ?_
  show Steps p.tables e below (T0.setTop (mkF m 390 #[.val (.long j0), .second, .val (.long j2), .second, .val (.long j4), .second, .val (.int i6), .val (.long j7), .second, .val (.long j9), .second, .val (.long j11), .second, .val (.ref o13), .val (.ref o14), .val (.double d15), .second, .val (.double d17), .second, .val (.int (1 : Int32)), .val (.int i20), .unset] [(.int (lcmpW j11 j9))])) _
  refine XS.ifNo X0.here hx rfl (hb hby at_390) rfl ((if0 _ _).trans (flt hc390).2.2.1) ?_
  show Steps p.tables e below (T0.setTop (mkF m 393 #[.val (.long j0), .second, .val (.long j2), .second, .val (.long j4), .second, .val (.int i6), .val (.long j7), .second, .val (.long j9), .second, .val (.long j11), .second, .val (.ref o13), .val (.ref o14), .val (.double d15), .second, .val (.double d17), .second, .val (.int (1 : Int32)), .val (.int i20), .unset] [])) _
  refine XS.iload X0.here hx rfl (hb hby at_393) rfl ?_
  show Steps p.tables e below (T0.setTop (mkF m 395 #[.val (.long j0), .second, .val (.long j2), .second, .val (.long j4), .second, .val (.int i6), .val (.long j7), .second, .val (.long j9), .second, .val (.long j11), .second, .val (.ref o13), .val (.ref o14), .val (.double d15), .second, .val (.double d17), .second, .val (.int (1 : Int32)), .val (.int i20), .unset] [(.int (1 : Int32))])) _
  refine XS.ifNo X0.here hx rfl (hb hby at_395) rfl ((if0 _ _).trans (feq hc395).1) ?_
  show Steps p.tables e below (T0.setTop (mkF m 398 #[.val (.long j0), .second, .val (.long j2), .second, .val (.long j4), .second, .val (.int i6), .val (.long j7), .second, .val (.long j9), .second, .val (.long j11), .second, .val (.ref o13), .val (.ref o14), .val (.double d15), .second, .val (.double d17), .second, .val (.int (1 : Int32)), .val (.int i20), .unset] [])) _
  refine XS.dload X0.here hx rfl (hb hby at_398) rfl ?_
  show Steps p.tables e below (T0.setTop (mkF m 400 #[.val (.long j0), .second, .val (.long j2), .second, .val (.long j4), .second, .val (.int i6), .val (.long j7), .second, .val (.long j9), .second, .val (.long j11), .second, .val (.ref o13), .val (.ref o14), .val (.double d15), .second, .val (.double d17), .second, .val (.int (1 : Int32)), .val (.int i20), .unset] [(.double d17)])) _
  refine XS.dload X0.here hx rfl (hb hby at_400) rfl ?_
  show Steps p.tables e below (T0.setTop (mkF m 402 #[.val (.long j0), .second, .val (.long j2), .second, .val (.long j4), .second, .val (.int i6), .val (.long j7), .second, .val (.long j9), .second, .val (.long j11), .second, .val (.ref o13), .val (.ref o14), .val (.double d15), .second, .val (.double d17), .second, .val (.int (1 : Int32)), .val (.int i20), .unset] [(.double d15), (.double d17)])) _
  refine XS.dcmpS X0.here hx rfl (hb hby at_402) rfl rfl ?_
  show Steps p.tables e below (T0.setTop (mkF m 403 #[.val (.long j0), .second, .val (.long j2), .second, .val (.long j4), .second, .val (.int i6), .val (.long j7), .second, .val (.long j9), .second, .val (.long j11), .second, .val (.ref o13), .val (.ref o14), .val (.double d15), .second, .val (.double d17), .second, .val (.int (1 : Int32)), .val (.int i20), .unset] [(.int (cmpValue (FP.dcmp d17 d15) .g))])) _
  refine XS.ifNo X0.here hx rfl (hb hby at_403) rfl ((if0 _ _).trans (flt hc403).2.2.1) ?_
  show Steps p.tables e below (T0.setTop (mkF m 406 #[.val (.long j0), .second, .val (.long j2), .second, .val (.long j4), .second, .val (.int i6), .val (.long j7), .second, .val (.long j9), .second, .val (.long j11), .second, .val (.ref o13), .val (.ref o14), .val (.double d15), .second, .val (.double d17), .second, .val (.int (1 : Int32)), .val (.int i20), .unset] [])) _
  refine XS.iconst X0.here hx rfl (hb hby at_406) ?_
  show Steps p.tables e below (T0.setTop (mkF m 407 #[.val (.long j0), .second, .val (.long j2), .second, .val (.long j4), .second, .val (.int i6), .val (.long j7), .second, .val (.long j9), .second, .val (.long j11), .second, .val (.ref o13), .val (.ref o14), .val (.double d15), .second, .val (.double d17), .second, .val (.int (1 : Int32)), .val (.int i20), .unset] [(.int (1 : Int32))])) _
  refine XS.goto X0.here hx rfl (pc0 := 407) (pc' := 411) rfl (hb hby at_407) (by decide) (by decide) ?_
  show Steps p.tables e below (T0.setTop (mkF m 411 #[.val (.long j0), .second, .val (.long j2), .second, .val (.long j4), .second, .val (.int i6), .val (.long j7), .second, .val (.long j9), .second, .val (.long j11), .second, .val (.ref o13), .val (.ref o14), .val (.double d15), .second, .val (.double d17), .second, .val (.int (1 : Int32)), .val (.int i20), .unset] [(.int (1 : Int32))])) _
  refine XS.istore X0.here hx rfl (hb hby at_411) rfl (l' := #[.val (.long j0), .second, .val (.long j2), .second, .val (.long j4), .second, .val (.int i6), .val (.long j7), .second, .val (.long j9), .second, .val (.long j11), .second, .val (.ref o13), .val (.ref o14), .val (.double d15), .second, .val (.double d17), .second, .val (.int (1 : Int32)), .val (.int i20), .unset]) rfl ?_
  exact kt
set_option maxRecDepth 65536 in
set_option maxHeartbeats 40000000 in
theorem sgK {p : Program} {l : Launch} {e : Env} {R : Room} {s : State} {m : MethodId} {args : Array Value} {below : List Frame} {meth : Method} {c : Code} {T0 : State} {locs : List Loc} {cells slots : Nat} {Z : State} {a0 : Array Value} {h0 : Heap} (j0 : Int64) (j2 : Int64) (j4 : Int64) (i6 : Int32) (j7 : Int64) (j9 : Int64) (j11 : Int64) (o13 : Addr) (o14 : Addr) (d15 : UInt64) (d17 : UInt64) (i20 : Int32)
    (X0 : Stand p l e R s m args below meth c T0 locs cells slots) (hx : p.tables.exec = Jvm.exec) (hZ : Z.Warmed39 s.vm) (hw : ∀ d ∈ tables_1, d.before a0 Z = true) (hby : c.code = code) (hml : c.maxLocals = 22) (hown : s.vm.findClass "com/example/bits_for_sets/bitsforsets/tool/ReplayCountsFalsePositiveRatePinLaw" = some m.cls) (e0 : T0.heap = h0) (H : (((0 : Int32) < (lcmpW j11 j9))) ∨ ((¬ ((0 : Int32) < (lcmpW j11 j9))) ∧ (¬ ((1 : Int32) = (0 : Int32))) ∧ (¬ ((0 : Int32) < (cmpValue (FP.dcmp d17 d15) .g))))) :
    ∃ (T' : State), Stand p l e R s m args below meth c T' locs cells slots ∧ T'.heap = h0 ∧
      ∀ target, Steps p.tables e below (T'.setTop (mkF m 413 #[.val (.long j0), .second, .val (.long j2), .second, .val (.long j4), .second, .val (.int i6), .val (.long j7), .second, .val (.long j9), .second, .val (.long j11), .second, .val (.ref o13), .val (.ref o14), .val (.double d15), .second, .val (.double d17), .second, .val (.int (1 : Int32)), .val (.int i20), .unset] [])) target → Steps p.tables e below (T0.setTop (mkF m 385 #[.val (.long j0), .second, .val (.long j2), .second, .val (.long j4), .second, .val (.int i6), .val (.long j7), .second, .val (.long j9), .second, .val (.long j11), .second, .val (.ref o13), .val (.ref o14), .val (.double d15), .second, .val (.double d17), .second, .val (.int (1 : Int32)), .val (.int i20), .unset] [])) target := by
  rcases H with hc390 | ⟨hc390, hc395, hc403⟩
  · exact tn0_385_413_t_sgK j0 j2 j4 i6 j7 j9 j11 o13 o14 d15 d17 i20 X0 hx hZ hw hby hml hown e0 hc390
  · exact tn0_385_413_fff_sgK j0 j2 j4 i6 j7 j9 j11 o13 o14 d15 d17 i20 X0 hx hZ hw hby hml hown e0 hc390 hc395 hc403
section OwnRate
open Jvm.FP.Core
theorem own_r {n f : Int64} (hf : 0 ≤ f.toInt) (hfn : f.toInt ≤ n.toInt) : val64 (own_f4 n f) ≠ .nan ∧ own_z (own_f4 n f) = (own_rz n f : Int) := by
  unfold own_f4 own_rz
  by_cases h : n.toInt = 0
  · rw [if_pos ((lw_eq _ _).mpr (Int64.toInt_inj.mp (by rw [h]; decide))), if_pos h]; exact own_z0
  · rw [if_neg (fun q => h (by rw [(lw_eq _ _).mp q]; decide)), if_neg h]
    exact own_zr (own_div hf (by omega))
end OwnRate
theorem own_nn_nn (q1 : Int64) (p4 : Int32) : 0 ≤ (own_sgB_7 p4 (own_sgA_7 q1 p4)).toInt := by
  have h1 : 0 ≤ (own_sgA_7 q1 p4).toInt := by
    unfold own_sgA_7
    split
    · exact (own_land q1 _ (by decide)).1
    · exact (own_land _ _ (by decide)).1
  unfold own_sgB_7
  split
  · exact h1
  · exact (own_land _ _ (by decide)).1
theorem own_f1_in (q2 : Int64) (p4 : Int32) {n : Int64} (hn : 0 ≤ n.toInt) : 0 ≤ (own_sgC_9 q2 p4 n).toInt ∧ (own_sgC_9 q2 p4 n).toInt ≤ n.toInt := by
  unfold own_sgC_9
  split
  · exact own_rem (own_land q2 _ (by decide)).1 hn
  · rw [(c_ldiv n 2 2 (by decide) (by decide)).1 hn]; omega
theorem pn_0 : plainName "com/example/bits_for_sets/bitsforsets/tool/ReplayCountsFalsePositiveRatePinLaw" = true := by first | (simp [plainName, overriddenIn]; done) | decide +kernel
theorem pd_0_0 : parseMethodDescriptor "(JJJJJJLjava/util/Optional;Ljava/util/Optional;)V" = some ⟨[.long, .long, .long, .long, .long, .long, (.object "java/util/Optional"), (.object "java/util/Optional")], none⟩ := by decide +kernel
theorem pd_0_2 : parseMethodDescriptor "()D" = some ⟨[], some .double⟩ := by decide +kernel
theorem ef_0 (m : MethodId) (x0 : Int64) (x1 : Int64) (x2 : Int64) (x3 : Int32) : entryFrame m #[(.long x0), (.long x1), (.long x2), (.int x3)] maxLocals = mkF m 0 #[.val (.long x0), .second, .val (.long x1), .second, .val (.long x2), .second, .val (.int x3), .unset, .unset, .unset, .unset, .unset, .unset, .unset, .unset, .unset, .unset, .unset, .unset, .unset, .unset, .unset] [] := by first | (simp [entryFrame, mkF, argsToLocals, Value.category, maxLocals]; done) | rfl
def Q0 (Z : State) (h0 : Heap) (n0 : Nat) (v : Option Value) (h : Heap) (L : List Loc) : Prop := v = some (.int (1 : Int32)) ∧ Fr n0 L
set_option maxRecDepth 65536 in
set_option maxHeartbeats 40000000 in
theorem rm0N (l : Launch) (Z : State) (a0 : Array Value) (hw : ∀ d ∈ tables_1, d.before a0 Z = true) (ws : List Jvm.Cond) (q1 : Int64) (q2 : Int64) (q3 : Int64) (p4 : Int32) (nn : Int64) (f1 : Int64) (f2 : Int64) (r1 : UInt64) (r2 : UInt64) (ex : Int32) (h0 : Heap) (n0 : Nat) (Z0 : n0 ≤ h0.size) (h_nn : (own_sgB_7 p4 (own_sgA_7 q1 p4)) = nn) (hnz62_sgC : ¬ ((nn + (1 : Int64)) = (0 : Int64))) (hnz75_sgC : ¬ ((nn + (1 : Int64)) = (0 : Int64))) (h_f1 : (own_sgC_9 q2 p4 nn) = f1) (h_f2 : ((q3 &&& (9223372036854775807 : Int64)) - ((q3 &&& (9223372036854775807 : Int64)) / (nn + (1 : Int64))) * (nn + (1 : Int64))) = f2) (h_r1 : (own_f4 nn f1) = r1) (h_r2 : (own_f4 nn f2) = r2) (H_sgE : ((¬ ((0 : Int32) < (cmpValue (FP.dcmp FP.dconst0 r1) .g))) ∧ (¬ ((0 : Int32) < (cmpValue (FP.dcmp r1 FP.dconst1) .g))) ∧ (¬ ((0 : Int32) < (cmpValue (FP.dcmp FP.dconst0 r2) .g))) ∧ (¬ ((0 : Int32) < (cmpValue (FP.dcmp r2 FP.dconst1) .g))))) (H_sgF : ((¬ ((1 : Int32) = (0 : Int32))) ∧ ((cmpValue (FP.dcmp r1 FP.dconst0) .l) = (0 : Int32)) ∧ ((lcmpW f1 (0 : Int64)) = (0 : Int32))) ∨ ((¬ ((1 : Int32) = (0 : Int32))) ∧ (¬ ((cmpValue (FP.dcmp r1 FP.dconst0) .l) = (0 : Int32))) ∧ (¬ ((lcmpW f1 (0 : Int64)) = (0 : Int32))) ∧ (¬ ((lcmpW nn (0 : Int64)) = (0 : Int32))))) (H_sgG : ((¬ ((0 : Int32) < (lcmpW nn (0 : Int64))))) ∨ (((0 : Int32) < (lcmpW nn (0 : Int64))) ∧ (¬ ((lcmpW f1 nn) = (0 : Int32)))) ∨ (((0 : Int32) < (lcmpW nn (0 : Int64))) ∧ ((lcmpW f1 nn) = (0 : Int32)) ∧ (¬ ((1 : Int32) = (0 : Int32))) ∧ ((cmpValue (FP.dcmp r1 FP.dconst1) .l) = (0 : Int32)))) (h_ex : (own_sgH_20 nn) = ex) (H_sgI : ((¬ ((0 : Int32) < (lcmpW nn (0 : Int64))))) ∨ (((0 : Int32) < (lcmpW nn (0 : Int64))) ∧ (ex = (0 : Int32))) ∨ (((0 : Int32) < (lcmpW nn (0 : Int64))) ∧ (¬ (ex = (0 : Int32))) ∧ (¬ ((1 : Int32) = (0 : Int32))) ∧ ((cmpValue (FP.dcmp r1 FP.dconst1) .l) = (0 : Int32)) ∧ ((lcmpW f1 nn) = (0 : Int32)) ∧ (¬ ((lcmpW (nn &&& (1 : Int64)) (0 : Int64)) = (0 : Int32)))) ∨ (((0 : Int32) < (lcmpW nn (0 : Int64))) ∧ (¬ (ex = (0 : Int32))) ∧ (¬ ((1 : Int32) = (0 : Int32))) ∧ ((cmpValue (FP.dcmp r1 FP.dconst1) .l) = (0 : Int32)) ∧ ((lcmpW f1 nn) = (0 : Int32)) ∧ ((lcmpW (nn &&& (1 : Int64)) (0 : Int64)) = (0 : Int32)) ∧ (¬ ((lcmpW f1 (nn / (2 : Int64))) = (0 : Int32)))) ∨ (((0 : Int32) < (lcmpW nn (0 : Int64))) ∧ (¬ (ex = (0 : Int32))) ∧ (¬ ((1 : Int32) = (0 : Int32))) ∧ ((cmpValue (FP.dcmp r1 FP.dconst1) .l) = (0 : Int32)) ∧ ((lcmpW f1 nn) = (0 : Int32)) ∧ ((lcmpW (nn &&& (1 : Int64)) (0 : Int64)) = (0 : Int32)) ∧ ((lcmpW f1 (nn / (2 : Int64))) = (0 : Int32)) ∧ (¬ ((1 : Int32) = (0 : Int32))) ∧ ((cmpValue (FP.dcmp r1 (4602678819172646912 : UInt64)) .l) = (0 : Int32))) ∨ (((0 : Int32) < (lcmpW nn (0 : Int64))) ∧ (¬ (ex = (0 : Int32))) ∧ (¬ ((1 : Int32) = (0 : Int32))) ∧ (¬ ((cmpValue (FP.dcmp r1 FP.dconst1) .l) = (0 : Int32))) ∧ (¬ ((lcmpW f1 nn) = (0 : Int32))) ∧ (¬ ((lcmpW (nn &&& (1 : Int64)) (0 : Int64)) = (0 : Int32)))) ∨ (((0 : Int32) < (lcmpW nn (0 : Int64))) ∧ (¬ (ex = (0 : Int32))) ∧ (¬ ((1 : Int32) = (0 : Int32))) ∧ (¬ ((cmpValue (FP.dcmp r1 FP.dconst1) .l) = (0 : Int32))) ∧ (¬ ((lcmpW f1 nn) = (0 : Int32))) ∧ ((lcmpW (nn &&& (1 : Int64)) (0 : Int64)) = (0 : Int32)) ∧ (¬ ((lcmpW f1 (nn / (2 : Int64))) = (0 : Int32)))) ∨ (((0 : Int32) < (lcmpW nn (0 : Int64))) ∧ (¬ (ex = (0 : Int32))) ∧ (¬ ((1 : Int32) = (0 : Int32))) ∧ (¬ ((cmpValue (FP.dcmp r1 FP.dconst1) .l) = (0 : Int32))) ∧ (¬ ((lcmpW f1 nn) = (0 : Int32))) ∧ ((lcmpW (nn &&& (1 : Int64)) (0 : Int64)) = (0 : Int32)) ∧ ((lcmpW f1 (nn / (2 : Int64))) = (0 : Int32)) ∧ (¬ ((1 : Int32) = (0 : Int32))) ∧ ((cmpValue (FP.dcmp r1 (4602678819172646912 : UInt64)) .l) = (0 : Int32)))) (H_sgJ : (((0 : Int32) < (lcmpW f1 f2))) ∨ ((¬ ((0 : Int32) < (lcmpW f1 f2))) ∧ (¬ ((1 : Int32) = (0 : Int32))) ∧ (¬ ((0 : Int32) < (cmpValue (FP.dcmp r1 r2) .g))))) (H_sgK : (((0 : Int32) < (lcmpW f2 f1))) ∨ ((¬ ((0 : Int32) < (lcmpW f2 f1))) ∧ (¬ ((1 : Int32) = (0 : Int32))) ∧ (¬ ((0 : Int32) < (cmpValue (FP.dcmp r2 r1) .g))))) (hc419 : ¬ ((lcmpW nn (4503599627370496 : Int64)) < (0 : Int32))) :
    MetFree l x (head1 (Jvm.Cond.code x code maxLocals ret :: ws) room_1) (fun a U => a = #[(.long q1), (.long q2), (.long q3), (.int p4)] ∧ Z.Warmed39 U.vm ∧ U.heap = h0) (fun _ _ _ _ _ => True) (fun _ U o U' => ∃ v L, o = .returned v ∧ Q0 Z h0 n0 v U'.heap L ∧ FrameEnd U o U' L room_1.cells room_1.slots) := by
  refine MetFree.of_bodySF (plainFor_of_name pn_0) hisR ?_
  intro p e s m args below meth c s₁ Bd hml0 hP hK
  obtain ⟨rfl, hZ, hh⟩ := hP
  have hx := Bd.exec
  have hby := Bd.bytes
  have hml : c.maxLocals = 22 := hml0
  have hown : s.vm.findClass "com/example/bits_for_sets/bitsforsets/tool/ReplayCountsFalsePositiveRatePinLaw" = some m.cls := findClass_of_methodNamed Bd.named
  have hnm := (name_of_methodNamed Bd.named Bd.method).1
  have X0 : Stand p l e room_1 s m #[(.long q1), (.long q2), (.long q3), (.int p4)] below meth c s₁ [] 0 0 := Stand.of_body Bd
  have e0 : s₁.heap = h0 := by rw [← hh, Bd.state]; rfl
  have N0 := Fr.nil n0
  have pre0 : ∀ t, Steps p.tables e below (s₁.setTop (mkF m 0 #[.val (.long q1), .second, .val (.long q2), .second, .val (.long q3), .second, .val (.int p4), .unset, .unset, .unset, .unset, .unset, .unset, .unset, .unset, .unset, .unset, .unset, .unset, .unset, .unset, .unset] [])) t → Steps p.tables e below (s₁.setTop (entryFrame m #[(.long q1), (.long q2), (.long q3), (.int p4)] maxLocals)) t := fun t k => castTop (ef_0 m q1 q2 q3 p4) k
  obtain ⟨T5, X5, e5, st5⟩ := sgA q1 q2 q3 p4 X0 hx hZ hw hby hml hown e0 
  obtain ⟨T6, X6, e6, st6⟩ := sgB q1 q2 q3 p4 ((own_sgA_7 q1 p4)) X5 hx hZ hw hby hml hown e5 
  rw [h_nn] at st6
  obtain ⟨T7, X7, e7, st7⟩ := sgC q1 q2 q3 p4 nn X6 hx hZ hw hby hml hown e6 hnz62_sgC hnz75_sgC
  rw [h_f1] at st7
  rw [h_f2] at st7
  obtain ⟨T8, h8, X8, e8, E8, A8, D8, -, st8⟩ := newO X7 hx hZ hown (hw _ (List.mem_of_getElem? (i := 2) rfl)) (hw _ (List.mem_of_getElem? (i := 3) rfl)) (hw _ (List.mem_of_getElem? (i := 4) rfl)) e7 (g := (mkF m 78 #[.val (.long q1), .second, .val (.long q2), .second, .val (.long q3), .second, .val (.int p4), .val (.long nn), .second, .val (.long f1), .second, .val (.long f2), .second, .unset, .unset, .unset, .unset, .unset, .unset, .unset, .unset, .unset] [])) rfl (hb hby at_78) (by decide) (by decide)
  obtain ⟨b8, g8⟩ : ∃ z, z = h0.size := ⟨_, rfl⟩
  rw [← g8] at A8 D8 st8
  have F_inserted_b8 : Fld Z h8 b8 "com/example/bits_for_sets/bitsforsets/tool/ReplayCounts" "inserted" "J" (.long (0 : Int64)) := D8 (Or.inr (hw _ (List.mem_of_getElem? (i := 17) rfl))) (ty := .long) (by decide)
  have F_held_b8 : Fld Z h8 b8 "com/example/bits_for_sets/bitsforsets/tool/ReplayCounts" "held" "J" (.long (0 : Int64)) := D8 (Or.inr (hw _ (List.mem_of_getElem? (i := 19) rfl))) (ty := .long) (by decide)
  have F_queries_b8 : Fld Z h8 b8 "com/example/bits_for_sets/bitsforsets/tool/ReplayCounts" "queries" "J" (.long (0 : Int64)) := D8 (Or.inr (hw _ (List.mem_of_getElem? (i := 21) rfl))) (ty := .long) (by decide)
  have F_negatives_b8 : Fld Z h8 b8 "com/example/bits_for_sets/bitsforsets/tool/ReplayCounts" "negatives" "J" (.long (0 : Int64)) := D8 (Or.inr (hw _ (List.mem_of_getElem? (i := 23) rfl))) (ty := .long) (by decide)
  have F_falsePositives_b8 : Fld Z h8 b8 "com/example/bits_for_sets/bitsforsets/tool/ReplayCounts" "falsePositives" "J" (.long (0 : Int64)) := D8 (Or.inr (hw _ (List.mem_of_getElem? (i := 25) rfl))) (ty := .long) (by decide)
  have F_falseNegatives_b8 : Fld Z h8 b8 "com/example/bits_for_sets/bitsforsets/tool/ReplayCounts" "falseNegatives" "J" (.long (0 : Int64)) := D8 (Or.inr (hw _ (List.mem_of_getElem? (i := 27) rfl))) (ty := .long) (by decide)
  have F_deletions_b8 : Fld Z h8 b8 "com/example/bits_for_sets/bitsforsets/tool/ReplayCounts" "deletions" "Ljava/util/Optional;" .null := D8 (Or.inr (hw _ (List.mem_of_getElem? (i := 29) rfl))) (ty := (.object "java/util/Optional")) (by decide)
  have F_adaptations_b8 : Fld Z h8 b8 "com/example/bits_for_sets/bitsforsets/tool/ReplayCounts" "adaptations" "Ljava/util/Optional;" .null := D8 (Or.inr (hw _ (List.mem_of_getElem? (i := 31) rfl))) (ty := (.object "java/util/Optional")) (by decide)
  have E_b8 := A8
  have g_b8 : n0 ≤ b8 := Nat.le_trans Z0 (Nat.le_of_eq g8.symm)
  obtain ⟨_, _, ⟨T9, L9, k9, n9⟩, -, X9, ⟨Lc9, hQ9, l9, y9, z9⟩, st9⟩ := X8.specialBack hx (y := (⟨"com/example/bits_for_sets/bitsforsets/tool/ReplayCounts", "<init>", "(JJJJJJLjava/util/Optional;Ljava/util/Optional;)V"⟩ : MethodName)) rfl hown (mvT hZ (hw _ (List.mem_of_getElem? (i := 5) rfl))) (mvT hZ (hw _ (List.mem_of_getElem? (i := 6) rfl))) (mvT hZ (hw _ (List.mem_of_getElem? (i := 7) rfl))) (by decide) (backOf (W := 1) (rm1 l Z a0 hw [] b8 (0 : Int64) (0 : Int64) nn nn f1 (0 : Int64) (.long (0 : Int64)) (.long (0 : Int64)) (.long (0 : Int64)) (.long (0 : Int64)) (.long (0 : Int64)) (.long (0 : Int64)) .null .null h8 n0 (Nat.le_trans Z0 E8.1) E_b8 F_inserted_b8 g_b8 F_held_b8 F_queries_b8 F_negatives_b8 F_falsePositives_b8 F_falseNegatives_b8 F_deletions_b8 F_adaptations_b8) hZ (hw _ (List.mem_of_getElem? (i := 7) rfl)) (hw _ (List.mem_of_getElem? (i := 4) rfl)) (by decide) (by decide)) (g := (mkF m 93 #[.val (.long q1), .second, .val (.long q2), .second, .val (.long q3), .second, .val (.int p4), .val (.long nn), .second, .val (.long f1), .second, .val (.long f2), .second, .unset, .unset, .unset, .unset, .unset, .unset, .unset, .unset, .unset] [.null, .null, (.long (0 : Int64)), (.long f1), (.long nn), (.long nn), (.long (0 : Int64)), (.long (0 : Int64)), (.ref b8), (.ref b8)])) rfl (by rw [hml]; rfl) (Steps.refl _) (a := b8) (argsL := [(.long (0 : Int64)), (.long (0 : Int64)), (.long nn), (.long nn), (.long f1), (.long (0 : Int64)), .null, .null]) (rest := [(.ref b8)]) (lenOf pd_0_0 rfl) rfl (by show 2 * 0 + _ ≤ _; exact Nat.le_of_eq rfl) (hb hby at_93) (fun _ _ => ⟨rfl, e8, (by decide : 1 + 0 ≤ _), (by decide : 8 + 0 ≤ _)⟩)
  dsimp only [Pt.U, Pt.locs, Pt.cells, Pt.slots] at X9 l9 y9 z9 st9 hQ9
  subst l9 y9 z9
  obtain ⟨rfl, N9q, K9, gE9, gF_inserted_9, gF_held_9, gF_queries_9, gF_negatives_9, gF_falsePositives_9, gF_falseNegatives_9, gF_deletions_9, gF_adaptations_9⟩ := hQ9
  have N9 := Fr.app N0 N9q
  obtain ⟨T10, h10, X10, e10, E10, A10, D10, -, st10⟩ := newO X9 hx hZ hown (hw _ (List.mem_of_getElem? (i := 2) rfl)) (hw _ (List.mem_of_getElem? (i := 3) rfl)) (hw _ (List.mem_of_getElem? (i := 4) rfl)) rfl (g := (mkF m 98 #[.val (.long q1), .second, .val (.long q2), .second, .val (.long q3), .second, .val (.int p4), .val (.long nn), .second, .val (.long f1), .second, .val (.long f2), .second, .val (.ref b8), .unset, .unset, .unset, .unset, .unset, .unset, .unset, .unset] [])) rfl (hb hby at_98) (by decide) (by decide)
  obtain ⟨b10, g10⟩ : ∃ z, z = T9.heap.size := ⟨_, rfl⟩
  rw [← g10] at A10 D10 st10
  have F_inserted_b10 : Fld Z h10 b10 "com/example/bits_for_sets/bitsforsets/tool/ReplayCounts" "inserted" "J" (.long (0 : Int64)) := D10 (Or.inr (hw _ (List.mem_of_getElem? (i := 17) rfl))) (ty := .long) (by decide)
  have F_held_b10 : Fld Z h10 b10 "com/example/bits_for_sets/bitsforsets/tool/ReplayCounts" "held" "J" (.long (0 : Int64)) := D10 (Or.inr (hw _ (List.mem_of_getElem? (i := 19) rfl))) (ty := .long) (by decide)
  have F_queries_b10 : Fld Z h10 b10 "com/example/bits_for_sets/bitsforsets/tool/ReplayCounts" "queries" "J" (.long (0 : Int64)) := D10 (Or.inr (hw _ (List.mem_of_getElem? (i := 21) rfl))) (ty := .long) (by decide)
  have F_negatives_b10 : Fld Z h10 b10 "com/example/bits_for_sets/bitsforsets/tool/ReplayCounts" "negatives" "J" (.long (0 : Int64)) := D10 (Or.inr (hw _ (List.mem_of_getElem? (i := 23) rfl))) (ty := .long) (by decide)
  have F_falsePositives_b10 : Fld Z h10 b10 "com/example/bits_for_sets/bitsforsets/tool/ReplayCounts" "falsePositives" "J" (.long (0 : Int64)) := D10 (Or.inr (hw _ (List.mem_of_getElem? (i := 25) rfl))) (ty := .long) (by decide)
  have F_falseNegatives_b10 : Fld Z h10 b10 "com/example/bits_for_sets/bitsforsets/tool/ReplayCounts" "falseNegatives" "J" (.long (0 : Int64)) := D10 (Or.inr (hw _ (List.mem_of_getElem? (i := 27) rfl))) (ty := .long) (by decide)
  have F_deletions_b10 : Fld Z h10 b10 "com/example/bits_for_sets/bitsforsets/tool/ReplayCounts" "deletions" "Ljava/util/Optional;" .null := D10 (Or.inr (hw _ (List.mem_of_getElem? (i := 29) rfl))) (ty := (.object "java/util/Optional")) (by decide)
  have F_adaptations_b10 : Fld Z h10 b10 "com/example/bits_for_sets/bitsforsets/tool/ReplayCounts" "adaptations" "Ljava/util/Optional;" .null := D10 (Or.inr (hw _ (List.mem_of_getElem? (i := 31) rfl))) (ty := (.object "java/util/Optional")) (by decide)
  have E_b10 := A10
  have g_b10 : n0 ≤ b10 := Nat.le_trans (Nat.le_trans (Nat.le_trans Z0 E8.1) K9.1) (Nat.le_of_eq g10.symm)
  obtain ⟨_, _, ⟨T11, L11, k11, n11⟩, -, X11, ⟨Lc11, hQ11, l11, y11, z11⟩, st11⟩ := X10.specialBack hx (y := (⟨"com/example/bits_for_sets/bitsforsets/tool/ReplayCounts", "<init>", "(JJJJJJLjava/util/Optional;Ljava/util/Optional;)V"⟩ : MethodName)) rfl hown (mvT hZ (hw _ (List.mem_of_getElem? (i := 5) rfl))) (mvT hZ (hw _ (List.mem_of_getElem? (i := 6) rfl))) (mvT hZ (hw _ (List.mem_of_getElem? (i := 7) rfl))) (by decide) (backOf (W := 1) (rm1 l Z a0 hw [] b10 (0 : Int64) (0 : Int64) nn nn f2 (0 : Int64) (.long (0 : Int64)) (.long (0 : Int64)) (.long (0 : Int64)) (.long (0 : Int64)) (.long (0 : Int64)) (.long (0 : Int64)) .null .null h10 n0 (Nat.le_trans (Nat.le_trans (Nat.le_trans Z0 E8.1) K9.1) E10.1) E_b10 F_inserted_b10 g_b10 F_held_b10 F_queries_b10 F_negatives_b10 F_falsePositives_b10 F_falseNegatives_b10 F_deletions_b10 F_adaptations_b10) hZ (hw _ (List.mem_of_getElem? (i := 7) rfl)) (hw _ (List.mem_of_getElem? (i := 4) rfl)) (by decide) (by decide)) (g := (mkF m 113 #[.val (.long q1), .second, .val (.long q2), .second, .val (.long q3), .second, .val (.int p4), .val (.long nn), .second, .val (.long f1), .second, .val (.long f2), .second, .val (.ref b8), .unset, .unset, .unset, .unset, .unset, .unset, .unset, .unset] [.null, .null, (.long (0 : Int64)), (.long f2), (.long nn), (.long nn), (.long (0 : Int64)), (.long (0 : Int64)), (.ref b10), (.ref b10)])) rfl (by rw [hml]; rfl) (Steps.refl _) (a := b10) (argsL := [(.long (0 : Int64)), (.long (0 : Int64)), (.long nn), (.long nn), (.long f2), (.long (0 : Int64)), .null, .null]) (rest := [(.ref b10)]) (lenOf pd_0_0 rfl) rfl (by show 2 * 0 + _ ≤ _; exact Nat.le_of_eq rfl) (hb hby at_113) (fun _ _ => ⟨rfl, e10, (by decide : 2 + 0 ≤ _), (by decide : 16 + 0 ≤ _)⟩)
  dsimp only [Pt.U, Pt.locs, Pt.cells, Pt.slots] at X11 l11 y11 z11 st11 hQ11
  subst l11 y11 z11
  obtain ⟨rfl, N11q, K11, gE11, gF_inserted_11, gF_held_11, gF_queries_11, gF_negatives_11, gF_falsePositives_11, gF_falseNegatives_11, gF_deletions_11, gF_adaptations_11⟩ := hQ11
  have N11 := Fr.app N9 N11q
  obtain ⟨cq12, kq12, q12a, q12b, q12c⟩ := isOf hZ rfl ((gE9.ext E10).keep K11)
  obtain ⟨_, _, ⟨T12, L12, k12, n12⟩, -, X12, ⟨Lc12, hQ12, l12, y12, z12⟩, st12⟩ := X11.virtualBack hx (y := (⟨"com/example/bits_for_sets/bitsforsets/tool/ReplayCounts", "falsePositiveRate", "()D"⟩ : MethodName)) (z := (⟨"com/example/bits_for_sets/bitsforsets/tool/ReplayCounts", "falsePositiveRate", "()D"⟩ : MethodName)) hown (mvT hZ (hw _ (List.mem_of_getElem? (i := 32) rfl))) (mvT hZ (hw _ (List.mem_of_getElem? (i := 33) rfl))) (notFace_of_selects (args := #[]) (mvT hZ (hw _ (List.mem_of_getElem? (i := 35) rfl)))) (mvT hZ (hw _ (List.mem_of_getElem? (i := 35) rfl))) (mvT hZ (hw _ (List.mem_of_getElem? (i := 34) rfl))) (by decide) (backOf (W := 0) (rm4 l Z a0 hw [] b8 nn f1 T11.heap n0 (Nat.le_trans (Nat.le_trans (Nat.le_trans (Nat.le_trans Z0 E8.1) K9.1) E10.1) K11.1) ((gF_negatives_9.ext E10).keep K11 (fun q => (Nat.ne_of_lt (Nat.lt_of_lt_of_le gE9.lt (Nat.le_of_eq g10.symm))) (List.mem_singleton.mp q))) ((gF_falsePositives_9.ext E10).keep K11 (fun q => (Nat.ne_of_lt (Nat.lt_of_lt_of_le gE9.lt (Nat.le_of_eq g10.symm))) (List.mem_singleton.mp q)))) hZ (hw _ (List.mem_of_getElem? (i := 36) rfl)) (hw _ (List.mem_of_getElem? (i := 4) rfl)) (by decide) (by decide)) q12a q12c (g := (mkF m 120 #[.val (.long q1), .second, .val (.long q2), .second, .val (.long q3), .second, .val (.int p4), .val (.long nn), .second, .val (.long f1), .second, .val (.long f2), .second, .val (.ref b8), .val (.ref b10), .unset, .unset, .unset, .unset, .unset, .unset, .unset] [(.ref b8)])) rfl (by rw [hml]; rfl) (Steps.refl _) (argsL := []) (rest := []) (lenOf pd_0_2 rfl) rfl (by show 2 * 0 + _ ≤ _; exact Nat.le_of_eq rfl) (hb hby at_120) (fun _ _ => ⟨rfl, rfl, (by decide : 2 + 0 ≤ _), (by decide : 16 + 0 ≤ _)⟩)
  dsimp only [Pt.U, Pt.locs, Pt.cells, Pt.slots] at X12 l12 y12 z12 st12 hQ12
  subst l12 y12 z12
  obtain ⟨rfl, N12q, e12⟩ := hQ12
  have N12 := Fr.app N11 N12q
  rw [h_r1] at st12
  obtain ⟨cq13, kq13, q13a, q13b, q13c⟩ := isOf hZ e12 gE11
  obtain ⟨_, _, ⟨T13, L13, k13, n13⟩, -, X13, ⟨Lc13, hQ13, l13, y13, z13⟩, st13⟩ := X12.virtualBack hx (y := (⟨"com/example/bits_for_sets/bitsforsets/tool/ReplayCounts", "falsePositiveRate", "()D"⟩ : MethodName)) (z := (⟨"com/example/bits_for_sets/bitsforsets/tool/ReplayCounts", "falsePositiveRate", "()D"⟩ : MethodName)) hown (mvT hZ (hw _ (List.mem_of_getElem? (i := 32) rfl))) (mvT hZ (hw _ (List.mem_of_getElem? (i := 33) rfl))) (notFace_of_selects (args := #[]) (mvT hZ (hw _ (List.mem_of_getElem? (i := 35) rfl)))) (mvT hZ (hw _ (List.mem_of_getElem? (i := 35) rfl))) (mvT hZ (hw _ (List.mem_of_getElem? (i := 34) rfl))) (by decide) (backOf (W := 0) (rm4 l Z a0 hw [] b10 nn f2 T11.heap n0 (Nat.le_trans (Nat.le_trans (Nat.le_trans (Nat.le_trans Z0 E8.1) K9.1) E10.1) K11.1) gF_negatives_11 gF_falsePositives_11) hZ (hw _ (List.mem_of_getElem? (i := 36) rfl)) (hw _ (List.mem_of_getElem? (i := 4) rfl)) (by decide) (by decide)) q13a q13c (g := (mkF m 127 #[.val (.long q1), .second, .val (.long q2), .second, .val (.long q3), .second, .val (.int p4), .val (.long nn), .second, .val (.long f1), .second, .val (.long f2), .second, .val (.ref b8), .val (.ref b10), .val (.double r1), .second, .unset, .unset, .unset, .unset, .unset] [(.ref b10)])) rfl (by rw [hml]; rfl) (Steps.refl _) (argsL := []) (rest := []) (lenOf pd_0_2 rfl) rfl (by show 2 * 0 + _ ≤ _; exact Nat.le_of_eq rfl) (hb hby at_127) (fun _ _ => ⟨rfl, e12, (by decide : 2 + 0 ≤ _), (by decide : 16 + 0 ≤ _)⟩)
  dsimp only [Pt.U, Pt.locs, Pt.cells, Pt.slots] at X13 l13 y13 z13 st13 hQ13
  subst l13 y13 z13
  obtain ⟨rfl, N13q, e13⟩ := hQ13
  have N13 := Fr.app N12 N13q
  rw [h_r2] at st13
  obtain ⟨T14, X14, e14, st14⟩ := sgE q1 q2 q3 p4 nn f1 f2 b8 b10 r1 r2 X13 hx hZ hw hby hml hown e13 H_sgE
  obtain ⟨T15, X15, e15, st15⟩ := sgF q1 q2 q3 p4 nn f1 f2 b8 b10 r1 r2 X14 hx hZ hw hby hml hown e14 H_sgF
  obtain ⟨T16, X16, e16, st16⟩ := sgG q1 q2 q3 p4 nn f1 f2 b8 b10 r1 r2 X15 hx hZ hw hby hml hown e15 H_sgG
  obtain ⟨T17, X17, e17, st17⟩ := sgH q1 q2 q3 p4 nn f1 f2 b8 b10 r1 r2 ((1 : Int32)) X16 hx hZ hw hby hml hown e16 
  rw [h_ex] at st17
  obtain ⟨T18, X18, e18, st18⟩ := sgI q1 q2 q3 p4 nn f1 f2 b8 b10 r1 r2 ex X17 hx hZ hw hby hml hown e17 H_sgI
  obtain ⟨T19, X19, e19, st19⟩ := sgJ q1 q2 q3 p4 nn f1 f2 b8 b10 r1 r2 ex X18 hx hZ hw hby hml hown e18 H_sgJ
  obtain ⟨T20, X20, e20, st20⟩ := sgK q1 q2 q3 p4 nn f1 f2 b8 b10 r1 r2 ex X19 hx hZ hw hby hml hown e19 H_sgK
  obtain ⟨fs, hr, hrun, hended, hW, hsame⟩ := X20.leave (v := some (.int (1 : Int32))) (fun h => by rw [Bd.returns] at h; cases h)
  refine ⟨_, _, pre0 _ ?_, hrun, hended, _, _, rfl, ?_, ⟨_, rfl⟩, hW, hsame.mono (by decide) (by decide)⟩
  · show Steps p.tables e below (s₁.setTop (mkF m 0 #[.val (.long q1), .second, .val (.long q2), .second, .val (.long q3), .second, .val (.int p4), .unset, .unset, .unset, .unset, .unset, .unset, .unset, .unset, .unset, .unset, .unset, .unset, .unset, .unset, .unset] [])) _
    refine st5 _ ?_
    show Steps p.tables e below (T5.setTop (mkF m 22 #[.val (.long q1), .second, .val (.long q2), .second, .val (.long q3), .second, .val (.int p4), .val (.long (own_sgA_7 q1 p4)), .second, .unset, .unset, .unset, .unset, .unset, .unset, .unset, .unset, .unset, .unset, .unset, .unset, .unset] [])) _
    refine st6 _ ?_
    show Steps p.tables e below (T6.setTop (mkF m 37 #[.val (.long q1), .second, .val (.long q2), .second, .val (.long q3), .second, .val (.int p4), .val (.long nn), .second, .unset, .unset, .unset, .unset, .unset, .unset, .unset, .unset, .unset, .unset, .unset, .unset, .unset] [])) _
    refine st7 _ ?_
    show Steps p.tables e below (T7.setTop (mkF m 78 #[.val (.long q1), .second, .val (.long q2), .second, .val (.long q3), .second, .val (.int p4), .val (.long nn), .second, .val (.long f1), .second, .val (.long f2), .second, .unset, .unset, .unset, .unset, .unset, .unset, .unset, .unset, .unset] [])) _
    refine st8 _ ?_
    show Steps p.tables e below (T8.setTop (mkF m 81 #[.val (.long q1), .second, .val (.long q2), .second, .val (.long q3), .second, .val (.int p4), .val (.long nn), .second, .val (.long f1), .second, .val (.long f2), .second, .unset, .unset, .unset, .unset, .unset, .unset, .unset, .unset, .unset] [(.ref b8)])) _
    refine XS.dup X8.here hx rfl (hb hby at_81) rfl rfl ?_
    show Steps p.tables e below (T8.setTop (mkF m 82 #[.val (.long q1), .second, .val (.long q2), .second, .val (.long q3), .second, .val (.int p4), .val (.long nn), .second, .val (.long f1), .second, .val (.long f2), .second, .unset, .unset, .unset, .unset, .unset, .unset, .unset, .unset, .unset] [(.ref b8), (.ref b8)])) _
    refine XS.lconst X8.here hx rfl (hb hby at_82) ?_
    show Steps p.tables e below (T8.setTop (mkF m 83 #[.val (.long q1), .second, .val (.long q2), .second, .val (.long q3), .second, .val (.int p4), .val (.long nn), .second, .val (.long f1), .second, .val (.long f2), .second, .unset, .unset, .unset, .unset, .unset, .unset, .unset, .unset, .unset] [(.long (0 : Int64)), (.ref b8), (.ref b8)])) _
    refine XS.lconst X8.here hx rfl (hb hby at_83) ?_
    show Steps p.tables e below (T8.setTop (mkF m 84 #[.val (.long q1), .second, .val (.long q2), .second, .val (.long q3), .second, .val (.int p4), .val (.long nn), .second, .val (.long f1), .second, .val (.long f2), .second, .unset, .unset, .unset, .unset, .unset, .unset, .unset, .unset, .unset] [(.long (0 : Int64)), (.long (0 : Int64)), (.ref b8), (.ref b8)])) _
    refine XS.lload X8.here hx rfl (hb hby at_84) rfl ?_
    show Steps p.tables e below (T8.setTop (mkF m 86 #[.val (.long q1), .second, .val (.long q2), .second, .val (.long q3), .second, .val (.int p4), .val (.long nn), .second, .val (.long f1), .second, .val (.long f2), .second, .unset, .unset, .unset, .unset, .unset, .unset, .unset, .unset, .unset] [(.long nn), (.long (0 : Int64)), (.long (0 : Int64)), (.ref b8), (.ref b8)])) _
    refine XS.lload X8.here hx rfl (hb hby at_86) rfl ?_
    show Steps p.tables e below (T8.setTop (mkF m 88 #[.val (.long q1), .second, .val (.long q2), .second, .val (.long q3), .second, .val (.int p4), .val (.long nn), .second, .val (.long f1), .second, .val (.long f2), .second, .unset, .unset, .unset, .unset, .unset, .unset, .unset, .unset, .unset] [(.long nn), (.long nn), (.long (0 : Int64)), (.long (0 : Int64)), (.ref b8), (.ref b8)])) _
    refine XS.lload X8.here hx rfl (hb hby at_88) rfl ?_
    show Steps p.tables e below (T8.setTop (mkF m 90 #[.val (.long q1), .second, .val (.long q2), .second, .val (.long q3), .second, .val (.int p4), .val (.long nn), .second, .val (.long f1), .second, .val (.long f2), .second, .unset, .unset, .unset, .unset, .unset, .unset, .unset, .unset, .unset] [(.long f1), (.long nn), (.long nn), (.long (0 : Int64)), (.long (0 : Int64)), (.ref b8), (.ref b8)])) _
    refine XS.lconst X8.here hx rfl (hb hby at_90) ?_
    show Steps p.tables e below (T8.setTop (mkF m 91 #[.val (.long q1), .second, .val (.long q2), .second, .val (.long q3), .second, .val (.int p4), .val (.long nn), .second, .val (.long f1), .second, .val (.long f2), .second, .unset, .unset, .unset, .unset, .unset, .unset, .unset, .unset, .unset] [(.long (0 : Int64)), (.long f1), (.long nn), (.long nn), (.long (0 : Int64)), (.long (0 : Int64)), (.ref b8), (.ref b8)])) _
    refine XS.aconstNull X8.here hx rfl (hb hby at_91) ?_
    show Steps p.tables e below (T8.setTop (mkF m 92 #[.val (.long q1), .second, .val (.long q2), .second, .val (.long q3), .second, .val (.int p4), .val (.long nn), .second, .val (.long f1), .second, .val (.long f2), .second, .unset, .unset, .unset, .unset, .unset, .unset, .unset, .unset, .unset] [.null, (.long (0 : Int64)), (.long f1), (.long nn), (.long nn), (.long (0 : Int64)), (.long (0 : Int64)), (.ref b8), (.ref b8)])) _
    refine XS.aconstNull X8.here hx rfl (hb hby at_92) ?_
    show Steps p.tables e below (T8.setTop (mkF m 93 #[.val (.long q1), .second, .val (.long q2), .second, .val (.long q3), .second, .val (.int p4), .val (.long nn), .second, .val (.long f1), .second, .val (.long f2), .second, .unset, .unset, .unset, .unset, .unset, .unset, .unset, .unset, .unset] [.null, .null, (.long (0 : Int64)), (.long f1), (.long nn), (.long nn), (.long (0 : Int64)), (.long (0 : Int64)), (.ref b8), (.ref b8)])) _
    refine st9.trans ?_
    show Steps p.tables e below (T9.setTop (mkF m 96 #[.val (.long q1), .second, .val (.long q2), .second, .val (.long q3), .second, .val (.int p4), .val (.long nn), .second, .val (.long f1), .second, .val (.long f2), .second, .unset, .unset, .unset, .unset, .unset, .unset, .unset, .unset, .unset] [(.ref b8)])) _
    refine XS.astore X9.here hx rfl (hb hby at_96) rfl rfl (l' := #[.val (.long q1), .second, .val (.long q2), .second, .val (.long q3), .second, .val (.int p4), .val (.long nn), .second, .val (.long f1), .second, .val (.long f2), .second, .val (.ref b8), .unset, .unset, .unset, .unset, .unset, .unset, .unset, .unset]) rfl ?_
    show Steps p.tables e below (T9.setTop (mkF m 98 #[.val (.long q1), .second, .val (.long q2), .second, .val (.long q3), .second, .val (.int p4), .val (.long nn), .second, .val (.long f1), .second, .val (.long f2), .second, .val (.ref b8), .unset, .unset, .unset, .unset, .unset, .unset, .unset, .unset] [])) _
    refine st10 _ ?_
    show Steps p.tables e below (T10.setTop (mkF m 101 #[.val (.long q1), .second, .val (.long q2), .second, .val (.long q3), .second, .val (.int p4), .val (.long nn), .second, .val (.long f1), .second, .val (.long f2), .second, .val (.ref b8), .unset, .unset, .unset, .unset, .unset, .unset, .unset, .unset] [(.ref b10)])) _
    refine XS.dup X10.here hx rfl (hb hby at_101) rfl rfl ?_
    show Steps p.tables e below (T10.setTop (mkF m 102 #[.val (.long q1), .second, .val (.long q2), .second, .val (.long q3), .second, .val (.int p4), .val (.long nn), .second, .val (.long f1), .second, .val (.long f2), .second, .val (.ref b8), .unset, .unset, .unset, .unset, .unset, .unset, .unset, .unset] [(.ref b10), (.ref b10)])) _
    refine XS.lconst X10.here hx rfl (hb hby at_102) ?_
    show Steps p.tables e below (T10.setTop (mkF m 103 #[.val (.long q1), .second, .val (.long q2), .second, .val (.long q3), .second, .val (.int p4), .val (.long nn), .second, .val (.long f1), .second, .val (.long f2), .second, .val (.ref b8), .unset, .unset, .unset, .unset, .unset, .unset, .unset, .unset] [(.long (0 : Int64)), (.ref b10), (.ref b10)])) _
    refine XS.lconst X10.here hx rfl (hb hby at_103) ?_
    show Steps p.tables e below (T10.setTop (mkF m 104 #[.val (.long q1), .second, .val (.long q2), .second, .val (.long q3), .second, .val (.int p4), .val (.long nn), .second, .val (.long f1), .second, .val (.long f2), .second, .val (.ref b8), .unset, .unset, .unset, .unset, .unset, .unset, .unset, .unset] [(.long (0 : Int64)), (.long (0 : Int64)), (.ref b10), (.ref b10)])) _
    refine XS.lload X10.here hx rfl (hb hby at_104) rfl ?_
    show Steps p.tables e below (T10.setTop (mkF m 106 #[.val (.long q1), .second, .val (.long q2), .second, .val (.long q3), .second, .val (.int p4), .val (.long nn), .second, .val (.long f1), .second, .val (.long f2), .second, .val (.ref b8), .unset, .unset, .unset, .unset, .unset, .unset, .unset, .unset] [(.long nn), (.long (0 : Int64)), (.long (0 : Int64)), (.ref b10), (.ref b10)])) _
    refine XS.lload X10.here hx rfl (hb hby at_106) rfl ?_
    show Steps p.tables e below (T10.setTop (mkF m 108 #[.val (.long q1), .second, .val (.long q2), .second, .val (.long q3), .second, .val (.int p4), .val (.long nn), .second, .val (.long f1), .second, .val (.long f2), .second, .val (.ref b8), .unset, .unset, .unset, .unset, .unset, .unset, .unset, .unset] [(.long nn), (.long nn), (.long (0 : Int64)), (.long (0 : Int64)), (.ref b10), (.ref b10)])) _
    refine XS.lload X10.here hx rfl (hb hby at_108) rfl ?_
    show Steps p.tables e below (T10.setTop (mkF m 110 #[.val (.long q1), .second, .val (.long q2), .second, .val (.long q3), .second, .val (.int p4), .val (.long nn), .second, .val (.long f1), .second, .val (.long f2), .second, .val (.ref b8), .unset, .unset, .unset, .unset, .unset, .unset, .unset, .unset] [(.long f2), (.long nn), (.long nn), (.long (0 : Int64)), (.long (0 : Int64)), (.ref b10), (.ref b10)])) _
    refine XS.lconst X10.here hx rfl (hb hby at_110) ?_
    show Steps p.tables e below (T10.setTop (mkF m 111 #[.val (.long q1), .second, .val (.long q2), .second, .val (.long q3), .second, .val (.int p4), .val (.long nn), .second, .val (.long f1), .second, .val (.long f2), .second, .val (.ref b8), .unset, .unset, .unset, .unset, .unset, .unset, .unset, .unset] [(.long (0 : Int64)), (.long f2), (.long nn), (.long nn), (.long (0 : Int64)), (.long (0 : Int64)), (.ref b10), (.ref b10)])) _
    refine XS.aconstNull X10.here hx rfl (hb hby at_111) ?_
    show Steps p.tables e below (T10.setTop (mkF m 112 #[.val (.long q1), .second, .val (.long q2), .second, .val (.long q3), .second, .val (.int p4), .val (.long nn), .second, .val (.long f1), .second, .val (.long f2), .second, .val (.ref b8), .unset, .unset, .unset, .unset, .unset, .unset, .unset, .unset] [.null, (.long (0 : Int64)), (.long f2), (.long nn), (.long nn), (.long (0 : Int64)), (.long (0 : Int64)), (.ref b10), (.ref b10)])) _
    refine XS.aconstNull X10.here hx rfl (hb hby at_112) ?_
    show Steps p.tables e below (T10.setTop (mkF m 113 #[.val (.long q1), .second, .val (.long q2), .second, .val (.long q3), .second, .val (.int p4), .val (.long nn), .second, .val (.long f1), .second, .val (.long f2), .second, .val (.ref b8), .unset, .unset, .unset, .unset, .unset, .unset, .unset, .unset] [.null, .null, (.long (0 : Int64)), (.long f2), (.long nn), (.long nn), (.long (0 : Int64)), (.long (0 : Int64)), (.ref b10), (.ref b10)])) _
    refine st11.trans ?_
    show Steps p.tables e below (T11.setTop (mkF m 116 #[.val (.long q1), .second, .val (.long q2), .second, .val (.long q3), .second, .val (.int p4), .val (.long nn), .second, .val (.long f1), .second, .val (.long f2), .second, .val (.ref b8), .unset, .unset, .unset, .unset, .unset, .unset, .unset, .unset] [(.ref b10)])) _
    refine XS.astore X11.here hx rfl (hb hby at_116) rfl rfl (l' := #[.val (.long q1), .second, .val (.long q2), .second, .val (.long q3), .second, .val (.int p4), .val (.long nn), .second, .val (.long f1), .second, .val (.long f2), .second, .val (.ref b8), .val (.ref b10), .unset, .unset, .unset, .unset, .unset, .unset, .unset]) rfl ?_
    show Steps p.tables e below (T11.setTop (mkF m 118 #[.val (.long q1), .second, .val (.long q2), .second, .val (.long q3), .second, .val (.int p4), .val (.long nn), .second, .val (.long f1), .second, .val (.long f2), .second, .val (.ref b8), .val (.ref b10), .unset, .unset, .unset, .unset, .unset, .unset, .unset] [])) _
    refine XS.aload X11.here hx rfl (hb hby at_118) rfl rfl ?_
    show Steps p.tables e below (T11.setTop (mkF m 120 #[.val (.long q1), .second, .val (.long q2), .second, .val (.long q3), .second, .val (.int p4), .val (.long nn), .second, .val (.long f1), .second, .val (.long f2), .second, .val (.ref b8), .val (.ref b10), .unset, .unset, .unset, .unset, .unset, .unset, .unset] [(.ref b8)])) _
    refine st12.trans ?_
    show Steps p.tables e below (T12.setTop (mkF m 123 #[.val (.long q1), .second, .val (.long q2), .second, .val (.long q3), .second, .val (.int p4), .val (.long nn), .second, .val (.long f1), .second, .val (.long f2), .second, .val (.ref b8), .val (.ref b10), .unset, .unset, .unset, .unset, .unset, .unset, .unset] [(.double r1)])) _
    refine XS.dstore X12.here hx rfl (hb hby at_123) rfl (l' := #[.val (.long q1), .second, .val (.long q2), .second, .val (.long q3), .second, .val (.int p4), .val (.long nn), .second, .val (.long f1), .second, .val (.long f2), .second, .val (.ref b8), .val (.ref b10), .val (.double r1), .second, .unset, .unset, .unset, .unset, .unset]) rfl ?_
    show Steps p.tables e below (T12.setTop (mkF m 125 #[.val (.long q1), .second, .val (.long q2), .second, .val (.long q3), .second, .val (.int p4), .val (.long nn), .second, .val (.long f1), .second, .val (.long f2), .second, .val (.ref b8), .val (.ref b10), .val (.double r1), .second, .unset, .unset, .unset, .unset, .unset] [])) _
    refine XS.aload X12.here hx rfl (hb hby at_125) rfl rfl ?_
    show Steps p.tables e below (T12.setTop (mkF m 127 #[.val (.long q1), .second, .val (.long q2), .second, .val (.long q3), .second, .val (.int p4), .val (.long nn), .second, .val (.long f1), .second, .val (.long f2), .second, .val (.ref b8), .val (.ref b10), .val (.double r1), .second, .unset, .unset, .unset, .unset, .unset] [(.ref b10)])) _
    refine st13.trans ?_
    show Steps p.tables e below (T13.setTop (mkF m 130 #[.val (.long q1), .second, .val (.long q2), .second, .val (.long q3), .second, .val (.int p4), .val (.long nn), .second, .val (.long f1), .second, .val (.long f2), .second, .val (.ref b8), .val (.ref b10), .val (.double r1), .second, .unset, .unset, .unset, .unset, .unset] [(.double r2)])) _
    refine XS.dstore X13.here hx rfl (hb hby at_130) rfl (l' := #[.val (.long q1), .second, .val (.long q2), .second, .val (.long q3), .second, .val (.int p4), .val (.long nn), .second, .val (.long f1), .second, .val (.long f2), .second, .val (.ref b8), .val (.ref b10), .val (.double r1), .second, .val (.double r2), .second, .unset, .unset, .unset]) rfl ?_
    show Steps p.tables e below (T13.setTop (mkF m 132 #[.val (.long q1), .second, .val (.long q2), .second, .val (.long q3), .second, .val (.int p4), .val (.long nn), .second, .val (.long f1), .second, .val (.long f2), .second, .val (.ref b8), .val (.ref b10), .val (.double r1), .second, .val (.double r2), .second, .unset, .unset, .unset] [])) _
    refine st14 _ ?_
    show Steps p.tables e below (T14.setTop (mkF m 167 #[.val (.long q1), .second, .val (.long q2), .second, .val (.long q3), .second, .val (.int p4), .val (.long nn), .second, .val (.long f1), .second, .val (.long f2), .second, .val (.ref b8), .val (.ref b10), .val (.double r1), .second, .val (.double r2), .second, .val (.int (1 : Int32)), .unset, .unset] [])) _
    refine st15 _ ?_
    show Steps p.tables e below (T15.setTop (mkF m 213 #[.val (.long q1), .second, .val (.long q2), .second, .val (.long q3), .second, .val (.int p4), .val (.long nn), .second, .val (.long f1), .second, .val (.long f2), .second, .val (.ref b8), .val (.ref b10), .val (.double r1), .second, .val (.double r2), .second, .val (.int (1 : Int32)), .unset, .unset] [])) _
    refine st16 _ ?_
    show Steps p.tables e below (T16.setTop (mkF m 247 #[.val (.long q1), .second, .val (.long q2), .second, .val (.long q3), .second, .val (.int p4), .val (.long nn), .second, .val (.long f1), .second, .val (.long f2), .second, .val (.ref b8), .val (.ref b10), .val (.double r1), .second, .val (.double r2), .second, .val (.int (1 : Int32)), .unset, .unset] [])) _
    refine st17 _ ?_
    show Steps p.tables e below (T17.setTop (mkF m 263 #[.val (.long q1), .second, .val (.long q2), .second, .val (.long q3), .second, .val (.int p4), .val (.long nn), .second, .val (.long f1), .second, .val (.long f2), .second, .val (.ref b8), .val (.ref b10), .val (.double r1), .second, .val (.double r2), .second, .val (.int (1 : Int32)), .val (.int ex), .unset] [])) _
    refine st18 _ ?_
    show Steps p.tables e below (T18.setTop (mkF m 357 #[.val (.long q1), .second, .val (.long q2), .second, .val (.long q3), .second, .val (.int p4), .val (.long nn), .second, .val (.long f1), .second, .val (.long f2), .second, .val (.ref b8), .val (.ref b10), .val (.double r1), .second, .val (.double r2), .second, .val (.int (1 : Int32)), .val (.int ex), .unset] [])) _
    refine st19 _ ?_
    show Steps p.tables e below (T19.setTop (mkF m 385 #[.val (.long q1), .second, .val (.long q2), .second, .val (.long q3), .second, .val (.int p4), .val (.long nn), .second, .val (.long f1), .second, .val (.long f2), .second, .val (.ref b8), .val (.ref b10), .val (.double r1), .second, .val (.double r2), .second, .val (.int (1 : Int32)), .val (.int ex), .unset] [])) _
    refine st20 _ ?_
    show Steps p.tables e below (T20.setTop (mkF m 413 #[.val (.long q1), .second, .val (.long q2), .second, .val (.long q3), .second, .val (.int p4), .val (.long nn), .second, .val (.long f1), .second, .val (.long f2), .second, .val (.ref b8), .val (.ref b10), .val (.double r1), .second, .val (.double r2), .second, .val (.int (1 : Int32)), .val (.int ex), .unset] [])) _
    refine XS.lload X20.here hx rfl (hb hby at_413) rfl ?_
    show Steps p.tables e below (T20.setTop (mkF m 415 #[.val (.long q1), .second, .val (.long q2), .second, .val (.long q3), .second, .val (.int p4), .val (.long nn), .second, .val (.long f1), .second, .val (.long f2), .second, .val (.ref b8), .val (.ref b10), .val (.double r1), .second, .val (.double r2), .second, .val (.int (1 : Int32)), .val (.int ex), .unset] [(.long nn)])) _
    refine X20.ldc2Long hx hown (mvT hZ (hw _ (List.mem_of_getElem? (i := 38) rfl))) (g := (mkF m 415 #[.val (.long q1), .second, .val (.long q2), .second, .val (.long q3), .second, .val (.int p4), .val (.long nn), .second, .val (.long f1), .second, .val (.long f2), .second, .val (.ref b8), .val (.ref b10), .val (.double r1), .second, .val (.double r2), .second, .val (.int (1 : Int32)), .val (.int ex), .unset] [(.long nn)])) rfl (hb hby at_415) _ ?_
    show Steps p.tables e below (T20.setTop (mkF m 418 #[.val (.long q1), .second, .val (.long q2), .second, .val (.long q3), .second, .val (.int p4), .val (.long nn), .second, .val (.long f1), .second, .val (.long f2), .second, .val (.ref b8), .val (.ref b10), .val (.double r1), .second, .val (.double r2), .second, .val (.int (1 : Int32)), .val (.int ex), .unset] [(.long (4503599627370496 : Int64)), (.long nn)])) _
    refine XS.lcmp X20.here hx rfl (hb hby at_418) rfl ?_
    show Steps p.tables e below (T20.setTop (mkF m 419 #[.val (.long q1), .second, .val (.long q2), .second, .val (.long q3), .second, .val (.int p4), .val (.long nn), .second, .val (.long f1), .second, .val (.long f2), .second, .val (.ref b8), .val (.ref b10), .val (.double r1), .second, .val (.double r2), .second, .val (.int (1 : Int32)), .val (.int ex), .unset] [(.int (lcmpW nn (4503599627370496 : Int64)))])) _
    refine XS.ifYes X20.here hx rfl (pc0 := 419) (pc' := 477) rfl (hb hby at_419) rfl ((if0 _ _).trans (flt hc419).2.1) (by decide) (by decide) ?_
    show Steps p.tables e below (T20.setTop (mkF m 477 #[.val (.long q1), .second, .val (.long q2), .second, .val (.long q3), .second, .val (.int p4), .val (.long nn), .second, .val (.long f1), .second, .val (.long f2), .second, .val (.ref b8), .val (.ref b10), .val (.double r1), .second, .val (.double r2), .second, .val (.int (1 : Int32)), .val (.int ex), .unset] [])) _
    refine XS.iload X20.here hx rfl (hb hby at_477) rfl ?_
    show Steps p.tables e below (T20.setTop (mkF m 479 #[.val (.long q1), .second, .val (.long q2), .second, .val (.long q3), .second, .val (.int p4), .val (.long nn), .second, .val (.long f1), .second, .val (.long f2), .second, .val (.ref b8), .val (.ref b10), .val (.double r1), .second, .val (.double r2), .second, .val (.int (1 : Int32)), .val (.int ex), .unset] [(.int (1 : Int32))])) _
    exact retN X20 hx (t := .boolean) Bd.returns (by simp) (hb hby at_479) hr
  · show Q0 Z h0 n0 _ T20.heap _
    rw [e20]
    exact ⟨rfl, N13⟩
set_option maxRecDepth 65536 in
set_option maxHeartbeats 40000000 in
theorem rm0Y (l : Launch) (Z : State) (a0 : Array Value) (hw : ∀ d ∈ tables_1, d.before a0 Z = true) (ws : List Jvm.Cond) (q1 : Int64) (q2 : Int64) (q3 : Int64) (p4 : Int32) (nn : Int64) (f1 : Int64) (f2 : Int64) (r1 : UInt64) (r2 : UInt64) (ex : Int32) (r3 : UInt64) (h0 : Heap) (n0 : Nat) (Z0 : n0 ≤ h0.size) (h_nn : (own_sgB_7 p4 (own_sgA_7 q1 p4)) = nn) (hnz62_sgC : ¬ ((nn + (1 : Int64)) = (0 : Int64))) (hnz75_sgC : ¬ ((nn + (1 : Int64)) = (0 : Int64))) (h_f1 : (own_sgC_9 q2 p4 nn) = f1) (h_f2 : ((q3 &&& (9223372036854775807 : Int64)) - ((q3 &&& (9223372036854775807 : Int64)) / (nn + (1 : Int64))) * (nn + (1 : Int64))) = f2) (h_r1 : (own_f4 nn f1) = r1) (h_r2 : (own_f4 nn f2) = r2) (H_sgE : ((¬ ((0 : Int32) < (cmpValue (FP.dcmp FP.dconst0 r1) .g))) ∧ (¬ ((0 : Int32) < (cmpValue (FP.dcmp r1 FP.dconst1) .g))) ∧ (¬ ((0 : Int32) < (cmpValue (FP.dcmp FP.dconst0 r2) .g))) ∧ (¬ ((0 : Int32) < (cmpValue (FP.dcmp r2 FP.dconst1) .g))))) (H_sgF : ((¬ ((1 : Int32) = (0 : Int32))) ∧ ((cmpValue (FP.dcmp r1 FP.dconst0) .l) = (0 : Int32)) ∧ ((lcmpW f1 (0 : Int64)) = (0 : Int32))) ∨ ((¬ ((1 : Int32) = (0 : Int32))) ∧ (¬ ((cmpValue (FP.dcmp r1 FP.dconst0) .l) = (0 : Int32))) ∧ (¬ ((lcmpW f1 (0 : Int64)) = (0 : Int32))) ∧ (¬ ((lcmpW nn (0 : Int64)) = (0 : Int32))))) (H_sgG : ((¬ ((0 : Int32) < (lcmpW nn (0 : Int64))))) ∨ (((0 : Int32) < (lcmpW nn (0 : Int64))) ∧ (¬ ((lcmpW f1 nn) = (0 : Int32)))) ∨ (((0 : Int32) < (lcmpW nn (0 : Int64))) ∧ ((lcmpW f1 nn) = (0 : Int32)) ∧ (¬ ((1 : Int32) = (0 : Int32))) ∧ ((cmpValue (FP.dcmp r1 FP.dconst1) .l) = (0 : Int32)))) (h_ex : (own_sgH_20 nn) = ex) (H_sgI : ((¬ ((0 : Int32) < (lcmpW nn (0 : Int64))))) ∨ (((0 : Int32) < (lcmpW nn (0 : Int64))) ∧ (ex = (0 : Int32))) ∨ (((0 : Int32) < (lcmpW nn (0 : Int64))) ∧ (¬ (ex = (0 : Int32))) ∧ (¬ ((1 : Int32) = (0 : Int32))) ∧ ((cmpValue (FP.dcmp r1 FP.dconst1) .l) = (0 : Int32)) ∧ ((lcmpW f1 nn) = (0 : Int32)) ∧ (¬ ((lcmpW (nn &&& (1 : Int64)) (0 : Int64)) = (0 : Int32)))) ∨ (((0 : Int32) < (lcmpW nn (0 : Int64))) ∧ (¬ (ex = (0 : Int32))) ∧ (¬ ((1 : Int32) = (0 : Int32))) ∧ ((cmpValue (FP.dcmp r1 FP.dconst1) .l) = (0 : Int32)) ∧ ((lcmpW f1 nn) = (0 : Int32)) ∧ ((lcmpW (nn &&& (1 : Int64)) (0 : Int64)) = (0 : Int32)) ∧ (¬ ((lcmpW f1 (nn / (2 : Int64))) = (0 : Int32)))) ∨ (((0 : Int32) < (lcmpW nn (0 : Int64))) ∧ (¬ (ex = (0 : Int32))) ∧ (¬ ((1 : Int32) = (0 : Int32))) ∧ ((cmpValue (FP.dcmp r1 FP.dconst1) .l) = (0 : Int32)) ∧ ((lcmpW f1 nn) = (0 : Int32)) ∧ ((lcmpW (nn &&& (1 : Int64)) (0 : Int64)) = (0 : Int32)) ∧ ((lcmpW f1 (nn / (2 : Int64))) = (0 : Int32)) ∧ (¬ ((1 : Int32) = (0 : Int32))) ∧ ((cmpValue (FP.dcmp r1 (4602678819172646912 : UInt64)) .l) = (0 : Int32))) ∨ (((0 : Int32) < (lcmpW nn (0 : Int64))) ∧ (¬ (ex = (0 : Int32))) ∧ (¬ ((1 : Int32) = (0 : Int32))) ∧ (¬ ((cmpValue (FP.dcmp r1 FP.dconst1) .l) = (0 : Int32))) ∧ (¬ ((lcmpW f1 nn) = (0 : Int32))) ∧ (¬ ((lcmpW (nn &&& (1 : Int64)) (0 : Int64)) = (0 : Int32)))) ∨ (((0 : Int32) < (lcmpW nn (0 : Int64))) ∧ (¬ (ex = (0 : Int32))) ∧ (¬ ((1 : Int32) = (0 : Int32))) ∧ (¬ ((cmpValue (FP.dcmp r1 FP.dconst1) .l) = (0 : Int32))) ∧ (¬ ((lcmpW f1 nn) = (0 : Int32))) ∧ ((lcmpW (nn &&& (1 : Int64)) (0 : Int64)) = (0 : Int32)) ∧ (¬ ((lcmpW f1 (nn / (2 : Int64))) = (0 : Int32)))) ∨ (((0 : Int32) < (lcmpW nn (0 : Int64))) ∧ (¬ (ex = (0 : Int32))) ∧ (¬ ((1 : Int32) = (0 : Int32))) ∧ (¬ ((cmpValue (FP.dcmp r1 FP.dconst1) .l) = (0 : Int32))) ∧ (¬ ((lcmpW f1 nn) = (0 : Int32))) ∧ ((lcmpW (nn &&& (1 : Int64)) (0 : Int64)) = (0 : Int32)) ∧ ((lcmpW f1 (nn / (2 : Int64))) = (0 : Int32)) ∧ (¬ ((1 : Int32) = (0 : Int32))) ∧ ((cmpValue (FP.dcmp r1 (4602678819172646912 : UInt64)) .l) = (0 : Int32)))) (H_sgJ : (((0 : Int32) < (lcmpW f1 f2))) ∨ ((¬ ((0 : Int32) < (lcmpW f1 f2))) ∧ (¬ ((1 : Int32) = (0 : Int32))) ∧ (¬ ((0 : Int32) < (cmpValue (FP.dcmp r1 r2) .g))))) (H_sgK : (((0 : Int32) < (lcmpW f2 f1))) ∨ ((¬ ((0 : Int32) < (lcmpW f2 f1))) ∧ (¬ ((1 : Int32) = (0 : Int32))) ∧ (¬ ((0 : Int32) < (cmpValue (FP.dcmp r2 r1) .g))))) (h_r3 : (own_f4 ((2 : Int64) * nn) ((2 : Int64) * f1)) = r3) (hc419 : (lcmpW nn (4503599627370496 : Int64)) < (0 : Int32)) (hc456 : ¬ ((1 : Int32) = (0 : Int32))) (hc467 : (cmpValue (FP.dcmp r3 r1) .l) = (0 : Int32)) :
    MetFree l x (head1 (Jvm.Cond.code x code maxLocals ret :: ws) room_1) (fun a U => a = #[(.long q1), (.long q2), (.long q3), (.int p4)] ∧ Z.Warmed39 U.vm ∧ U.heap = h0) (fun _ _ _ _ _ => True) (fun _ U o U' => ∃ v L, o = .returned v ∧ Q0 Z h0 n0 v U'.heap L ∧ FrameEnd U o U' L room_1.cells room_1.slots) := by
  refine MetFree.of_bodySF (plainFor_of_name pn_0) hisR ?_
  intro p e s m args below meth c s₁ Bd hml0 hP hK
  obtain ⟨rfl, hZ, hh⟩ := hP
  have hx := Bd.exec
  have hby := Bd.bytes
  have hml : c.maxLocals = 22 := hml0
  have hown : s.vm.findClass "com/example/bits_for_sets/bitsforsets/tool/ReplayCountsFalsePositiveRatePinLaw" = some m.cls := findClass_of_methodNamed Bd.named
  have hnm := (name_of_methodNamed Bd.named Bd.method).1
  have X0 : Stand p l e room_1 s m #[(.long q1), (.long q2), (.long q3), (.int p4)] below meth c s₁ [] 0 0 := Stand.of_body Bd
  have e0 : s₁.heap = h0 := by rw [← hh, Bd.state]; rfl
  have N0 := Fr.nil n0
  have pre0 : ∀ t, Steps p.tables e below (s₁.setTop (mkF m 0 #[.val (.long q1), .second, .val (.long q2), .second, .val (.long q3), .second, .val (.int p4), .unset, .unset, .unset, .unset, .unset, .unset, .unset, .unset, .unset, .unset, .unset, .unset, .unset, .unset, .unset] [])) t → Steps p.tables e below (s₁.setTop (entryFrame m #[(.long q1), (.long q2), (.long q3), (.int p4)] maxLocals)) t := fun t k => castTop (ef_0 m q1 q2 q3 p4) k
  obtain ⟨T5, X5, e5, st5⟩ := sgA q1 q2 q3 p4 X0 hx hZ hw hby hml hown e0 
  obtain ⟨T6, X6, e6, st6⟩ := sgB q1 q2 q3 p4 ((own_sgA_7 q1 p4)) X5 hx hZ hw hby hml hown e5 
  rw [h_nn] at st6
  obtain ⟨T7, X7, e7, st7⟩ := sgC q1 q2 q3 p4 nn X6 hx hZ hw hby hml hown e6 hnz62_sgC hnz75_sgC
  rw [h_f1] at st7
  rw [h_f2] at st7
  obtain ⟨T8, h8, X8, e8, E8, A8, D8, -, st8⟩ := newO X7 hx hZ hown (hw _ (List.mem_of_getElem? (i := 2) rfl)) (hw _ (List.mem_of_getElem? (i := 3) rfl)) (hw _ (List.mem_of_getElem? (i := 4) rfl)) e7 (g := (mkF m 78 #[.val (.long q1), .second, .val (.long q2), .second, .val (.long q3), .second, .val (.int p4), .val (.long nn), .second, .val (.long f1), .second, .val (.long f2), .second, .unset, .unset, .unset, .unset, .unset, .unset, .unset, .unset, .unset] [])) rfl (hb hby at_78) (by decide) (by decide)
  obtain ⟨b8, g8⟩ : ∃ z, z = h0.size := ⟨_, rfl⟩
  rw [← g8] at A8 D8 st8
  have F_inserted_b8 : Fld Z h8 b8 "com/example/bits_for_sets/bitsforsets/tool/ReplayCounts" "inserted" "J" (.long (0 : Int64)) := D8 (Or.inr (hw _ (List.mem_of_getElem? (i := 17) rfl))) (ty := .long) (by decide)
  have F_held_b8 : Fld Z h8 b8 "com/example/bits_for_sets/bitsforsets/tool/ReplayCounts" "held" "J" (.long (0 : Int64)) := D8 (Or.inr (hw _ (List.mem_of_getElem? (i := 19) rfl))) (ty := .long) (by decide)
  have F_queries_b8 : Fld Z h8 b8 "com/example/bits_for_sets/bitsforsets/tool/ReplayCounts" "queries" "J" (.long (0 : Int64)) := D8 (Or.inr (hw _ (List.mem_of_getElem? (i := 21) rfl))) (ty := .long) (by decide)
  have F_negatives_b8 : Fld Z h8 b8 "com/example/bits_for_sets/bitsforsets/tool/ReplayCounts" "negatives" "J" (.long (0 : Int64)) := D8 (Or.inr (hw _ (List.mem_of_getElem? (i := 23) rfl))) (ty := .long) (by decide)
  have F_falsePositives_b8 : Fld Z h8 b8 "com/example/bits_for_sets/bitsforsets/tool/ReplayCounts" "falsePositives" "J" (.long (0 : Int64)) := D8 (Or.inr (hw _ (List.mem_of_getElem? (i := 25) rfl))) (ty := .long) (by decide)
  have F_falseNegatives_b8 : Fld Z h8 b8 "com/example/bits_for_sets/bitsforsets/tool/ReplayCounts" "falseNegatives" "J" (.long (0 : Int64)) := D8 (Or.inr (hw _ (List.mem_of_getElem? (i := 27) rfl))) (ty := .long) (by decide)
  have F_deletions_b8 : Fld Z h8 b8 "com/example/bits_for_sets/bitsforsets/tool/ReplayCounts" "deletions" "Ljava/util/Optional;" .null := D8 (Or.inr (hw _ (List.mem_of_getElem? (i := 29) rfl))) (ty := (.object "java/util/Optional")) (by decide)
  have F_adaptations_b8 : Fld Z h8 b8 "com/example/bits_for_sets/bitsforsets/tool/ReplayCounts" "adaptations" "Ljava/util/Optional;" .null := D8 (Or.inr (hw _ (List.mem_of_getElem? (i := 31) rfl))) (ty := (.object "java/util/Optional")) (by decide)
  have E_b8 := A8
  have g_b8 : n0 ≤ b8 := Nat.le_trans Z0 (Nat.le_of_eq g8.symm)
  obtain ⟨_, _, ⟨T9, L9, k9, n9⟩, -, X9, ⟨Lc9, hQ9, l9, y9, z9⟩, st9⟩ := X8.specialBack hx (y := (⟨"com/example/bits_for_sets/bitsforsets/tool/ReplayCounts", "<init>", "(JJJJJJLjava/util/Optional;Ljava/util/Optional;)V"⟩ : MethodName)) rfl hown (mvT hZ (hw _ (List.mem_of_getElem? (i := 5) rfl))) (mvT hZ (hw _ (List.mem_of_getElem? (i := 6) rfl))) (mvT hZ (hw _ (List.mem_of_getElem? (i := 7) rfl))) (by decide) (backOf (W := 1) (rm1 l Z a0 hw [] b8 (0 : Int64) (0 : Int64) nn nn f1 (0 : Int64) (.long (0 : Int64)) (.long (0 : Int64)) (.long (0 : Int64)) (.long (0 : Int64)) (.long (0 : Int64)) (.long (0 : Int64)) .null .null h8 n0 (Nat.le_trans Z0 E8.1) E_b8 F_inserted_b8 g_b8 F_held_b8 F_queries_b8 F_negatives_b8 F_falsePositives_b8 F_falseNegatives_b8 F_deletions_b8 F_adaptations_b8) hZ (hw _ (List.mem_of_getElem? (i := 7) rfl)) (hw _ (List.mem_of_getElem? (i := 4) rfl)) (by decide) (by decide)) (g := (mkF m 93 #[.val (.long q1), .second, .val (.long q2), .second, .val (.long q3), .second, .val (.int p4), .val (.long nn), .second, .val (.long f1), .second, .val (.long f2), .second, .unset, .unset, .unset, .unset, .unset, .unset, .unset, .unset, .unset] [.null, .null, (.long (0 : Int64)), (.long f1), (.long nn), (.long nn), (.long (0 : Int64)), (.long (0 : Int64)), (.ref b8), (.ref b8)])) rfl (by rw [hml]; rfl) (Steps.refl _) (a := b8) (argsL := [(.long (0 : Int64)), (.long (0 : Int64)), (.long nn), (.long nn), (.long f1), (.long (0 : Int64)), .null, .null]) (rest := [(.ref b8)]) (lenOf pd_0_0 rfl) rfl (by show 2 * 0 + _ ≤ _; exact Nat.le_of_eq rfl) (hb hby at_93) (fun _ _ => ⟨rfl, e8, (by decide : 1 + 0 ≤ _), (by decide : 8 + 0 ≤ _)⟩)
  dsimp only [Pt.U, Pt.locs, Pt.cells, Pt.slots] at X9 l9 y9 z9 st9 hQ9
  subst l9 y9 z9
  obtain ⟨rfl, N9q, K9, gE9, gF_inserted_9, gF_held_9, gF_queries_9, gF_negatives_9, gF_falsePositives_9, gF_falseNegatives_9, gF_deletions_9, gF_adaptations_9⟩ := hQ9
  have N9 := Fr.app N0 N9q
  obtain ⟨T10, h10, X10, e10, E10, A10, D10, -, st10⟩ := newO X9 hx hZ hown (hw _ (List.mem_of_getElem? (i := 2) rfl)) (hw _ (List.mem_of_getElem? (i := 3) rfl)) (hw _ (List.mem_of_getElem? (i := 4) rfl)) rfl (g := (mkF m 98 #[.val (.long q1), .second, .val (.long q2), .second, .val (.long q3), .second, .val (.int p4), .val (.long nn), .second, .val (.long f1), .second, .val (.long f2), .second, .val (.ref b8), .unset, .unset, .unset, .unset, .unset, .unset, .unset, .unset] [])) rfl (hb hby at_98) (by decide) (by decide)
  obtain ⟨b10, g10⟩ : ∃ z, z = T9.heap.size := ⟨_, rfl⟩
  rw [← g10] at A10 D10 st10
  have F_inserted_b10 : Fld Z h10 b10 "com/example/bits_for_sets/bitsforsets/tool/ReplayCounts" "inserted" "J" (.long (0 : Int64)) := D10 (Or.inr (hw _ (List.mem_of_getElem? (i := 17) rfl))) (ty := .long) (by decide)
  have F_held_b10 : Fld Z h10 b10 "com/example/bits_for_sets/bitsforsets/tool/ReplayCounts" "held" "J" (.long (0 : Int64)) := D10 (Or.inr (hw _ (List.mem_of_getElem? (i := 19) rfl))) (ty := .long) (by decide)
  have F_queries_b10 : Fld Z h10 b10 "com/example/bits_for_sets/bitsforsets/tool/ReplayCounts" "queries" "J" (.long (0 : Int64)) := D10 (Or.inr (hw _ (List.mem_of_getElem? (i := 21) rfl))) (ty := .long) (by decide)
  have F_negatives_b10 : Fld Z h10 b10 "com/example/bits_for_sets/bitsforsets/tool/ReplayCounts" "negatives" "J" (.long (0 : Int64)) := D10 (Or.inr (hw _ (List.mem_of_getElem? (i := 23) rfl))) (ty := .long) (by decide)
  have F_falsePositives_b10 : Fld Z h10 b10 "com/example/bits_for_sets/bitsforsets/tool/ReplayCounts" "falsePositives" "J" (.long (0 : Int64)) := D10 (Or.inr (hw _ (List.mem_of_getElem? (i := 25) rfl))) (ty := .long) (by decide)
  have F_falseNegatives_b10 : Fld Z h10 b10 "com/example/bits_for_sets/bitsforsets/tool/ReplayCounts" "falseNegatives" "J" (.long (0 : Int64)) := D10 (Or.inr (hw _ (List.mem_of_getElem? (i := 27) rfl))) (ty := .long) (by decide)
  have F_deletions_b10 : Fld Z h10 b10 "com/example/bits_for_sets/bitsforsets/tool/ReplayCounts" "deletions" "Ljava/util/Optional;" .null := D10 (Or.inr (hw _ (List.mem_of_getElem? (i := 29) rfl))) (ty := (.object "java/util/Optional")) (by decide)
  have F_adaptations_b10 : Fld Z h10 b10 "com/example/bits_for_sets/bitsforsets/tool/ReplayCounts" "adaptations" "Ljava/util/Optional;" .null := D10 (Or.inr (hw _ (List.mem_of_getElem? (i := 31) rfl))) (ty := (.object "java/util/Optional")) (by decide)
  have E_b10 := A10
  have g_b10 : n0 ≤ b10 := Nat.le_trans (Nat.le_trans (Nat.le_trans Z0 E8.1) K9.1) (Nat.le_of_eq g10.symm)
  obtain ⟨_, _, ⟨T11, L11, k11, n11⟩, -, X11, ⟨Lc11, hQ11, l11, y11, z11⟩, st11⟩ := X10.specialBack hx (y := (⟨"com/example/bits_for_sets/bitsforsets/tool/ReplayCounts", "<init>", "(JJJJJJLjava/util/Optional;Ljava/util/Optional;)V"⟩ : MethodName)) rfl hown (mvT hZ (hw _ (List.mem_of_getElem? (i := 5) rfl))) (mvT hZ (hw _ (List.mem_of_getElem? (i := 6) rfl))) (mvT hZ (hw _ (List.mem_of_getElem? (i := 7) rfl))) (by decide) (backOf (W := 1) (rm1 l Z a0 hw [] b10 (0 : Int64) (0 : Int64) nn nn f2 (0 : Int64) (.long (0 : Int64)) (.long (0 : Int64)) (.long (0 : Int64)) (.long (0 : Int64)) (.long (0 : Int64)) (.long (0 : Int64)) .null .null h10 n0 (Nat.le_trans (Nat.le_trans (Nat.le_trans Z0 E8.1) K9.1) E10.1) E_b10 F_inserted_b10 g_b10 F_held_b10 F_queries_b10 F_negatives_b10 F_falsePositives_b10 F_falseNegatives_b10 F_deletions_b10 F_adaptations_b10) hZ (hw _ (List.mem_of_getElem? (i := 7) rfl)) (hw _ (List.mem_of_getElem? (i := 4) rfl)) (by decide) (by decide)) (g := (mkF m 113 #[.val (.long q1), .second, .val (.long q2), .second, .val (.long q3), .second, .val (.int p4), .val (.long nn), .second, .val (.long f1), .second, .val (.long f2), .second, .val (.ref b8), .unset, .unset, .unset, .unset, .unset, .unset, .unset, .unset] [.null, .null, (.long (0 : Int64)), (.long f2), (.long nn), (.long nn), (.long (0 : Int64)), (.long (0 : Int64)), (.ref b10), (.ref b10)])) rfl (by rw [hml]; rfl) (Steps.refl _) (a := b10) (argsL := [(.long (0 : Int64)), (.long (0 : Int64)), (.long nn), (.long nn), (.long f2), (.long (0 : Int64)), .null, .null]) (rest := [(.ref b10)]) (lenOf pd_0_0 rfl) rfl (by show 2 * 0 + _ ≤ _; exact Nat.le_of_eq rfl) (hb hby at_113) (fun _ _ => ⟨rfl, e10, (by decide : 2 + 0 ≤ _), (by decide : 16 + 0 ≤ _)⟩)
  dsimp only [Pt.U, Pt.locs, Pt.cells, Pt.slots] at X11 l11 y11 z11 st11 hQ11
  subst l11 y11 z11
  obtain ⟨rfl, N11q, K11, gE11, gF_inserted_11, gF_held_11, gF_queries_11, gF_negatives_11, gF_falsePositives_11, gF_falseNegatives_11, gF_deletions_11, gF_adaptations_11⟩ := hQ11
  have N11 := Fr.app N9 N11q
  obtain ⟨cq12, kq12, q12a, q12b, q12c⟩ := isOf hZ rfl ((gE9.ext E10).keep K11)
  obtain ⟨_, _, ⟨T12, L12, k12, n12⟩, -, X12, ⟨Lc12, hQ12, l12, y12, z12⟩, st12⟩ := X11.virtualBack hx (y := (⟨"com/example/bits_for_sets/bitsforsets/tool/ReplayCounts", "falsePositiveRate", "()D"⟩ : MethodName)) (z := (⟨"com/example/bits_for_sets/bitsforsets/tool/ReplayCounts", "falsePositiveRate", "()D"⟩ : MethodName)) hown (mvT hZ (hw _ (List.mem_of_getElem? (i := 32) rfl))) (mvT hZ (hw _ (List.mem_of_getElem? (i := 33) rfl))) (notFace_of_selects (args := #[]) (mvT hZ (hw _ (List.mem_of_getElem? (i := 35) rfl)))) (mvT hZ (hw _ (List.mem_of_getElem? (i := 35) rfl))) (mvT hZ (hw _ (List.mem_of_getElem? (i := 34) rfl))) (by decide) (backOf (W := 0) (rm4 l Z a0 hw [] b8 nn f1 T11.heap n0 (Nat.le_trans (Nat.le_trans (Nat.le_trans (Nat.le_trans Z0 E8.1) K9.1) E10.1) K11.1) ((gF_negatives_9.ext E10).keep K11 (fun q => (Nat.ne_of_lt (Nat.lt_of_lt_of_le gE9.lt (Nat.le_of_eq g10.symm))) (List.mem_singleton.mp q))) ((gF_falsePositives_9.ext E10).keep K11 (fun q => (Nat.ne_of_lt (Nat.lt_of_lt_of_le gE9.lt (Nat.le_of_eq g10.symm))) (List.mem_singleton.mp q)))) hZ (hw _ (List.mem_of_getElem? (i := 36) rfl)) (hw _ (List.mem_of_getElem? (i := 4) rfl)) (by decide) (by decide)) q12a q12c (g := (mkF m 120 #[.val (.long q1), .second, .val (.long q2), .second, .val (.long q3), .second, .val (.int p4), .val (.long nn), .second, .val (.long f1), .second, .val (.long f2), .second, .val (.ref b8), .val (.ref b10), .unset, .unset, .unset, .unset, .unset, .unset, .unset] [(.ref b8)])) rfl (by rw [hml]; rfl) (Steps.refl _) (argsL := []) (rest := []) (lenOf pd_0_2 rfl) rfl (by show 2 * 0 + _ ≤ _; exact Nat.le_of_eq rfl) (hb hby at_120) (fun _ _ => ⟨rfl, rfl, (by decide : 2 + 0 ≤ _), (by decide : 16 + 0 ≤ _)⟩)
  dsimp only [Pt.U, Pt.locs, Pt.cells, Pt.slots] at X12 l12 y12 z12 st12 hQ12
  subst l12 y12 z12
  obtain ⟨rfl, N12q, e12⟩ := hQ12
  have N12 := Fr.app N11 N12q
  rw [h_r1] at st12
  obtain ⟨cq13, kq13, q13a, q13b, q13c⟩ := isOf hZ e12 gE11
  obtain ⟨_, _, ⟨T13, L13, k13, n13⟩, -, X13, ⟨Lc13, hQ13, l13, y13, z13⟩, st13⟩ := X12.virtualBack hx (y := (⟨"com/example/bits_for_sets/bitsforsets/tool/ReplayCounts", "falsePositiveRate", "()D"⟩ : MethodName)) (z := (⟨"com/example/bits_for_sets/bitsforsets/tool/ReplayCounts", "falsePositiveRate", "()D"⟩ : MethodName)) hown (mvT hZ (hw _ (List.mem_of_getElem? (i := 32) rfl))) (mvT hZ (hw _ (List.mem_of_getElem? (i := 33) rfl))) (notFace_of_selects (args := #[]) (mvT hZ (hw _ (List.mem_of_getElem? (i := 35) rfl)))) (mvT hZ (hw _ (List.mem_of_getElem? (i := 35) rfl))) (mvT hZ (hw _ (List.mem_of_getElem? (i := 34) rfl))) (by decide) (backOf (W := 0) (rm4 l Z a0 hw [] b10 nn f2 T11.heap n0 (Nat.le_trans (Nat.le_trans (Nat.le_trans (Nat.le_trans Z0 E8.1) K9.1) E10.1) K11.1) gF_negatives_11 gF_falsePositives_11) hZ (hw _ (List.mem_of_getElem? (i := 36) rfl)) (hw _ (List.mem_of_getElem? (i := 4) rfl)) (by decide) (by decide)) q13a q13c (g := (mkF m 127 #[.val (.long q1), .second, .val (.long q2), .second, .val (.long q3), .second, .val (.int p4), .val (.long nn), .second, .val (.long f1), .second, .val (.long f2), .second, .val (.ref b8), .val (.ref b10), .val (.double r1), .second, .unset, .unset, .unset, .unset, .unset] [(.ref b10)])) rfl (by rw [hml]; rfl) (Steps.refl _) (argsL := []) (rest := []) (lenOf pd_0_2 rfl) rfl (by show 2 * 0 + _ ≤ _; exact Nat.le_of_eq rfl) (hb hby at_127) (fun _ _ => ⟨rfl, e12, (by decide : 2 + 0 ≤ _), (by decide : 16 + 0 ≤ _)⟩)
  dsimp only [Pt.U, Pt.locs, Pt.cells, Pt.slots] at X13 l13 y13 z13 st13 hQ13
  subst l13 y13 z13
  obtain ⟨rfl, N13q, e13⟩ := hQ13
  have N13 := Fr.app N12 N13q
  rw [h_r2] at st13
  obtain ⟨T14, X14, e14, st14⟩ := sgE q1 q2 q3 p4 nn f1 f2 b8 b10 r1 r2 X13 hx hZ hw hby hml hown e13 H_sgE
  obtain ⟨T15, X15, e15, st15⟩ := sgF q1 q2 q3 p4 nn f1 f2 b8 b10 r1 r2 X14 hx hZ hw hby hml hown e14 H_sgF
  obtain ⟨T16, X16, e16, st16⟩ := sgG q1 q2 q3 p4 nn f1 f2 b8 b10 r1 r2 X15 hx hZ hw hby hml hown e15 H_sgG
  obtain ⟨T17, X17, e17, st17⟩ := sgH q1 q2 q3 p4 nn f1 f2 b8 b10 r1 r2 ((1 : Int32)) X16 hx hZ hw hby hml hown e16 
  rw [h_ex] at st17
  obtain ⟨T18, X18, e18, st18⟩ := sgI q1 q2 q3 p4 nn f1 f2 b8 b10 r1 r2 ex X17 hx hZ hw hby hml hown e17 H_sgI
  obtain ⟨T19, X19, e19, st19⟩ := sgJ q1 q2 q3 p4 nn f1 f2 b8 b10 r1 r2 ex X18 hx hZ hw hby hml hown e18 H_sgJ
  obtain ⟨T20, X20, e20, st20⟩ := sgK q1 q2 q3 p4 nn f1 f2 b8 b10 r1 r2 ex X19 hx hZ hw hby hml hown e19 H_sgK
  obtain ⟨T21, h21, X21, e21, E21, A21, D21, -, st21⟩ := newO X20 hx hZ hown (hw _ (List.mem_of_getElem? (i := 2) rfl)) (hw _ (List.mem_of_getElem? (i := 3) rfl)) (hw _ (List.mem_of_getElem? (i := 4) rfl)) e20 (g := (mkF m 422 #[.val (.long q1), .second, .val (.long q2), .second, .val (.long q3), .second, .val (.int p4), .val (.long nn), .second, .val (.long f1), .second, .val (.long f2), .second, .val (.ref b8), .val (.ref b10), .val (.double r1), .second, .val (.double r2), .second, .val (.int (1 : Int32)), .val (.int ex), .unset] [])) rfl (hb hby at_422) (by decide) (by decide)
  obtain ⟨b21, g21⟩ : ∃ z, z = T11.heap.size := ⟨_, rfl⟩
  rw [← g21] at A21 D21 st21
  have F_inserted_b21 : Fld Z h21 b21 "com/example/bits_for_sets/bitsforsets/tool/ReplayCounts" "inserted" "J" (.long (0 : Int64)) := D21 (Or.inr (hw _ (List.mem_of_getElem? (i := 17) rfl))) (ty := .long) (by decide)
  have F_held_b21 : Fld Z h21 b21 "com/example/bits_for_sets/bitsforsets/tool/ReplayCounts" "held" "J" (.long (0 : Int64)) := D21 (Or.inr (hw _ (List.mem_of_getElem? (i := 19) rfl))) (ty := .long) (by decide)
  have F_queries_b21 : Fld Z h21 b21 "com/example/bits_for_sets/bitsforsets/tool/ReplayCounts" "queries" "J" (.long (0 : Int64)) := D21 (Or.inr (hw _ (List.mem_of_getElem? (i := 21) rfl))) (ty := .long) (by decide)
  have F_negatives_b21 : Fld Z h21 b21 "com/example/bits_for_sets/bitsforsets/tool/ReplayCounts" "negatives" "J" (.long (0 : Int64)) := D21 (Or.inr (hw _ (List.mem_of_getElem? (i := 23) rfl))) (ty := .long) (by decide)
  have F_falsePositives_b21 : Fld Z h21 b21 "com/example/bits_for_sets/bitsforsets/tool/ReplayCounts" "falsePositives" "J" (.long (0 : Int64)) := D21 (Or.inr (hw _ (List.mem_of_getElem? (i := 25) rfl))) (ty := .long) (by decide)
  have F_falseNegatives_b21 : Fld Z h21 b21 "com/example/bits_for_sets/bitsforsets/tool/ReplayCounts" "falseNegatives" "J" (.long (0 : Int64)) := D21 (Or.inr (hw _ (List.mem_of_getElem? (i := 27) rfl))) (ty := .long) (by decide)
  have F_deletions_b21 : Fld Z h21 b21 "com/example/bits_for_sets/bitsforsets/tool/ReplayCounts" "deletions" "Ljava/util/Optional;" .null := D21 (Or.inr (hw _ (List.mem_of_getElem? (i := 29) rfl))) (ty := (.object "java/util/Optional")) (by decide)
  have F_adaptations_b21 : Fld Z h21 b21 "com/example/bits_for_sets/bitsforsets/tool/ReplayCounts" "adaptations" "Ljava/util/Optional;" .null := D21 (Or.inr (hw _ (List.mem_of_getElem? (i := 31) rfl))) (ty := (.object "java/util/Optional")) (by decide)
  have E_b21 := A21
  have g_b21 : n0 ≤ b21 := Nat.le_trans (Nat.le_trans (Nat.le_trans (Nat.le_trans (Nat.le_trans Z0 E8.1) K9.1) E10.1) K11.1) (Nat.le_of_eq g21.symm)
  obtain ⟨_, _, ⟨T22, L22, k22, n22⟩, -, X22, ⟨Lc22, hQ22, l22, y22, z22⟩, st22⟩ := X21.specialBack hx (y := (⟨"com/example/bits_for_sets/bitsforsets/tool/ReplayCounts", "<init>", "(JJJJJJLjava/util/Optional;Ljava/util/Optional;)V"⟩ : MethodName)) rfl hown (mvT hZ (hw _ (List.mem_of_getElem? (i := 5) rfl))) (mvT hZ (hw _ (List.mem_of_getElem? (i := 6) rfl))) (mvT hZ (hw _ (List.mem_of_getElem? (i := 7) rfl))) (by decide) (backOf (W := 1) (rm1 l Z a0 hw [] b21 (0 : Int64) (0 : Int64) ((2 : Int64) * nn) ((2 : Int64) * nn) ((2 : Int64) * f1) (0 : Int64) (.long (0 : Int64)) (.long (0 : Int64)) (.long (0 : Int64)) (.long (0 : Int64)) (.long (0 : Int64)) (.long (0 : Int64)) .null .null h21 n0 (Nat.le_trans (Nat.le_trans (Nat.le_trans (Nat.le_trans (Nat.le_trans Z0 E8.1) K9.1) E10.1) K11.1) E21.1) E_b21 F_inserted_b21 g_b21 F_held_b21 F_queries_b21 F_negatives_b21 F_falsePositives_b21 F_falseNegatives_b21 F_deletions_b21 F_adaptations_b21) hZ (hw _ (List.mem_of_getElem? (i := 7) rfl)) (hw _ (List.mem_of_getElem? (i := 4) rfl)) (by decide) (by decide)) (g := (mkF m 449 #[.val (.long q1), .second, .val (.long q2), .second, .val (.long q3), .second, .val (.int p4), .val (.long nn), .second, .val (.long f1), .second, .val (.long f2), .second, .val (.ref b8), .val (.ref b10), .val (.double r1), .second, .val (.double r2), .second, .val (.int (1 : Int32)), .val (.int ex), .unset] [.null, .null, (.long (0 : Int64)), (.long ((2 : Int64) * f1)), (.long ((2 : Int64) * nn)), (.long ((2 : Int64) * nn)), (.long (0 : Int64)), (.long (0 : Int64)), (.ref b21), (.ref b21)])) rfl (by rw [hml]; rfl) (Steps.refl _) (a := b21) (argsL := [(.long (0 : Int64)), (.long (0 : Int64)), (.long ((2 : Int64) * nn)), (.long ((2 : Int64) * nn)), (.long ((2 : Int64) * f1)), (.long (0 : Int64)), .null, .null]) (rest := [(.ref b21)]) (lenOf pd_0_0 rfl) rfl (by show 2 * 0 + _ ≤ _; exact Nat.le_of_eq rfl) (hb hby at_449) (fun _ _ => ⟨rfl, e21, (by decide : 3 + 0 ≤ _), (by decide : 24 + 0 ≤ _)⟩)
  dsimp only [Pt.U, Pt.locs, Pt.cells, Pt.slots] at X22 l22 y22 z22 st22 hQ22
  subst l22 y22 z22
  obtain ⟨rfl, N22q, K22, gE22, gF_inserted_22, gF_held_22, gF_queries_22, gF_negatives_22, gF_falsePositives_22, gF_falseNegatives_22, gF_deletions_22, gF_adaptations_22⟩ := hQ22
  have N22 := Fr.app N13 N22q
  obtain ⟨cq23, kq23, q23a, q23b, q23c⟩ := isOf hZ rfl gE22
  obtain ⟨_, _, ⟨T23, L23, k23, n23⟩, -, X23, ⟨Lc23, hQ23, l23, y23, z23⟩, st23⟩ := X22.virtualBack hx (y := (⟨"com/example/bits_for_sets/bitsforsets/tool/ReplayCounts", "falsePositiveRate", "()D"⟩ : MethodName)) (z := (⟨"com/example/bits_for_sets/bitsforsets/tool/ReplayCounts", "falsePositiveRate", "()D"⟩ : MethodName)) hown (mvT hZ (hw _ (List.mem_of_getElem? (i := 32) rfl))) (mvT hZ (hw _ (List.mem_of_getElem? (i := 33) rfl))) (notFace_of_selects (args := #[]) (mvT hZ (hw _ (List.mem_of_getElem? (i := 35) rfl)))) (mvT hZ (hw _ (List.mem_of_getElem? (i := 35) rfl))) (mvT hZ (hw _ (List.mem_of_getElem? (i := 34) rfl))) (by decide) (backOf (W := 0) (rm4 l Z a0 hw [] b21 ((2 : Int64) * nn) ((2 : Int64) * f1) T22.heap n0 (Nat.le_trans (Nat.le_trans (Nat.le_trans (Nat.le_trans (Nat.le_trans (Nat.le_trans Z0 E8.1) K9.1) E10.1) K11.1) E21.1) K22.1) gF_negatives_22 gF_falsePositives_22) hZ (hw _ (List.mem_of_getElem? (i := 36) rfl)) (hw _ (List.mem_of_getElem? (i := 4) rfl)) (by decide) (by decide)) q23a q23c (g := (mkF m 461 #[.val (.long q1), .second, .val (.long q2), .second, .val (.long q3), .second, .val (.int p4), .val (.long nn), .second, .val (.long f1), .second, .val (.long f2), .second, .val (.ref b8), .val (.ref b10), .val (.double r1), .second, .val (.double r2), .second, .val (.int (1 : Int32)), .val (.int ex), .val (.ref b21)] [(.ref b21)])) rfl (by rw [hml]; rfl) (Steps.refl _) (argsL := []) (rest := []) (lenOf pd_0_2 rfl) rfl (by show 2 * 0 + _ ≤ _; exact Nat.le_of_eq rfl) (hb hby at_461) (fun _ _ => ⟨rfl, rfl, (by decide : 3 + 0 ≤ _), (by decide : 24 + 0 ≤ _)⟩)
  dsimp only [Pt.U, Pt.locs, Pt.cells, Pt.slots] at X23 l23 y23 z23 st23 hQ23
  subst l23 y23 z23
  obtain ⟨rfl, N23q, e23⟩ := hQ23
  have N23 := Fr.app N22 N23q
  rw [h_r3] at st23
  obtain ⟨fs, hr, hrun, hended, hW, hsame⟩ := X23.leave (v := some (.int (1 : Int32))) (fun h => by rw [Bd.returns] at h; cases h)
  refine ⟨_, _, pre0 _ ?_, hrun, hended, _, _, rfl, ?_, ⟨_, rfl⟩, hW, hsame.mono (by decide) (by decide)⟩
  · show Steps p.tables e below (s₁.setTop (mkF m 0 #[.val (.long q1), .second, .val (.long q2), .second, .val (.long q3), .second, .val (.int p4), .unset, .unset, .unset, .unset, .unset, .unset, .unset, .unset, .unset, .unset, .unset, .unset, .unset, .unset, .unset] [])) _
    refine st5 _ ?_
    show Steps p.tables e below (T5.setTop (mkF m 22 #[.val (.long q1), .second, .val (.long q2), .second, .val (.long q3), .second, .val (.int p4), .val (.long (own_sgA_7 q1 p4)), .second, .unset, .unset, .unset, .unset, .unset, .unset, .unset, .unset, .unset, .unset, .unset, .unset, .unset] [])) _
    refine st6 _ ?_
    show Steps p.tables e below (T6.setTop (mkF m 37 #[.val (.long q1), .second, .val (.long q2), .second, .val (.long q3), .second, .val (.int p4), .val (.long nn), .second, .unset, .unset, .unset, .unset, .unset, .unset, .unset, .unset, .unset, .unset, .unset, .unset, .unset] [])) _
    refine st7 _ ?_
    show Steps p.tables e below (T7.setTop (mkF m 78 #[.val (.long q1), .second, .val (.long q2), .second, .val (.long q3), .second, .val (.int p4), .val (.long nn), .second, .val (.long f1), .second, .val (.long f2), .second, .unset, .unset, .unset, .unset, .unset, .unset, .unset, .unset, .unset] [])) _
    refine st8 _ ?_
    show Steps p.tables e below (T8.setTop (mkF m 81 #[.val (.long q1), .second, .val (.long q2), .second, .val (.long q3), .second, .val (.int p4), .val (.long nn), .second, .val (.long f1), .second, .val (.long f2), .second, .unset, .unset, .unset, .unset, .unset, .unset, .unset, .unset, .unset] [(.ref b8)])) _
    refine XS.dup X8.here hx rfl (hb hby at_81) rfl rfl ?_
    show Steps p.tables e below (T8.setTop (mkF m 82 #[.val (.long q1), .second, .val (.long q2), .second, .val (.long q3), .second, .val (.int p4), .val (.long nn), .second, .val (.long f1), .second, .val (.long f2), .second, .unset, .unset, .unset, .unset, .unset, .unset, .unset, .unset, .unset] [(.ref b8), (.ref b8)])) _
    refine XS.lconst X8.here hx rfl (hb hby at_82) ?_
    show Steps p.tables e below (T8.setTop (mkF m 83 #[.val (.long q1), .second, .val (.long q2), .second, .val (.long q3), .second, .val (.int p4), .val (.long nn), .second, .val (.long f1), .second, .val (.long f2), .second, .unset, .unset, .unset, .unset, .unset, .unset, .unset, .unset, .unset] [(.long (0 : Int64)), (.ref b8), (.ref b8)])) _
    refine XS.lconst X8.here hx rfl (hb hby at_83) ?_
    show Steps p.tables e below (T8.setTop (mkF m 84 #[.val (.long q1), .second, .val (.long q2), .second, .val (.long q3), .second, .val (.int p4), .val (.long nn), .second, .val (.long f1), .second, .val (.long f2), .second, .unset, .unset, .unset, .unset, .unset, .unset, .unset, .unset, .unset] [(.long (0 : Int64)), (.long (0 : Int64)), (.ref b8), (.ref b8)])) _
    refine XS.lload X8.here hx rfl (hb hby at_84) rfl ?_
    show Steps p.tables e below (T8.setTop (mkF m 86 #[.val (.long q1), .second, .val (.long q2), .second, .val (.long q3), .second, .val (.int p4), .val (.long nn), .second, .val (.long f1), .second, .val (.long f2), .second, .unset, .unset, .unset, .unset, .unset, .unset, .unset, .unset, .unset] [(.long nn), (.long (0 : Int64)), (.long (0 : Int64)), (.ref b8), (.ref b8)])) _
    refine XS.lload X8.here hx rfl (hb hby at_86) rfl ?_
    show Steps p.tables e below (T8.setTop (mkF m 88 #[.val (.long q1), .second, .val (.long q2), .second, .val (.long q3), .second, .val (.int p4), .val (.long nn), .second, .val (.long f1), .second, .val (.long f2), .second, .unset, .unset, .unset, .unset, .unset, .unset, .unset, .unset, .unset] [(.long nn), (.long nn), (.long (0 : Int64)), (.long (0 : Int64)), (.ref b8), (.ref b8)])) _
    refine XS.lload X8.here hx rfl (hb hby at_88) rfl ?_
    show Steps p.tables e below (T8.setTop (mkF m 90 #[.val (.long q1), .second, .val (.long q2), .second, .val (.long q3), .second, .val (.int p4), .val (.long nn), .second, .val (.long f1), .second, .val (.long f2), .second, .unset, .unset, .unset, .unset, .unset, .unset, .unset, .unset, .unset] [(.long f1), (.long nn), (.long nn), (.long (0 : Int64)), (.long (0 : Int64)), (.ref b8), (.ref b8)])) _
    refine XS.lconst X8.here hx rfl (hb hby at_90) ?_
    show Steps p.tables e below (T8.setTop (mkF m 91 #[.val (.long q1), .second, .val (.long q2), .second, .val (.long q3), .second, .val (.int p4), .val (.long nn), .second, .val (.long f1), .second, .val (.long f2), .second, .unset, .unset, .unset, .unset, .unset, .unset, .unset, .unset, .unset] [(.long (0 : Int64)), (.long f1), (.long nn), (.long nn), (.long (0 : Int64)), (.long (0 : Int64)), (.ref b8), (.ref b8)])) _
    refine XS.aconstNull X8.here hx rfl (hb hby at_91) ?_
    show Steps p.tables e below (T8.setTop (mkF m 92 #[.val (.long q1), .second, .val (.long q2), .second, .val (.long q3), .second, .val (.int p4), .val (.long nn), .second, .val (.long f1), .second, .val (.long f2), .second, .unset, .unset, .unset, .unset, .unset, .unset, .unset, .unset, .unset] [.null, (.long (0 : Int64)), (.long f1), (.long nn), (.long nn), (.long (0 : Int64)), (.long (0 : Int64)), (.ref b8), (.ref b8)])) _
    refine XS.aconstNull X8.here hx rfl (hb hby at_92) ?_
    show Steps p.tables e below (T8.setTop (mkF m 93 #[.val (.long q1), .second, .val (.long q2), .second, .val (.long q3), .second, .val (.int p4), .val (.long nn), .second, .val (.long f1), .second, .val (.long f2), .second, .unset, .unset, .unset, .unset, .unset, .unset, .unset, .unset, .unset] [.null, .null, (.long (0 : Int64)), (.long f1), (.long nn), (.long nn), (.long (0 : Int64)), (.long (0 : Int64)), (.ref b8), (.ref b8)])) _
    refine st9.trans ?_
    show Steps p.tables e below (T9.setTop (mkF m 96 #[.val (.long q1), .second, .val (.long q2), .second, .val (.long q3), .second, .val (.int p4), .val (.long nn), .second, .val (.long f1), .second, .val (.long f2), .second, .unset, .unset, .unset, .unset, .unset, .unset, .unset, .unset, .unset] [(.ref b8)])) _
    refine XS.astore X9.here hx rfl (hb hby at_96) rfl rfl (l' := #[.val (.long q1), .second, .val (.long q2), .second, .val (.long q3), .second, .val (.int p4), .val (.long nn), .second, .val (.long f1), .second, .val (.long f2), .second, .val (.ref b8), .unset, .unset, .unset, .unset, .unset, .unset, .unset, .unset]) rfl ?_
    show Steps p.tables e below (T9.setTop (mkF m 98 #[.val (.long q1), .second, .val (.long q2), .second, .val (.long q3), .second, .val (.int p4), .val (.long nn), .second, .val (.long f1), .second, .val (.long f2), .second, .val (.ref b8), .unset, .unset, .unset, .unset, .unset, .unset, .unset, .unset] [])) _
    refine st10 _ ?_
    show Steps p.tables e below (T10.setTop (mkF m 101 #[.val (.long q1), .second, .val (.long q2), .second, .val (.long q3), .second, .val (.int p4), .val (.long nn), .second, .val (.long f1), .second, .val (.long f2), .second, .val (.ref b8), .unset, .unset, .unset, .unset, .unset, .unset, .unset, .unset] [(.ref b10)])) _
    refine XS.dup X10.here hx rfl (hb hby at_101) rfl rfl ?_
    show Steps p.tables e below (T10.setTop (mkF m 102 #[.val (.long q1), .second, .val (.long q2), .second, .val (.long q3), .second, .val (.int p4), .val (.long nn), .second, .val (.long f1), .second, .val (.long f2), .second, .val (.ref b8), .unset, .unset, .unset, .unset, .unset, .unset, .unset, .unset] [(.ref b10), (.ref b10)])) _
    refine XS.lconst X10.here hx rfl (hb hby at_102) ?_
    show Steps p.tables e below (T10.setTop (mkF m 103 #[.val (.long q1), .second, .val (.long q2), .second, .val (.long q3), .second, .val (.int p4), .val (.long nn), .second, .val (.long f1), .second, .val (.long f2), .second, .val (.ref b8), .unset, .unset, .unset, .unset, .unset, .unset, .unset, .unset] [(.long (0 : Int64)), (.ref b10), (.ref b10)])) _
    refine XS.lconst X10.here hx rfl (hb hby at_103) ?_
    show Steps p.tables e below (T10.setTop (mkF m 104 #[.val (.long q1), .second, .val (.long q2), .second, .val (.long q3), .second, .val (.int p4), .val (.long nn), .second, .val (.long f1), .second, .val (.long f2), .second, .val (.ref b8), .unset, .unset, .unset, .unset, .unset, .unset, .unset, .unset] [(.long (0 : Int64)), (.long (0 : Int64)), (.ref b10), (.ref b10)])) _
    refine XS.lload X10.here hx rfl (hb hby at_104) rfl ?_
    show Steps p.tables e below (T10.setTop (mkF m 106 #[.val (.long q1), .second, .val (.long q2), .second, .val (.long q3), .second, .val (.int p4), .val (.long nn), .second, .val (.long f1), .second, .val (.long f2), .second, .val (.ref b8), .unset, .unset, .unset, .unset, .unset, .unset, .unset, .unset] [(.long nn), (.long (0 : Int64)), (.long (0 : Int64)), (.ref b10), (.ref b10)])) _
    refine XS.lload X10.here hx rfl (hb hby at_106) rfl ?_
    show Steps p.tables e below (T10.setTop (mkF m 108 #[.val (.long q1), .second, .val (.long q2), .second, .val (.long q3), .second, .val (.int p4), .val (.long nn), .second, .val (.long f1), .second, .val (.long f2), .second, .val (.ref b8), .unset, .unset, .unset, .unset, .unset, .unset, .unset, .unset] [(.long nn), (.long nn), (.long (0 : Int64)), (.long (0 : Int64)), (.ref b10), (.ref b10)])) _
    refine XS.lload X10.here hx rfl (hb hby at_108) rfl ?_
    show Steps p.tables e below (T10.setTop (mkF m 110 #[.val (.long q1), .second, .val (.long q2), .second, .val (.long q3), .second, .val (.int p4), .val (.long nn), .second, .val (.long f1), .second, .val (.long f2), .second, .val (.ref b8), .unset, .unset, .unset, .unset, .unset, .unset, .unset, .unset] [(.long f2), (.long nn), (.long nn), (.long (0 : Int64)), (.long (0 : Int64)), (.ref b10), (.ref b10)])) _
    refine XS.lconst X10.here hx rfl (hb hby at_110) ?_
    show Steps p.tables e below (T10.setTop (mkF m 111 #[.val (.long q1), .second, .val (.long q2), .second, .val (.long q3), .second, .val (.int p4), .val (.long nn), .second, .val (.long f1), .second, .val (.long f2), .second, .val (.ref b8), .unset, .unset, .unset, .unset, .unset, .unset, .unset, .unset] [(.long (0 : Int64)), (.long f2), (.long nn), (.long nn), (.long (0 : Int64)), (.long (0 : Int64)), (.ref b10), (.ref b10)])) _
    refine XS.aconstNull X10.here hx rfl (hb hby at_111) ?_
    show Steps p.tables e below (T10.setTop (mkF m 112 #[.val (.long q1), .second, .val (.long q2), .second, .val (.long q3), .second, .val (.int p4), .val (.long nn), .second, .val (.long f1), .second, .val (.long f2), .second, .val (.ref b8), .unset, .unset, .unset, .unset, .unset, .unset, .unset, .unset] [.null, (.long (0 : Int64)), (.long f2), (.long nn), (.long nn), (.long (0 : Int64)), (.long (0 : Int64)), (.ref b10), (.ref b10)])) _
    refine XS.aconstNull X10.here hx rfl (hb hby at_112) ?_
    show Steps p.tables e below (T10.setTop (mkF m 113 #[.val (.long q1), .second, .val (.long q2), .second, .val (.long q3), .second, .val (.int p4), .val (.long nn), .second, .val (.long f1), .second, .val (.long f2), .second, .val (.ref b8), .unset, .unset, .unset, .unset, .unset, .unset, .unset, .unset] [.null, .null, (.long (0 : Int64)), (.long f2), (.long nn), (.long nn), (.long (0 : Int64)), (.long (0 : Int64)), (.ref b10), (.ref b10)])) _
    refine st11.trans ?_
    show Steps p.tables e below (T11.setTop (mkF m 116 #[.val (.long q1), .second, .val (.long q2), .second, .val (.long q3), .second, .val (.int p4), .val (.long nn), .second, .val (.long f1), .second, .val (.long f2), .second, .val (.ref b8), .unset, .unset, .unset, .unset, .unset, .unset, .unset, .unset] [(.ref b10)])) _
    refine XS.astore X11.here hx rfl (hb hby at_116) rfl rfl (l' := #[.val (.long q1), .second, .val (.long q2), .second, .val (.long q3), .second, .val (.int p4), .val (.long nn), .second, .val (.long f1), .second, .val (.long f2), .second, .val (.ref b8), .val (.ref b10), .unset, .unset, .unset, .unset, .unset, .unset, .unset]) rfl ?_
    show Steps p.tables e below (T11.setTop (mkF m 118 #[.val (.long q1), .second, .val (.long q2), .second, .val (.long q3), .second, .val (.int p4), .val (.long nn), .second, .val (.long f1), .second, .val (.long f2), .second, .val (.ref b8), .val (.ref b10), .unset, .unset, .unset, .unset, .unset, .unset, .unset] [])) _
    refine XS.aload X11.here hx rfl (hb hby at_118) rfl rfl ?_
    show Steps p.tables e below (T11.setTop (mkF m 120 #[.val (.long q1), .second, .val (.long q2), .second, .val (.long q3), .second, .val (.int p4), .val (.long nn), .second, .val (.long f1), .second, .val (.long f2), .second, .val (.ref b8), .val (.ref b10), .unset, .unset, .unset, .unset, .unset, .unset, .unset] [(.ref b8)])) _
    refine st12.trans ?_
    show Steps p.tables e below (T12.setTop (mkF m 123 #[.val (.long q1), .second, .val (.long q2), .second, .val (.long q3), .second, .val (.int p4), .val (.long nn), .second, .val (.long f1), .second, .val (.long f2), .second, .val (.ref b8), .val (.ref b10), .unset, .unset, .unset, .unset, .unset, .unset, .unset] [(.double r1)])) _
    refine XS.dstore X12.here hx rfl (hb hby at_123) rfl (l' := #[.val (.long q1), .second, .val (.long q2), .second, .val (.long q3), .second, .val (.int p4), .val (.long nn), .second, .val (.long f1), .second, .val (.long f2), .second, .val (.ref b8), .val (.ref b10), .val (.double r1), .second, .unset, .unset, .unset, .unset, .unset]) rfl ?_
    show Steps p.tables e below (T12.setTop (mkF m 125 #[.val (.long q1), .second, .val (.long q2), .second, .val (.long q3), .second, .val (.int p4), .val (.long nn), .second, .val (.long f1), .second, .val (.long f2), .second, .val (.ref b8), .val (.ref b10), .val (.double r1), .second, .unset, .unset, .unset, .unset, .unset] [])) _
    refine XS.aload X12.here hx rfl (hb hby at_125) rfl rfl ?_
    show Steps p.tables e below (T12.setTop (mkF m 127 #[.val (.long q1), .second, .val (.long q2), .second, .val (.long q3), .second, .val (.int p4), .val (.long nn), .second, .val (.long f1), .second, .val (.long f2), .second, .val (.ref b8), .val (.ref b10), .val (.double r1), .second, .unset, .unset, .unset, .unset, .unset] [(.ref b10)])) _
    refine st13.trans ?_
    show Steps p.tables e below (T13.setTop (mkF m 130 #[.val (.long q1), .second, .val (.long q2), .second, .val (.long q3), .second, .val (.int p4), .val (.long nn), .second, .val (.long f1), .second, .val (.long f2), .second, .val (.ref b8), .val (.ref b10), .val (.double r1), .second, .unset, .unset, .unset, .unset, .unset] [(.double r2)])) _
    refine XS.dstore X13.here hx rfl (hb hby at_130) rfl (l' := #[.val (.long q1), .second, .val (.long q2), .second, .val (.long q3), .second, .val (.int p4), .val (.long nn), .second, .val (.long f1), .second, .val (.long f2), .second, .val (.ref b8), .val (.ref b10), .val (.double r1), .second, .val (.double r2), .second, .unset, .unset, .unset]) rfl ?_
    show Steps p.tables e below (T13.setTop (mkF m 132 #[.val (.long q1), .second, .val (.long q2), .second, .val (.long q3), .second, .val (.int p4), .val (.long nn), .second, .val (.long f1), .second, .val (.long f2), .second, .val (.ref b8), .val (.ref b10), .val (.double r1), .second, .val (.double r2), .second, .unset, .unset, .unset] [])) _
    refine st14 _ ?_
    show Steps p.tables e below (T14.setTop (mkF m 167 #[.val (.long q1), .second, .val (.long q2), .second, .val (.long q3), .second, .val (.int p4), .val (.long nn), .second, .val (.long f1), .second, .val (.long f2), .second, .val (.ref b8), .val (.ref b10), .val (.double r1), .second, .val (.double r2), .second, .val (.int (1 : Int32)), .unset, .unset] [])) _
    refine st15 _ ?_
    show Steps p.tables e below (T15.setTop (mkF m 213 #[.val (.long q1), .second, .val (.long q2), .second, .val (.long q3), .second, .val (.int p4), .val (.long nn), .second, .val (.long f1), .second, .val (.long f2), .second, .val (.ref b8), .val (.ref b10), .val (.double r1), .second, .val (.double r2), .second, .val (.int (1 : Int32)), .unset, .unset] [])) _
    refine st16 _ ?_
    show Steps p.tables e below (T16.setTop (mkF m 247 #[.val (.long q1), .second, .val (.long q2), .second, .val (.long q3), .second, .val (.int p4), .val (.long nn), .second, .val (.long f1), .second, .val (.long f2), .second, .val (.ref b8), .val (.ref b10), .val (.double r1), .second, .val (.double r2), .second, .val (.int (1 : Int32)), .unset, .unset] [])) _
    refine st17 _ ?_
    show Steps p.tables e below (T17.setTop (mkF m 263 #[.val (.long q1), .second, .val (.long q2), .second, .val (.long q3), .second, .val (.int p4), .val (.long nn), .second, .val (.long f1), .second, .val (.long f2), .second, .val (.ref b8), .val (.ref b10), .val (.double r1), .second, .val (.double r2), .second, .val (.int (1 : Int32)), .val (.int ex), .unset] [])) _
    refine st18 _ ?_
    show Steps p.tables e below (T18.setTop (mkF m 357 #[.val (.long q1), .second, .val (.long q2), .second, .val (.long q3), .second, .val (.int p4), .val (.long nn), .second, .val (.long f1), .second, .val (.long f2), .second, .val (.ref b8), .val (.ref b10), .val (.double r1), .second, .val (.double r2), .second, .val (.int (1 : Int32)), .val (.int ex), .unset] [])) _
    refine st19 _ ?_
    show Steps p.tables e below (T19.setTop (mkF m 385 #[.val (.long q1), .second, .val (.long q2), .second, .val (.long q3), .second, .val (.int p4), .val (.long nn), .second, .val (.long f1), .second, .val (.long f2), .second, .val (.ref b8), .val (.ref b10), .val (.double r1), .second, .val (.double r2), .second, .val (.int (1 : Int32)), .val (.int ex), .unset] [])) _
    refine st20 _ ?_
    show Steps p.tables e below (T20.setTop (mkF m 413 #[.val (.long q1), .second, .val (.long q2), .second, .val (.long q3), .second, .val (.int p4), .val (.long nn), .second, .val (.long f1), .second, .val (.long f2), .second, .val (.ref b8), .val (.ref b10), .val (.double r1), .second, .val (.double r2), .second, .val (.int (1 : Int32)), .val (.int ex), .unset] [])) _
    refine XS.lload X20.here hx rfl (hb hby at_413) rfl ?_
    show Steps p.tables e below (T20.setTop (mkF m 415 #[.val (.long q1), .second, .val (.long q2), .second, .val (.long q3), .second, .val (.int p4), .val (.long nn), .second, .val (.long f1), .second, .val (.long f2), .second, .val (.ref b8), .val (.ref b10), .val (.double r1), .second, .val (.double r2), .second, .val (.int (1 : Int32)), .val (.int ex), .unset] [(.long nn)])) _
    refine X20.ldc2Long hx hown (mvT hZ (hw _ (List.mem_of_getElem? (i := 38) rfl))) (g := (mkF m 415 #[.val (.long q1), .second, .val (.long q2), .second, .val (.long q3), .second, .val (.int p4), .val (.long nn), .second, .val (.long f1), .second, .val (.long f2), .second, .val (.ref b8), .val (.ref b10), .val (.double r1), .second, .val (.double r2), .second, .val (.int (1 : Int32)), .val (.int ex), .unset] [(.long nn)])) rfl (hb hby at_415) _ ?_
    show Steps p.tables e below (T20.setTop (mkF m 418 #[.val (.long q1), .second, .val (.long q2), .second, .val (.long q3), .second, .val (.int p4), .val (.long nn), .second, .val (.long f1), .second, .val (.long f2), .second, .val (.ref b8), .val (.ref b10), .val (.double r1), .second, .val (.double r2), .second, .val (.int (1 : Int32)), .val (.int ex), .unset] [(.long (4503599627370496 : Int64)), (.long nn)])) _
    refine XS.lcmp X20.here hx rfl (hb hby at_418) rfl ?_
    show Steps p.tables e below (T20.setTop (mkF m 419 #[.val (.long q1), .second, .val (.long q2), .second, .val (.long q3), .second, .val (.int p4), .val (.long nn), .second, .val (.long f1), .second, .val (.long f2), .second, .val (.ref b8), .val (.ref b10), .val (.double r1), .second, .val (.double r2), .second, .val (.int (1 : Int32)), .val (.int ex), .unset] [(.int (lcmpW nn (4503599627370496 : Int64)))])) _
    refine XS.ifNo X20.here hx rfl (hb hby at_419) rfl ((if0 _ _).trans (tlt hc419).2.1) ?_
    show Steps p.tables e below (T20.setTop (mkF m 422 #[.val (.long q1), .second, .val (.long q2), .second, .val (.long q3), .second, .val (.int p4), .val (.long nn), .second, .val (.long f1), .second, .val (.long f2), .second, .val (.ref b8), .val (.ref b10), .val (.double r1), .second, .val (.double r2), .second, .val (.int (1 : Int32)), .val (.int ex), .unset] [])) _
    refine st21 _ ?_
    show Steps p.tables e below (T21.setTop (mkF m 425 #[.val (.long q1), .second, .val (.long q2), .second, .val (.long q3), .second, .val (.int p4), .val (.long nn), .second, .val (.long f1), .second, .val (.long f2), .second, .val (.ref b8), .val (.ref b10), .val (.double r1), .second, .val (.double r2), .second, .val (.int (1 : Int32)), .val (.int ex), .unset] [(.ref b21)])) _
    refine XS.dup X21.here hx rfl (hb hby at_425) rfl rfl ?_
    show Steps p.tables e below (T21.setTop (mkF m 426 #[.val (.long q1), .second, .val (.long q2), .second, .val (.long q3), .second, .val (.int p4), .val (.long nn), .second, .val (.long f1), .second, .val (.long f2), .second, .val (.ref b8), .val (.ref b10), .val (.double r1), .second, .val (.double r2), .second, .val (.int (1 : Int32)), .val (.int ex), .unset] [(.ref b21), (.ref b21)])) _
    refine XS.lconst X21.here hx rfl (hb hby at_426) ?_
    show Steps p.tables e below (T21.setTop (mkF m 427 #[.val (.long q1), .second, .val (.long q2), .second, .val (.long q3), .second, .val (.int p4), .val (.long nn), .second, .val (.long f1), .second, .val (.long f2), .second, .val (.ref b8), .val (.ref b10), .val (.double r1), .second, .val (.double r2), .second, .val (.int (1 : Int32)), .val (.int ex), .unset] [(.long (0 : Int64)), (.ref b21), (.ref b21)])) _
    refine XS.lconst X21.here hx rfl (hb hby at_427) ?_
    show Steps p.tables e below (T21.setTop (mkF m 428 #[.val (.long q1), .second, .val (.long q2), .second, .val (.long q3), .second, .val (.int p4), .val (.long nn), .second, .val (.long f1), .second, .val (.long f2), .second, .val (.ref b8), .val (.ref b10), .val (.double r1), .second, .val (.double r2), .second, .val (.int (1 : Int32)), .val (.int ex), .unset] [(.long (0 : Int64)), (.long (0 : Int64)), (.ref b21), (.ref b21)])) _
    refine X21.ldc2Long hx hown (mvT hZ (hw _ (List.mem_of_getElem? (i := 39) rfl))) (g := (mkF m 428 #[.val (.long q1), .second, .val (.long q2), .second, .val (.long q3), .second, .val (.int p4), .val (.long nn), .second, .val (.long f1), .second, .val (.long f2), .second, .val (.ref b8), .val (.ref b10), .val (.double r1), .second, .val (.double r2), .second, .val (.int (1 : Int32)), .val (.int ex), .unset] [(.long (0 : Int64)), (.long (0 : Int64)), (.ref b21), (.ref b21)])) rfl (hb hby at_428) _ ?_
    show Steps p.tables e below (T21.setTop (mkF m 431 #[.val (.long q1), .second, .val (.long q2), .second, .val (.long q3), .second, .val (.int p4), .val (.long nn), .second, .val (.long f1), .second, .val (.long f2), .second, .val (.ref b8), .val (.ref b10), .val (.double r1), .second, .val (.double r2), .second, .val (.int (1 : Int32)), .val (.int ex), .unset] [(.long (2 : Int64)), (.long (0 : Int64)), (.long (0 : Int64)), (.ref b21), (.ref b21)])) _
    refine XS.lload X21.here hx rfl (hb hby at_431) rfl ?_
    show Steps p.tables e below (T21.setTop (mkF m 433 #[.val (.long q1), .second, .val (.long q2), .second, .val (.long q3), .second, .val (.int p4), .val (.long nn), .second, .val (.long f1), .second, .val (.long f2), .second, .val (.ref b8), .val (.ref b10), .val (.double r1), .second, .val (.double r2), .second, .val (.int (1 : Int32)), .val (.int ex), .unset] [(.long nn), (.long (2 : Int64)), (.long (0 : Int64)), (.long (0 : Int64)), (.ref b21), (.ref b21)])) _
    refine XS.lmul X21.here hx rfl (hb hby at_433) rfl ?_
    show Steps p.tables e below (T21.setTop (mkF m 434 #[.val (.long q1), .second, .val (.long q2), .second, .val (.long q3), .second, .val (.int p4), .val (.long nn), .second, .val (.long f1), .second, .val (.long f2), .second, .val (.ref b8), .val (.ref b10), .val (.double r1), .second, .val (.double r2), .second, .val (.int (1 : Int32)), .val (.int ex), .unset] [(.long ((2 : Int64) * nn)), (.long (0 : Int64)), (.long (0 : Int64)), (.ref b21), (.ref b21)])) _
    refine X21.ldc2Long hx hown (mvT hZ (hw _ (List.mem_of_getElem? (i := 39) rfl))) (g := (mkF m 434 #[.val (.long q1), .second, .val (.long q2), .second, .val (.long q3), .second, .val (.int p4), .val (.long nn), .second, .val (.long f1), .second, .val (.long f2), .second, .val (.ref b8), .val (.ref b10), .val (.double r1), .second, .val (.double r2), .second, .val (.int (1 : Int32)), .val (.int ex), .unset] [(.long ((2 : Int64) * nn)), (.long (0 : Int64)), (.long (0 : Int64)), (.ref b21), (.ref b21)])) rfl (hb hby at_434) _ ?_
    show Steps p.tables e below (T21.setTop (mkF m 437 #[.val (.long q1), .second, .val (.long q2), .second, .val (.long q3), .second, .val (.int p4), .val (.long nn), .second, .val (.long f1), .second, .val (.long f2), .second, .val (.ref b8), .val (.ref b10), .val (.double r1), .second, .val (.double r2), .second, .val (.int (1 : Int32)), .val (.int ex), .unset] [(.long (2 : Int64)), (.long ((2 : Int64) * nn)), (.long (0 : Int64)), (.long (0 : Int64)), (.ref b21), (.ref b21)])) _
    refine XS.lload X21.here hx rfl (hb hby at_437) rfl ?_
    show Steps p.tables e below (T21.setTop (mkF m 439 #[.val (.long q1), .second, .val (.long q2), .second, .val (.long q3), .second, .val (.int p4), .val (.long nn), .second, .val (.long f1), .second, .val (.long f2), .second, .val (.ref b8), .val (.ref b10), .val (.double r1), .second, .val (.double r2), .second, .val (.int (1 : Int32)), .val (.int ex), .unset] [(.long nn), (.long (2 : Int64)), (.long ((2 : Int64) * nn)), (.long (0 : Int64)), (.long (0 : Int64)), (.ref b21), (.ref b21)])) _
    refine XS.lmul X21.here hx rfl (hb hby at_439) rfl ?_
    show Steps p.tables e below (T21.setTop (mkF m 440 #[.val (.long q1), .second, .val (.long q2), .second, .val (.long q3), .second, .val (.int p4), .val (.long nn), .second, .val (.long f1), .second, .val (.long f2), .second, .val (.ref b8), .val (.ref b10), .val (.double r1), .second, .val (.double r2), .second, .val (.int (1 : Int32)), .val (.int ex), .unset] [(.long ((2 : Int64) * nn)), (.long ((2 : Int64) * nn)), (.long (0 : Int64)), (.long (0 : Int64)), (.ref b21), (.ref b21)])) _
    refine X21.ldc2Long hx hown (mvT hZ (hw _ (List.mem_of_getElem? (i := 39) rfl))) (g := (mkF m 440 #[.val (.long q1), .second, .val (.long q2), .second, .val (.long q3), .second, .val (.int p4), .val (.long nn), .second, .val (.long f1), .second, .val (.long f2), .second, .val (.ref b8), .val (.ref b10), .val (.double r1), .second, .val (.double r2), .second, .val (.int (1 : Int32)), .val (.int ex), .unset] [(.long ((2 : Int64) * nn)), (.long ((2 : Int64) * nn)), (.long (0 : Int64)), (.long (0 : Int64)), (.ref b21), (.ref b21)])) rfl (hb hby at_440) _ ?_
    show Steps p.tables e below (T21.setTop (mkF m 443 #[.val (.long q1), .second, .val (.long q2), .second, .val (.long q3), .second, .val (.int p4), .val (.long nn), .second, .val (.long f1), .second, .val (.long f2), .second, .val (.ref b8), .val (.ref b10), .val (.double r1), .second, .val (.double r2), .second, .val (.int (1 : Int32)), .val (.int ex), .unset] [(.long (2 : Int64)), (.long ((2 : Int64) * nn)), (.long ((2 : Int64) * nn)), (.long (0 : Int64)), (.long (0 : Int64)), (.ref b21), (.ref b21)])) _
    refine XS.lload X21.here hx rfl (hb hby at_443) rfl ?_
    show Steps p.tables e below (T21.setTop (mkF m 445 #[.val (.long q1), .second, .val (.long q2), .second, .val (.long q3), .second, .val (.int p4), .val (.long nn), .second, .val (.long f1), .second, .val (.long f2), .second, .val (.ref b8), .val (.ref b10), .val (.double r1), .second, .val (.double r2), .second, .val (.int (1 : Int32)), .val (.int ex), .unset] [(.long f1), (.long (2 : Int64)), (.long ((2 : Int64) * nn)), (.long ((2 : Int64) * nn)), (.long (0 : Int64)), (.long (0 : Int64)), (.ref b21), (.ref b21)])) _
    refine XS.lmul X21.here hx rfl (hb hby at_445) rfl ?_
    show Steps p.tables e below (T21.setTop (mkF m 446 #[.val (.long q1), .second, .val (.long q2), .second, .val (.long q3), .second, .val (.int p4), .val (.long nn), .second, .val (.long f1), .second, .val (.long f2), .second, .val (.ref b8), .val (.ref b10), .val (.double r1), .second, .val (.double r2), .second, .val (.int (1 : Int32)), .val (.int ex), .unset] [(.long ((2 : Int64) * f1)), (.long ((2 : Int64) * nn)), (.long ((2 : Int64) * nn)), (.long (0 : Int64)), (.long (0 : Int64)), (.ref b21), (.ref b21)])) _
    refine XS.lconst X21.here hx rfl (hb hby at_446) ?_
    show Steps p.tables e below (T21.setTop (mkF m 447 #[.val (.long q1), .second, .val (.long q2), .second, .val (.long q3), .second, .val (.int p4), .val (.long nn), .second, .val (.long f1), .second, .val (.long f2), .second, .val (.ref b8), .val (.ref b10), .val (.double r1), .second, .val (.double r2), .second, .val (.int (1 : Int32)), .val (.int ex), .unset] [(.long (0 : Int64)), (.long ((2 : Int64) * f1)), (.long ((2 : Int64) * nn)), (.long ((2 : Int64) * nn)), (.long (0 : Int64)), (.long (0 : Int64)), (.ref b21), (.ref b21)])) _
    refine XS.aconstNull X21.here hx rfl (hb hby at_447) ?_
    show Steps p.tables e below (T21.setTop (mkF m 448 #[.val (.long q1), .second, .val (.long q2), .second, .val (.long q3), .second, .val (.int p4), .val (.long nn), .second, .val (.long f1), .second, .val (.long f2), .second, .val (.ref b8), .val (.ref b10), .val (.double r1), .second, .val (.double r2), .second, .val (.int (1 : Int32)), .val (.int ex), .unset] [.null, (.long (0 : Int64)), (.long ((2 : Int64) * f1)), (.long ((2 : Int64) * nn)), (.long ((2 : Int64) * nn)), (.long (0 : Int64)), (.long (0 : Int64)), (.ref b21), (.ref b21)])) _
    refine XS.aconstNull X21.here hx rfl (hb hby at_448) ?_
    show Steps p.tables e below (T21.setTop (mkF m 449 #[.val (.long q1), .second, .val (.long q2), .second, .val (.long q3), .second, .val (.int p4), .val (.long nn), .second, .val (.long f1), .second, .val (.long f2), .second, .val (.ref b8), .val (.ref b10), .val (.double r1), .second, .val (.double r2), .second, .val (.int (1 : Int32)), .val (.int ex), .unset] [.null, .null, (.long (0 : Int64)), (.long ((2 : Int64) * f1)), (.long ((2 : Int64) * nn)), (.long ((2 : Int64) * nn)), (.long (0 : Int64)), (.long (0 : Int64)), (.ref b21), (.ref b21)])) _
    refine st22.trans ?_
    show Steps p.tables e below (T22.setTop (mkF m 452 #[.val (.long q1), .second, .val (.long q2), .second, .val (.long q3), .second, .val (.int p4), .val (.long nn), .second, .val (.long f1), .second, .val (.long f2), .second, .val (.ref b8), .val (.ref b10), .val (.double r1), .second, .val (.double r2), .second, .val (.int (1 : Int32)), .val (.int ex), .unset] [(.ref b21)])) _
    refine XS.astore X22.here hx rfl (hb hby at_452) rfl rfl (l' := #[.val (.long q1), .second, .val (.long q2), .second, .val (.long q3), .second, .val (.int p4), .val (.long nn), .second, .val (.long f1), .second, .val (.long f2), .second, .val (.ref b8), .val (.ref b10), .val (.double r1), .second, .val (.double r2), .second, .val (.int (1 : Int32)), .val (.int ex), .val (.ref b21)]) rfl ?_
    show Steps p.tables e below (T22.setTop (mkF m 454 #[.val (.long q1), .second, .val (.long q2), .second, .val (.long q3), .second, .val (.int p4), .val (.long nn), .second, .val (.long f1), .second, .val (.long f2), .second, .val (.ref b8), .val (.ref b10), .val (.double r1), .second, .val (.double r2), .second, .val (.int (1 : Int32)), .val (.int ex), .val (.ref b21)] [])) _
    refine XS.iload X22.here hx rfl (hb hby at_454) rfl ?_
    show Steps p.tables e below (T22.setTop (mkF m 456 #[.val (.long q1), .second, .val (.long q2), .second, .val (.long q3), .second, .val (.int p4), .val (.long nn), .second, .val (.long f1), .second, .val (.long f2), .second, .val (.ref b8), .val (.ref b10), .val (.double r1), .second, .val (.double r2), .second, .val (.int (1 : Int32)), .val (.int ex), .val (.ref b21)] [(.int (1 : Int32))])) _
    refine XS.ifNo X22.here hx rfl (hb hby at_456) rfl ((if0 _ _).trans (feq hc456).1) ?_
    show Steps p.tables e below (T22.setTop (mkF m 459 #[.val (.long q1), .second, .val (.long q2), .second, .val (.long q3), .second, .val (.int p4), .val (.long nn), .second, .val (.long f1), .second, .val (.long f2), .second, .val (.ref b8), .val (.ref b10), .val (.double r1), .second, .val (.double r2), .second, .val (.int (1 : Int32)), .val (.int ex), .val (.ref b21)] [])) _
    refine XS.aload X22.here hx rfl (hb hby at_459) rfl rfl ?_
    show Steps p.tables e below (T22.setTop (mkF m 461 #[.val (.long q1), .second, .val (.long q2), .second, .val (.long q3), .second, .val (.int p4), .val (.long nn), .second, .val (.long f1), .second, .val (.long f2), .second, .val (.ref b8), .val (.ref b10), .val (.double r1), .second, .val (.double r2), .second, .val (.int (1 : Int32)), .val (.int ex), .val (.ref b21)] [(.ref b21)])) _
    refine st23.trans ?_
    show Steps p.tables e below (T23.setTop (mkF m 464 #[.val (.long q1), .second, .val (.long q2), .second, .val (.long q3), .second, .val (.int p4), .val (.long nn), .second, .val (.long f1), .second, .val (.long f2), .second, .val (.ref b8), .val (.ref b10), .val (.double r1), .second, .val (.double r2), .second, .val (.int (1 : Int32)), .val (.int ex), .val (.ref b21)] [(.double r3)])) _
    refine XS.dload X23.here hx rfl (hb hby at_464) rfl ?_
    show Steps p.tables e below (T23.setTop (mkF m 466 #[.val (.long q1), .second, .val (.long q2), .second, .val (.long q3), .second, .val (.int p4), .val (.long nn), .second, .val (.long f1), .second, .val (.long f2), .second, .val (.ref b8), .val (.ref b10), .val (.double r1), .second, .val (.double r2), .second, .val (.int (1 : Int32)), .val (.int ex), .val (.ref b21)] [(.double r1), (.double r3)])) _
    refine XS.dcmpS X23.here hx rfl (hb hby at_466) rfl rfl ?_
    show Steps p.tables e below (T23.setTop (mkF m 467 #[.val (.long q1), .second, .val (.long q2), .second, .val (.long q3), .second, .val (.int p4), .val (.long nn), .second, .val (.long f1), .second, .val (.long f2), .second, .val (.ref b8), .val (.ref b10), .val (.double r1), .second, .val (.double r2), .second, .val (.int (1 : Int32)), .val (.int ex), .val (.ref b21)] [(.int (cmpValue (FP.dcmp r3 r1) .l))])) _
    refine XS.ifNo X23.here hx rfl (hb hby at_467) rfl ((if0 _ _).trans (teq hc467).2) ?_
    show Steps p.tables e below (T23.setTop (mkF m 470 #[.val (.long q1), .second, .val (.long q2), .second, .val (.long q3), .second, .val (.int p4), .val (.long nn), .second, .val (.long f1), .second, .val (.long f2), .second, .val (.ref b8), .val (.ref b10), .val (.double r1), .second, .val (.double r2), .second, .val (.int (1 : Int32)), .val (.int ex), .val (.ref b21)] [])) _
    refine XS.iconst X23.here hx rfl (hb hby at_470) ?_
    show Steps p.tables e below (T23.setTop (mkF m 471 #[.val (.long q1), .second, .val (.long q2), .second, .val (.long q3), .second, .val (.int p4), .val (.long nn), .second, .val (.long f1), .second, .val (.long f2), .second, .val (.ref b8), .val (.ref b10), .val (.double r1), .second, .val (.double r2), .second, .val (.int (1 : Int32)), .val (.int ex), .val (.ref b21)] [(.int (1 : Int32))])) _
    refine XS.goto X23.here hx rfl (pc0 := 471) (pc' := 475) rfl (hb hby at_471) (by decide) (by decide) ?_
    show Steps p.tables e below (T23.setTop (mkF m 475 #[.val (.long q1), .second, .val (.long q2), .second, .val (.long q3), .second, .val (.int p4), .val (.long nn), .second, .val (.long f1), .second, .val (.long f2), .second, .val (.ref b8), .val (.ref b10), .val (.double r1), .second, .val (.double r2), .second, .val (.int (1 : Int32)), .val (.int ex), .val (.ref b21)] [(.int (1 : Int32))])) _
    refine XS.istore X23.here hx rfl (hb hby at_475) rfl (l' := #[.val (.long q1), .second, .val (.long q2), .second, .val (.long q3), .second, .val (.int p4), .val (.long nn), .second, .val (.long f1), .second, .val (.long f2), .second, .val (.ref b8), .val (.ref b10), .val (.double r1), .second, .val (.double r2), .second, .val (.int (1 : Int32)), .val (.int ex), .val (.ref b21)]) rfl ?_
    show Steps p.tables e below (T23.setTop (mkF m 477 #[.val (.long q1), .second, .val (.long q2), .second, .val (.long q3), .second, .val (.int p4), .val (.long nn), .second, .val (.long f1), .second, .val (.long f2), .second, .val (.ref b8), .val (.ref b10), .val (.double r1), .second, .val (.double r2), .second, .val (.int (1 : Int32)), .val (.int ex), .val (.ref b21)] [])) _
    refine XS.iload X23.here hx rfl (hb hby at_477) rfl ?_
    show Steps p.tables e below (T23.setTop (mkF m 479 #[.val (.long q1), .second, .val (.long q2), .second, .val (.long q3), .second, .val (.int p4), .val (.long nn), .second, .val (.long f1), .second, .val (.long f2), .second, .val (.ref b8), .val (.ref b10), .val (.double r1), .second, .val (.double r2), .second, .val (.int (1 : Int32)), .val (.int ex), .val (.ref b21)] [(.int (1 : Int32))])) _
    exact retN X23 hx (t := .boolean) Bd.returns (by simp) (hb hby at_479) hr
  · show Q0 Z h0 n0 _ T23.heap _
    rw [e23]
    exact ⟨rfl, N23⟩
theorem own_HE {nn f1 f2 : Int64} {r1 r2 : UInt64} (hn : 0 ≤ nn.toInt) (a1 : 0 ≤ f1.toInt) (b1 : f1.toInt ≤ nn.toInt) (a2 : 0 ≤ f2.toInt) (b2 : f2.toInt ≤ nn.toInt) (h1 : own_f4 nn f1 = r1) (h2 : own_f4 nn f2 = r2) : ((¬ ((0 : Int32) < (cmpValue (FP.dcmp FP.dconst0 r1) .g))) ∧ (¬ ((0 : Int32) < (cmpValue (FP.dcmp r1 FP.dconst1) .g))) ∧ (¬ ((0 : Int32) < (cmpValue (FP.dcmp FP.dconst0 r2) .g))) ∧ (¬ ((0 : Int32) < (cmpValue (FP.dcmp r2 FP.dconst1) .g)))) := by
  have k1 := own_r a1 b1
  have k2 := own_r a2 b2
  rw [h1] at k1
  rw [h2] at k2
  have z0 := own_z0
  have z1 := own_z1
  have zh := own_zh
  have o1 : (own_rz nn f1 : Int) ≤ own_P := Int.ofNat_le.mpr (own_rz_le a1 b1)
  have o2 : (own_rz nn f2 : Int) ≤ own_P := Int.ofNat_le.mpr (own_rz_le a2 b2)
  have p0 : (0 : Int) < own_P := Int.ofNat_lt.mpr own_P_pos
  have i0 : (0 : Int64).toInt = 0 := by decide
  simp only [own_gt k1.1 z0.1, own_gt z0.1 k1.1, own_gt k1.1 z1.1, own_gt k2.1 z1.1, own_gt z0.1 k2.1, own_gt k1.1 k2.1, own_gt k2.1 k1.1, own_eq0 k1.1 z0.1, own_eq0 k1.1 z1.1, own_eq0 k1.1 zh.1, lw_eq, lw_gt, lw_lt, own_10, not_false_eq_true, true_and, and_true, ← Int64.toInt_inj, Int64.lt_iff_toInt_lt, k1.2, k2.2, z0.2, z1.2, zh.2, i0]
  omega
theorem own_HF {nn f1 f2 : Int64} {r1 r2 : UInt64} (hn : 0 ≤ nn.toInt) (a1 : 0 ≤ f1.toInt) (b1 : f1.toInt ≤ nn.toInt) (a2 : 0 ≤ f2.toInt) (b2 : f2.toInt ≤ nn.toInt) (h1 : own_f4 nn f1 = r1) (h2 : own_f4 nn f2 = r2) : ((¬ ((1 : Int32) = (0 : Int32))) ∧ ((cmpValue (FP.dcmp r1 FP.dconst0) .l) = (0 : Int32)) ∧ ((lcmpW f1 (0 : Int64)) = (0 : Int32))) ∨ ((¬ ((1 : Int32) = (0 : Int32))) ∧ (¬ ((cmpValue (FP.dcmp r1 FP.dconst0) .l) = (0 : Int32))) ∧ (¬ ((lcmpW f1 (0 : Int64)) = (0 : Int32))) ∧ (¬ ((lcmpW nn (0 : Int64)) = (0 : Int32)))) := by
  have k1 := own_r a1 b1
  have k2 := own_r a2 b2
  rw [h1] at k1
  rw [h2] at k2
  have z0 := own_z0
  have z1 := own_z1
  have zh := own_zh
  have o1 : (own_rz nn f1 : Int) ≤ own_P := Int.ofNat_le.mpr (own_rz_le a1 b1)
  have o2 : (own_rz nn f2 : Int) ≤ own_P := Int.ofNat_le.mpr (own_rz_le a2 b2)
  have p0 : (0 : Int) < own_P := Int.ofNat_lt.mpr own_P_pos
  have i0 : (0 : Int64).toInt = 0 := by decide
  have c1 : (own_rz nn f1 : Int) = 0 ↔ f1.toInt = 0 := by rw [← own_rz_zero a1 b1]; omega
  simp only [own_gt k1.1 z0.1, own_gt z0.1 k1.1, own_gt k1.1 z1.1, own_gt k2.1 z1.1, own_gt z0.1 k2.1, own_gt k1.1 k2.1, own_gt k2.1 k1.1, own_eq0 k1.1 z0.1, own_eq0 k1.1 z1.1, own_eq0 k1.1 zh.1, lw_eq, lw_gt, lw_lt, own_10, not_false_eq_true, true_and, and_true, ← Int64.toInt_inj, Int64.lt_iff_toInt_lt, k1.2, k2.2, z0.2, z1.2, zh.2, i0]
  omega
theorem own_HG {nn f1 f2 : Int64} {r1 r2 : UInt64} (hn : 0 ≤ nn.toInt) (a1 : 0 ≤ f1.toInt) (b1 : f1.toInt ≤ nn.toInt) (a2 : 0 ≤ f2.toInt) (b2 : f2.toInt ≤ nn.toInt) (h1 : own_f4 nn f1 = r1) (h2 : own_f4 nn f2 = r2) : ((¬ ((0 : Int32) < (lcmpW nn (0 : Int64))))) ∨ (((0 : Int32) < (lcmpW nn (0 : Int64))) ∧ (¬ ((lcmpW f1 nn) = (0 : Int32)))) ∨ (((0 : Int32) < (lcmpW nn (0 : Int64))) ∧ ((lcmpW f1 nn) = (0 : Int32)) ∧ (¬ ((1 : Int32) = (0 : Int32))) ∧ ((cmpValue (FP.dcmp r1 FP.dconst1) .l) = (0 : Int32))) := by
  have k1 := own_r a1 b1
  have k2 := own_r a2 b2
  rw [h1] at k1
  rw [h2] at k2
  have z0 := own_z0
  have z1 := own_z1
  have zh := own_zh
  have o1 : (own_rz nn f1 : Int) ≤ own_P := Int.ofNat_le.mpr (own_rz_le a1 b1)
  have o2 : (own_rz nn f2 : Int) ≤ own_P := Int.ofNat_le.mpr (own_rz_le a2 b2)
  have p0 : (0 : Int) < own_P := Int.ofNat_lt.mpr own_P_pos
  have i0 : (0 : Int64).toInt = 0 := by decide
  have c1 : f1.toInt = nn.toInt → 0 < nn.toInt → (own_rz nn f1 : Int) = own_P := fun q q2 => by rw [Int64.toInt_inj.mp q, own_rz_one q2]
  simp only [own_gt k1.1 z0.1, own_gt z0.1 k1.1, own_gt k1.1 z1.1, own_gt k2.1 z1.1, own_gt z0.1 k2.1, own_gt k1.1 k2.1, own_gt k2.1 k1.1, own_eq0 k1.1 z0.1, own_eq0 k1.1 z1.1, own_eq0 k1.1 zh.1, lw_eq, lw_gt, lw_lt, own_10, not_false_eq_true, true_and, and_true, ← Int64.toInt_inj, Int64.lt_iff_toInt_lt, k1.2, k2.2, z0.2, z1.2, zh.2, i0]
  omega
theorem own_HI {nn f1 f2 : Int64} {r1 r2 : UInt64} (hn : 0 ≤ nn.toInt) (a1 : 0 ≤ f1.toInt) (b1 : f1.toInt ≤ nn.toInt) (a2 : 0 ≤ f2.toInt) (b2 : f2.toInt ≤ nn.toInt) (h1 : own_f4 nn f1 = r1) (h2 : own_f4 nn f2 = r2) {ex : Int32} (hex : own_sgH_20 nn = ex) : ((¬ ((0 : Int32) < (lcmpW nn (0 : Int64))))) ∨ (((0 : Int32) < (lcmpW nn (0 : Int64))) ∧ (ex = (0 : Int32))) ∨ (((0 : Int32) < (lcmpW nn (0 : Int64))) ∧ (¬ (ex = (0 : Int32))) ∧ (¬ ((1 : Int32) = (0 : Int32))) ∧ ((cmpValue (FP.dcmp r1 FP.dconst1) .l) = (0 : Int32)) ∧ ((lcmpW f1 nn) = (0 : Int32)) ∧ (¬ ((lcmpW (nn &&& (1 : Int64)) (0 : Int64)) = (0 : Int32)))) ∨ (((0 : Int32) < (lcmpW nn (0 : Int64))) ∧ (¬ (ex = (0 : Int32))) ∧ (¬ ((1 : Int32) = (0 : Int32))) ∧ ((cmpValue (FP.dcmp r1 FP.dconst1) .l) = (0 : Int32)) ∧ ((lcmpW f1 nn) = (0 : Int32)) ∧ ((lcmpW (nn &&& (1 : Int64)) (0 : Int64)) = (0 : Int32)) ∧ (¬ ((lcmpW f1 (nn / (2 : Int64))) = (0 : Int32)))) ∨ (((0 : Int32) < (lcmpW nn (0 : Int64))) ∧ (¬ (ex = (0 : Int32))) ∧ (¬ ((1 : Int32) = (0 : Int32))) ∧ ((cmpValue (FP.dcmp r1 FP.dconst1) .l) = (0 : Int32)) ∧ ((lcmpW f1 nn) = (0 : Int32)) ∧ ((lcmpW (nn &&& (1 : Int64)) (0 : Int64)) = (0 : Int32)) ∧ ((lcmpW f1 (nn / (2 : Int64))) = (0 : Int32)) ∧ (¬ ((1 : Int32) = (0 : Int32))) ∧ ((cmpValue (FP.dcmp r1 (4602678819172646912 : UInt64)) .l) = (0 : Int32))) ∨ (((0 : Int32) < (lcmpW nn (0 : Int64))) ∧ (¬ (ex = (0 : Int32))) ∧ (¬ ((1 : Int32) = (0 : Int32))) ∧ (¬ ((cmpValue (FP.dcmp r1 FP.dconst1) .l) = (0 : Int32))) ∧ (¬ ((lcmpW f1 nn) = (0 : Int32))) ∧ (¬ ((lcmpW (nn &&& (1 : Int64)) (0 : Int64)) = (0 : Int32)))) ∨ (((0 : Int32) < (lcmpW nn (0 : Int64))) ∧ (¬ (ex = (0 : Int32))) ∧ (¬ ((1 : Int32) = (0 : Int32))) ∧ (¬ ((cmpValue (FP.dcmp r1 FP.dconst1) .l) = (0 : Int32))) ∧ (¬ ((lcmpW f1 nn) = (0 : Int32))) ∧ ((lcmpW (nn &&& (1 : Int64)) (0 : Int64)) = (0 : Int32)) ∧ (¬ ((lcmpW f1 (nn / (2 : Int64))) = (0 : Int32)))) ∨ (((0 : Int32) < (lcmpW nn (0 : Int64))) ∧ (¬ (ex = (0 : Int32))) ∧ (¬ ((1 : Int32) = (0 : Int32))) ∧ (¬ ((cmpValue (FP.dcmp r1 FP.dconst1) .l) = (0 : Int32))) ∧ (¬ ((lcmpW f1 nn) = (0 : Int32))) ∧ ((lcmpW (nn &&& (1 : Int64)) (0 : Int64)) = (0 : Int32)) ∧ ((lcmpW f1 (nn / (2 : Int64))) = (0 : Int32)) ∧ (¬ ((1 : Int32) = (0 : Int32))) ∧ ((cmpValue (FP.dcmp r1 (4602678819172646912 : UInt64)) .l) = (0 : Int32))) := by
  have k1 := own_r a1 b1
  have k2 := own_r a2 b2
  rw [h1] at k1
  rw [h2] at k2
  have z0 := own_z0
  have z1 := own_z1
  have zh := own_zh
  have o1 : (own_rz nn f1 : Int) ≤ own_P := Int.ofNat_le.mpr (own_rz_le a1 b1)
  have o2 : (own_rz nn f2 : Int) ≤ own_P := Int.ofNat_le.mpr (own_rz_le a2 b2)
  have p0 : (0 : Int) < own_P := Int.ofNat_lt.mpr own_P_pos
  have i0 : (0 : Int64).toInt = 0 := by decide
  have c1 : f1.toInt = nn.toInt → 0 < nn.toInt → (own_rz nn f1 : Int) = own_P := fun q q2 => by rw [Int64.toInt_inj.mp q, own_rz_one q2]
  have c2 : f1.toInt < nn.toInt → nn.toInt < 9007199254740992 → (own_rz nn f1 : Int) < own_P := fun q q2 => Int.ofNat_lt.mpr (own_rz_lt a1 q q2)
  have c3 : 2 * f1.toInt = nn.toInt → 0 < nn.toInt → nn.toInt < 9007199254740992 → (own_rz nn f1 : Int) = own_Q 1 2 := fun q q2 q3 => by rw [own_rz_half a1 q q2 q3]
  have c4 := own_odd nn hn
  have c5 : (nn / (2 : Int64)).toInt = nn.toInt / 2 := (c_ldiv nn 2 2 (by decide) (by decide)).1 hn
  have c6 : ex = (0 : Int32) ↔ 9007199254740992 ≤ nn.toInt := by
    rw [← hex]; unfold own_sgH_20
    have e9 : (9007199254740992 : Int64).toInt = 9007199254740992 := by decide
    simp only [lw_lt, Int64.lt_iff_toInt_lt, e9]
    split
    · exact ⟨fun q => absurd q (by decide), fun q => by omega⟩
    · exact ⟨fun q => by omega, fun q => rfl⟩
  simp only [c6, own_gt k1.1 z0.1, own_gt z0.1 k1.1, own_gt k1.1 z1.1, own_gt k2.1 z1.1, own_gt z0.1 k2.1, own_gt k1.1 k2.1, own_gt k2.1 k1.1, own_eq0 k1.1 z0.1, own_eq0 k1.1 z1.1, own_eq0 k1.1 zh.1, lw_eq, lw_gt, lw_lt, own_10, not_false_eq_true, true_and, and_true, ← Int64.toInt_inj, Int64.lt_iff_toInt_lt, k1.2, k2.2, z0.2, z1.2, zh.2, i0, c4, c5]
  by_cases g1 : 0 < nn.toInt
  · by_cases g2 : 9007199254740992 ≤ nn.toInt
    · exact Or.inr (Or.inl ⟨g1, g2⟩)
    · have g2' : nn.toInt < 9007199254740992 := by omega
      by_cases g3 : f1.toInt = nn.toInt
      · have e1 := c1 g3 g1
        by_cases g4 : nn.toInt % 2 = 0
        · exact Or.inr (Or.inr (Or.inr (Or.inl ⟨g1, g2, e1, g3, g4, by omega⟩)))
        · exact Or.inr (Or.inr (Or.inl ⟨g1, g2, e1, g3, g4⟩))
      · have e1 := c2 (by omega) g2'
        have e2 : ¬ ((own_rz nn f1 : Int) = own_P) := by omega
        by_cases g4 : nn.toInt % 2 = 0
        · by_cases g5 : f1.toInt = nn.toInt / 2
          · exact Or.inr (Or.inr (Or.inr (Or.inr (Or.inr (Or.inr (Or.inr ⟨g1, g2, e2, g3, g4, g5, c3 (by omega) g1 g2'⟩))))))
          · exact Or.inr (Or.inr (Or.inr (Or.inr (Or.inr (Or.inr (Or.inl ⟨g1, g2, e2, g3, g4, g5⟩))))))
        · exact Or.inr (Or.inr (Or.inr (Or.inr (Or.inr (Or.inl ⟨g1, g2, e2, g3, g4⟩)))))
  · exact Or.inl g1
theorem own_HJ {nn f1 f2 : Int64} {r1 r2 : UInt64} (hn : 0 ≤ nn.toInt) (a1 : 0 ≤ f1.toInt) (b1 : f1.toInt ≤ nn.toInt) (a2 : 0 ≤ f2.toInt) (b2 : f2.toInt ≤ nn.toInt) (h1 : own_f4 nn f1 = r1) (h2 : own_f4 nn f2 = r2) : (((0 : Int32) < (lcmpW f1 f2))) ∨ ((¬ ((0 : Int32) < (lcmpW f1 f2))) ∧ (¬ ((1 : Int32) = (0 : Int32))) ∧ (¬ ((0 : Int32) < (cmpValue (FP.dcmp r1 r2) .g)))) := by
  have k1 := own_r a1 b1
  have k2 := own_r a2 b2
  rw [h1] at k1
  rw [h2] at k2
  have z0 := own_z0
  have z1 := own_z1
  have zh := own_zh
  have o1 : (own_rz nn f1 : Int) ≤ own_P := Int.ofNat_le.mpr (own_rz_le a1 b1)
  have o2 : (own_rz nn f2 : Int) ≤ own_P := Int.ofNat_le.mpr (own_rz_le a2 b2)
  have p0 : (0 : Int) < own_P := Int.ofNat_lt.mpr own_P_pos
  have i0 : (0 : Int64).toInt = 0 := by decide
  have c1 : f1.toInt ≤ f2.toInt → (own_rz nn f1 : Int) ≤ own_rz nn f2 := fun q => Int.ofNat_le.mpr (own_rz_mono a1 q hn)
  simp only [own_gt k1.1 z0.1, own_gt z0.1 k1.1, own_gt k1.1 z1.1, own_gt k2.1 z1.1, own_gt z0.1 k2.1, own_gt k1.1 k2.1, own_gt k2.1 k1.1, own_eq0 k1.1 z0.1, own_eq0 k1.1 z1.1, own_eq0 k1.1 zh.1, lw_eq, lw_gt, lw_lt, own_10, not_false_eq_true, true_and, and_true, ← Int64.toInt_inj, Int64.lt_iff_toInt_lt, k1.2, k2.2, z0.2, z1.2, zh.2, i0]
  omega
theorem own_HK {nn f1 f2 : Int64} {r1 r2 : UInt64} (hn : 0 ≤ nn.toInt) (a1 : 0 ≤ f1.toInt) (b1 : f1.toInt ≤ nn.toInt) (a2 : 0 ≤ f2.toInt) (b2 : f2.toInt ≤ nn.toInt) (h1 : own_f4 nn f1 = r1) (h2 : own_f4 nn f2 = r2) : (((0 : Int32) < (lcmpW f2 f1))) ∨ ((¬ ((0 : Int32) < (lcmpW f2 f1))) ∧ (¬ ((1 : Int32) = (0 : Int32))) ∧ (¬ ((0 : Int32) < (cmpValue (FP.dcmp r2 r1) .g)))) := by
  have k1 := own_r a1 b1
  have k2 := own_r a2 b2
  rw [h1] at k1
  rw [h2] at k2
  have z0 := own_z0
  have z1 := own_z1
  have zh := own_zh
  have o1 : (own_rz nn f1 : Int) ≤ own_P := Int.ofNat_le.mpr (own_rz_le a1 b1)
  have o2 : (own_rz nn f2 : Int) ≤ own_P := Int.ofNat_le.mpr (own_rz_le a2 b2)
  have p0 : (0 : Int) < own_P := Int.ofNat_lt.mpr own_P_pos
  have i0 : (0 : Int64).toInt = 0 := by decide
  have c1 : f2.toInt ≤ f1.toInt → (own_rz nn f2 : Int) ≤ own_rz nn f1 := fun q => Int.ofNat_le.mpr (own_rz_mono a2 q hn)
  simp only [own_gt k1.1 z0.1, own_gt z0.1 k1.1, own_gt k1.1 z1.1, own_gt k2.1 z1.1, own_gt z0.1 k2.1, own_gt k1.1 k2.1, own_gt k2.1 k1.1, own_eq0 k1.1 z0.1, own_eq0 k1.1 z1.1, own_eq0 k1.1 zh.1, lw_eq, lw_gt, lw_lt, own_10, not_false_eq_true, true_and, and_true, ← Int64.toInt_inj, Int64.lt_iff_toInt_lt, k1.2, k2.2, z0.2, z1.2, zh.2, i0]
  omega
theorem own_HL {nn f1 f2 : Int64} {r1 r2 : UInt64} (hn : 0 ≤ nn.toInt) (a1 : 0 ≤ f1.toInt) (b1 : f1.toInt ≤ nn.toInt) (a2 : 0 ≤ f2.toInt) (b2 : f2.toInt ≤ nn.toInt) (h1 : own_f4 nn f1 = r1) (h2 : own_f4 nn f2 = r2) (hd : nn.toInt < 4503599627370496) : (cmpValue (FP.dcmp (own_f4 ((2 : Int64) * nn) ((2 : Int64) * f1)) r1) .l) = (0 : Int32) := by
  have k1 := own_r a1 b1
  have k2 := own_r a2 b2
  rw [h1] at k1
  rw [h2] at k2
  have z0 := own_z0
  have z1 := own_z1
  have zh := own_zh
  have o1 : (own_rz nn f1 : Int) ≤ own_P := Int.ofNat_le.mpr (own_rz_le a1 b1)
  have o2 : (own_rz nn f2 : Int) ≤ own_P := Int.ofNat_le.mpr (own_rz_le a2 b2)
  have p0 : (0 : Int) < own_P := Int.ofNat_lt.mpr own_P_pos
  have i0 : (0 : Int64).toInt = 0 := by decide
  have d1 := own_dbl a1 (by omega)
  have d2 := own_dbl hn hd
  have k3 := own_r (n := (2 : Int64) * nn) (f := (2 : Int64) * f1) (by omega) (by omega)
  rw [own_eq0 k3.1 k1.1, k3.2, k1.2, own_rz_dbl a1 b1 hd]
set_option maxRecDepth 65536 in
set_option maxHeartbeats 40000000 in
theorem comes_1 {Post : Tables → Env → Array Value → State → Outcome → State → Prop} (hpost : ∀ tb e args s v u, (limb_1_1.after args s (.returned v) u = true ∧ limb_1_2.after args s (.returned v) u = true ∧ True) → FrameEnd s (.returned v) u (Jvm.fieldLocs frame_1_writes args s ++ Jvm.arrayLocs frame_1_arrays args s ++ Jvm.staticLocs frame_1_statics s) 16 128 → Post tb e args s (.returned v) u) :
    ArmFor flags0 classFile x code maxLocals ret World_1 tables_1 room_1 Calls_1 rest_1 Pre_1 Post := by
  intro l hfl _ _ p e ha hc hk s m args below hf hA hF happ hP
  obtain ⟨hcalls, hrest, hpre⟩ := hP
  obtain ⟨-, -, -, hnamed, -, -, -, hat⟩ := (Spec.applies_iff hf).mp happ
  obtain ⟨hg, hn⟩ := and_e (Cond.before_iff.mp (show (Jvm.Cond.and given_1 narrow_1).before args s = true from hpre))
  obtain ⟨g21, g22⟩ := and_e hg
  obtain ⟨g23, g24⟩ := and_e g22
  obtain ⟨g25, g26⟩ := and_e g24
  obtain ⟨g27, g28⟩ := and_e g26
  obtain ⟨w0, w1, w2, w3, rfl⟩ : ∃ w0 w1 w2 w3 : Value, args = #[w0, w1, w2, w3] := by
    have hs : args.size = 4 := by simpa [Cond.value, given_1] using g21
    obtain ⟨L⟩ := args
    match L, hs with
    | [w0, w1, w2, w3], _ => exact ⟨w0, w1, w2, w3, rfl⟩
  have hw := fun d (hd : d ∈ tables_1) => atoms_spec (ws := Jvm.Cond.code x code maxLocals ret :: tables_1) hat d (List.mem_cons_of_mem _ hd)
  have hfit : Fit s := fun {y c} hc i hi => by
    obtain ⟨ha, rfl⟩ := Array.getElem?_eq_some_iff.mp hc
    have q := List.all_eq_true.mp ((Array.all_eq_true_iff_forall_mem.mp hF) _ (Array.getElem_mem ha)) i (List.mem_range.mpr hi)
    simpa [Array.getElem?_eq_getElem hi] using q
  obtain ⟨i0, ei0⟩ := isL_v g23
  obtain rfl : w0 = (.long i0) := Option.some.inj ei0
  obtain ⟨i1, ei1⟩ := isL_v g25
  obtain rfl : w1 = (.long i1) := Option.some.inj ei1
  obtain ⟨i2, ei2⟩ := isL_v g27
  obtain rfl : w2 = (.long i2) := Option.some.inj ei2
  obtain ⟨i3, ei3⟩ := is_v g28
  obtain rfl : w3 = (.int i3) := Option.some.inj ei3
  obtain ⟨nn, h_nn⟩ : ∃ z, (own_sgB_7 i3 (own_sgA_7 i0 i3)) = z := ⟨_, rfl⟩
  have hn0 : 0 ≤ nn.toInt := by rw [← h_nn]; exact own_nn_nn _ _
  obtain ⟨f1, h_f1⟩ : ∃ z, (own_sgC_9 i1 i3 nn) = z := ⟨_, rfl⟩
  have hf1 : 0 ≤ f1.toInt ∧ f1.toInt ≤ nn.toInt := by rw [← h_f1]; exact own_f1_in _ _ hn0
  obtain ⟨f2, h_f2⟩ : ∃ z, ((i2 &&& (9223372036854775807 : Int64)) - ((i2 &&& (9223372036854775807 : Int64)) / (nn + (1 : Int64))) * (nn + (1 : Int64))) = z := ⟨_, rfl⟩
  have hf2 : 0 ≤ f2.toInt ∧ f2.toInt ≤ nn.toInt := by rw [← h_f2]; exact own_rem (own_land i2 _ (by decide)).1 hn0
  obtain ⟨r1, h_r1⟩ : ∃ z, (own_f4 nn f1) = z := ⟨_, rfl⟩
  obtain ⟨r2, h_r2⟩ : ∃ z, (own_f4 nn f2) = z := ⟨_, rfl⟩
  obtain ⟨r3, h_r3⟩ : ∃ z, (own_f4 ((2 : Int64) * nn) ((2 : Int64) * f1)) = z := ⟨_, rfl⟩
  obtain ⟨ex, h_ex⟩ : ∃ z, (own_sgH_20 nn) = z := ⟨_, rfl⟩
  by_cases h419 : (lcmpW nn (4503599627370496 : Int64)) < (0 : Int32)
  · obtain ⟨n, o, h1, h2, h3, _, L, rfl, ⟨rfl, N⟩, hq⟩ := rm0Y l s _ hw tables_1 i0 i1 i2 i3 nn f1 f2 r1 r2 ex r3 s.heap s.heap.size (Nat.le_refl _) h_nn (own_n1 hn0) (own_n1 hn0) h_f1 h_f2 h_r1 h_r2 (own_HE hn0 hf1.1 hf1.2 hf2.1 hf2.2 h_r1 h_r2) (own_HF hn0 hf1.1 hf1.2 hf2.1 hf2.2 h_r1 h_r2) (own_HG hn0 hf1.1 hf1.2 hf2.1 hf2.2 h_r1 h_r2) h_ex (own_HI hn0 hf1.1 hf1.2 hf2.1 hf2.2 h_r1 h_r2 h_ex) (own_HJ hn0 hf1.1 hf1.2 hf2.1 hf2.2 h_r1 h_r2) (own_HK hn0 hf1.1 hf1.2 hf2.1 hf2.2 h_r1 h_r2) h_r3 h419 (by decide) (by rw [← h_r3]; exact own_HL hn0 hf1.1 hf1.2 hf2.1 hf2.2 h_r1 h_r2 (by rw [lw_lt, Int64.lt_iff_toInt_lt] at h419; exact h419)) p e ha hc hk s m _ below hf ((Spec.applies_iff_loose hf).mp happ).1 ⟨rfl, State.Warmed39.refl s, rfl⟩ trivial
    refine ⟨n, _, h1, h2, h3, hpost _ _ _ _ _ _ ⟨Cond.after_iff.mpr rfl, Cond.after_iff.mpr (eq_i res_at (Term.int_eval (1)) rfl), trivial⟩ ⟨hq.1, hq.2.1, (hq.2.2.sift fun y hy => Or.inr (N y hy)).mono (by decide) (by decide)⟩⟩
  · obtain ⟨n, o, h1, h2, h3, _, L, rfl, ⟨rfl, N⟩, hq⟩ := rm0N l s _ hw tables_1 i0 i1 i2 i3 nn f1 f2 r1 r2 ex s.heap s.heap.size (Nat.le_refl _) h_nn (own_n1 hn0) (own_n1 hn0) h_f1 h_f2 h_r1 h_r2 (own_HE hn0 hf1.1 hf1.2 hf2.1 hf2.2 h_r1 h_r2) (own_HF hn0 hf1.1 hf1.2 hf2.1 hf2.2 h_r1 h_r2) (own_HG hn0 hf1.1 hf1.2 hf2.1 hf2.2 h_r1 h_r2) h_ex (own_HI hn0 hf1.1 hf1.2 hf2.1 hf2.2 h_r1 h_r2 h_ex) (own_HJ hn0 hf1.1 hf1.2 hf2.1 hf2.2 h_r1 h_r2) (own_HK hn0 hf1.1 hf1.2 hf2.1 hf2.2 h_r1 h_r2) h419 p e ha hc hk s m _ below hf ((Spec.applies_iff_loose hf).mp happ).1 ⟨rfl, State.Warmed39.refl s, rfl⟩ trivial
    refine ⟨n, _, h1, h2, h3, hpost _ _ _ _ _ _ ⟨Cond.after_iff.mpr rfl, Cond.after_iff.mpr (eq_i res_at (Term.int_eval (1)) rfl), trivial⟩ ⟨hq.1, hq.2.1, (hq.2.2.sift fun y hy => Or.inr (N y hy)).mono (by decide) (by decide)⟩⟩
theorem main_1_1 : Claimed_1_1 := comes_1 fun _ _ _ _ _ _ h hF => ⟨h.1, hF⟩
theorem main_1_2 : Claimed_1_2 := comes_1 fun _ _ _ _ _ _ h hF => ⟨h.2.1, hF⟩
end Jvm.Pilot.@@N@@
namespace Jvm.Pilot.@@N@@
open Jvm Jvm.ClassFile Sem Op Lib Jvm.Free Jvm.Stand Jvm.Pilot.@@N@@.Jvm.D
/-! MADE BY PROGRAM (witnessworld.py) out of the Statement's table words and the real class files: 10 classes; the members and pool entries that the words name. The judged class is class 1, her method 1. -/
namespace start1
open Jvm.ClassFile
def u (s : String) : CpInfo := .utf8 (stringToUtf16 s)
/-- a pool by its gaps: so many unusable entries, then the entry; so many at the end -/
def gap : Nat → List CpInfo → List CpInfo
  | 0, r => r
  | n + 1, r => .unusable :: gap n r
def poolList (es : List (Nat × CpInfo)) (last : Nat) : List CpInfo := es.foldr (fun e r => gap e.1 (e.2 :: r)) (gap last [])
def pool (es : List (Nat × CpInfo)) (last : Nat) : Array CpInfo := ⟨poolList es last⟩
def fileOf (pool : Array CpInfo) (this : Nat) (attrs : Array Attribute := #[]) (ms : Array MethodInfo := #[]) (fl : Nat := 33) (sup : Nat := 0) (ifs : Array Nat := #[]) (fds : Array FieldInfo := #[]) : ClassFile where
  minorVersion := 0
  majorVersion := 65
  constantPool := pool
  accessFlags := fl
  thisClass := this
  superClass := sup
  interfaces := ifs
  fields := fds
  methods := ms
  attributes := attrs
def plain (name : String) (sup : Option ClassId) : Class where
  name := name
  kind := .ordinary
  loader := none
  accessFlags := 33
  super := sup
  interfaces := #[]
  cf := none
  fields := #[]
  methods := #[]
  instanceTypes := #[]
  staticTypes := #[]
  resolved := #[]
  callSites := []
  init := .initialized
  statics := none
  mirror := none

def pool0 : Array CpInfo := pool [(5, u "<init>"), (0, u "()V"), (1, .class_ 10), (1, u "java/lang/Object")] 113

def k0c0 : Code := { maxStack := 0, maxLocals := 1, code := object_method_1_code, exceptionTable := #[], attributes := #[] }
def k0m0 : Method := { name := "<init>", desc := "()V", sig := { parameters := [], returnType := none }, accessFlags := 1, code := some k0c0 }
/-- java/lang/Object -/
def k0 : Class := { plain "java/lang/Object" none with
  accessFlags := 33
  interfaces := #[]
  cf := some (fileOf pool0 8 #[] #[{ accessFlags := 1, nameIndex := 5, descriptorIndex := 6, attributes := #[] }] 33 0 #[] #[])
  fields := #[]
  methods := #[k0m0]
  instanceTypes := #[]
  staticTypes := #[]
  resolved := Array.replicate 124 none
  statics := none }

def pool1 : Array CpInfo := pool [(2, .class_ 4), (1, u "java/lang/Object"), (0, u "<init>"), (0, u "()V"), (2, .long 9223372036854775807), (1, .long 4503599627370495), (1, .long 15), (1, .long 2), (1, .class_ 18), (0, u "com/example/bits_for_sets/bitsforsets/tool/ReplayCounts"), (0, .methodref 17 20), (0, .nameAndType 5 21), (0, u "(JJJJJJLjava/util/Optional;Ljava/util/Optional;)V"), (0, .methodref 17 23), (0, .nameAndType 24 25), (0, u "falsePositiveRate"), (0, u "()D"), (0, .long 9007199254740992), (1, .double 4602678819172646912), (1, .long 4503599627370496), (1, .class_ 33), (0, u "com/example/bits_for_sets/bitsforsets/tool/ReplayCountsFalsePositiveRatePinLaw"), (2, u "law"), (0, u "(JJJI)Z")] 3

def k1m0 : Method := { name := "<init>", desc := "()V", sig := { parameters := [], returnType := none }, accessFlags := 2, code := none }
def k1c1 : Code := { maxStack := 16, maxLocals := 22, code := code, exceptionTable := #[], attributes := #[] }
def k1m1 : Method := { name := "law", desc := "(JJJI)Z", sig := { parameters := [.long, .long, .long, .int], returnType := some .boolean }, accessFlags := 9, code := some k1c1 }
/-- com/example/bits_for_sets/bitsforsets/tool/ReplayCountsFalsePositiveRatePinLaw -/
def k1 : Class := { plain "com/example/bits_for_sets/bitsforsets/tool/ReplayCountsFalsePositiveRatePinLaw" (some 0) with
  accessFlags := 49
  interfaces := #[]
  cf := some (fileOf pool1 32 #[] #[{ accessFlags := 2, nameIndex := 5, descriptorIndex := 6, attributes := #[] }, { accessFlags := 9, nameIndex := 36, descriptorIndex := 37, attributes := #[] }] 49 2 #[] #[])
  fields := #[]
  methods := #[k1m0, k1m1]
  instanceTypes := #[]
  staticTypes := #[]
  resolved := Array.replicate 41 none
  statics := none }

def pool2 : Array CpInfo := pool [(1, .methodref 2 3), (0, .class_ 4), (0, .nameAndType 5 6), (0, u "java/lang/Object"), (0, u "<init>"), (0, u "()V"), (0, .class_ 8), (0, u "java/lang/Record")] 13

def k2c0 : Code := { maxStack := 1, maxLocals := 1, code := jdk_30_method_1_code, exceptionTable := #[], attributes := #[] }
def k2m0 : Method := { name := "<init>", desc := "()V", sig := { parameters := [], returnType := none }, accessFlags := 4, code := some k2c0 }
/-- java/lang/Record -/
def k2 : Class := { plain "java/lang/Record" (some 0) with
  accessFlags := 1057
  interfaces := #[]
  cf := some (fileOf pool2 7 #[] #[{ accessFlags := 4, nameIndex := 5, descriptorIndex := 6, attributes := #[] }] 1057 2 #[] #[])
  fields := #[]
  methods := #[k2m0]
  instanceTypes := #[]
  staticTypes := #[]
  resolved := Array.replicate 22 none
  statics := none }

def pool3 : Array CpInfo := pool [(1, .methodref 2 3), (0, .class_ 4), (0, .nameAndType 5 6), (0, u "java/lang/Record"), (0, u "<init>"), (0, u "()V"), (0, .fieldref 8 9), (0, .class_ 10), (0, .nameAndType 11 12), (0, u "com/example/bits_for_sets/bitsforsets/tool/ReplayCounts"), (0, u "inserted"), (0, u "J"), (0, .fieldref 8 14), (0, .nameAndType 15 12), (0, u "held"), (0, .fieldref 8 17), (0, .nameAndType 18 12), (0, u "queries"), (0, .fieldref 8 20), (0, .nameAndType 21 12), (0, u "negatives"), (0, .fieldref 8 23), (0, .nameAndType 24 12), (0, u "falsePositives"), (0, .fieldref 8 26), (0, .nameAndType 27 12), (0, u "falseNegatives"), (0, .fieldref 8 29), (0, .nameAndType 30 31), (0, u "deletions"), (0, u "Ljava/util/Optional;"), (0, .fieldref 8 33), (0, .nameAndType 34 31), (0, u "adaptations"), (15, u "(JJJJJJLjava/util/Optional;Ljava/util/Optional;)V"), (4, u "falsePositiveRate"), (0, u "()D"), (12, .class_ 70), (0, u "com/example/bits_for_sets/bitsforsets/tool/ReplayCounts$Adaptations"), (0, .class_ 72), (0, u "com/example/bits_for_sets/bitsforsets/tool/ReplayCounts$Deletions")] 27

def k3c0 : Code := { maxStack := 3, maxLocals := 15, code := prog_13_method_1_code, exceptionTable := #[], attributes := #[] }
def k3m0 : Method := { name := "<init>", desc := "(JJJJJJLjava/util/Optional;Ljava/util/Optional;)V", sig := { parameters := [.long, .long, .long, .long, .long, .long, (.object "java/util/Optional"), (.object "java/util/Optional")], returnType := none }, accessFlags := 0, code := some k3c0 }
def k3c1 : Code := { maxStack := 4, maxLocals := 1, code := prog_13_method_2_code, exceptionTable := #[], attributes := #[] }
def k3m1 : Method := { name := "falsePositiveRate", desc := "()D", sig := { parameters := [], returnType := some .double }, accessFlags := 0, code := some k3c1 }
/-- com/example/bits_for_sets/bitsforsets/tool/ReplayCounts -/
def k3 : Class := { plain "com/example/bits_for_sets/bitsforsets/tool/ReplayCounts" (some 2) with
  accessFlags := 48
  interfaces := #[]
  cf := some (fileOf pool3 8 #[.nestMembers #[69, 71]] #[{ accessFlags := 0, nameIndex := 5, descriptorIndex := 50, attributes := #[] }, { accessFlags := 0, nameIndex := 55, descriptorIndex := 56, attributes := #[] }] 48 2 #[] #[{ accessFlags := 18, nameIndex := 11, descriptorIndex := 12, attributes := #[] }, { accessFlags := 18, nameIndex := 15, descriptorIndex := 12, attributes := #[] }, { accessFlags := 18, nameIndex := 18, descriptorIndex := 12, attributes := #[] }, { accessFlags := 18, nameIndex := 21, descriptorIndex := 12, attributes := #[] }, { accessFlags := 18, nameIndex := 24, descriptorIndex := 12, attributes := #[] }, { accessFlags := 18, nameIndex := 27, descriptorIndex := 12, attributes := #[] }, { accessFlags := 18, nameIndex := 30, descriptorIndex := 31, attributes := #[] }, { accessFlags := 18, nameIndex := 34, descriptorIndex := 31, attributes := #[] }])
  fields := #[{ name := "inserted", type := .long, accessFlags := 18, slot := 0, constantValue := 0 }, { name := "held", type := .long, accessFlags := 18, slot := 1, constantValue := 0 }, { name := "queries", type := .long, accessFlags := 18, slot := 2, constantValue := 0 }, { name := "negatives", type := .long, accessFlags := 18, slot := 3, constantValue := 0 }, { name := "falsePositives", type := .long, accessFlags := 18, slot := 4, constantValue := 0 }, { name := "falseNegatives", type := .long, accessFlags := 18, slot := 5, constantValue := 0 }, { name := "deletions", type := (.object "java/util/Optional"), accessFlags := 18, slot := 6, constantValue := 0 }, { name := "adaptations", type := (.object "java/util/Optional"), accessFlags := 18, slot := 7, constantValue := 0 }]
  methods := #[k3m0, k3m1]
  instanceTypes := #[.long, .long, .long, .long, .long, .long, (.object "java/util/Optional"), (.object "java/util/Optional")]
  staticTypes := #[]
  resolved := Array.replicate 100 none
  statics := none }

def pool4 : Array CpInfo := pool [(1, u "java/lang/Cloneable"), (0, .class_ 1), (0, u "java/lang/Object"), (0, .class_ 3)] 3

/-- java/lang/Cloneable -/
def k4 : Class := { plain "java/lang/Cloneable" (some 0) with
  accessFlags := 1537
  interfaces := #[]
  cf := some (fileOf pool4 2 #[] #[] 1537 4 #[] #[])
  fields := #[]
  methods := #[]
  instanceTypes := #[]
  staticTypes := #[]
  resolved := Array.replicate 8 none
  statics := none }

def pool5 : Array CpInfo := pool [(1, u "java/io/Serializable"), (0, .class_ 1), (0, u "java/lang/Object"), (0, .class_ 3)] 3

/-- java/io/Serializable -/
def k5 : Class := { plain "java/io/Serializable" (some 0) with
  accessFlags := 1537
  interfaces := #[]
  cf := some (fileOf pool5 2 #[] #[] 1537 4 #[] #[])
  fields := #[]
  methods := #[]
  instanceTypes := #[]
  staticTypes := #[]
  resolved := Array.replicate 8 none
  statics := none }

/-- the primitive byte -/
def k6 : Class := { plain "byte" none with kind := .primitive 'B', accessFlags := 0x411 }
/-- [B -/
def k7 : Class := { plain "[B" (some 0) with kind := .array 6 .byte, interfaces := #[4, 5], accessFlags := 1041 }

/-- the primitive int -/
def k8 : Class := { plain "int" none with kind := .primitive 'I', accessFlags := 0x411 }
/-- [I -/
def k9 : Class := { plain "[I" (some 0) with kind := .array 8 .int, interfaces := #[4, 5], accessFlags := 1041 }

def heap : Heap := #[]
def classes : Array Class := #[k0, k1, k2, k3, k4, k5, k6, k7, k8, k9]
def interned : List (Array UInt16 × Addr) := []
def slotsUsed : Nat := 0
def theMethod : MethodId := ⟨1, 1⟩
def args0 : Array Value := #[.long 5, .long 7, .long 9, .int 2]
def aboutOver (below : List Frame) : State where
  vm := { classes := classes, interned := interned.toArray }
  heap := heap
  slotsUsed := slotsUsed
  threads := #[{ frames := .invoking theMethod args0 :: below }]
def below0 : List Frame := [.native { method := ⟨0, 0⟩, args := #[] }]
def about1 : State := aboutOver below0
def p0 : Program := .bare "" "" ""
def e0 : Env := launch0.env 0 0 0
theorem w_frames : about1.frames = Frame.invoking theMethod args0 :: below0 := rfl
set_option maxRecDepth 65536 in
theorem w_args : argsFit about1.vm theMethod args0 = true := by decide +kernel
set_option maxRecDepth 65536 in
theorem w_heap : heapFits about1 = true := by decide +kernel
set_option maxRecDepth 65536 in
theorem w_runnable : about1.curStatus? = some .runnable := by decide +kernel
set_option maxRecDepth 65536 in
theorem w_alone : about1.alone = true := by decide +kernel
set_option maxRecDepth 65536 in
theorem w_named : about1.methodNamed? x = some theMethod := by decide +kernel
set_option maxRecDepth 65536 in
theorem w_hears : about1.hears theMethod below0 = true := by decide +kernel
set_option maxRecDepth 65536 in
theorem w_ripe : about1.ripe theMethod args0 below0 = true := by decide +kernel
theorem w_running : about1.status = .running := rfl
set_option maxRecDepth 65536 in
theorem w_room : about1.hasRoom e0.platform room_1 = true :=
  launch0.hasRoom_least _ room_1 (by decide +kernel) (by decide +kernel) (by decide +kernel) (by decide +kernel) (by decide +kernel) (by decide +kernel)
theorem allAtoms_all (ts : List Jvm.Cond) (a : Array Jvm.Value) (st : Jvm.State) : (allAtoms ts).before a st = ts.all (fun c => c.before a st) := by
  induction ts with
  | nil => rfl
  | cons c t ih =>
    show (Jvm.Cond.and c (allAtoms t)).before a st = _
    rw [Jvm.Cond.before_and, ih, List.all_cons]
def words1 : List Jvm.Cond := Jvm.Cond.code x code maxLocals ret :: tables_1
/-- a 'code' word, met by the world's own term for the bytes: nothing is compared byte by byte -/
theorem code_word {y : MethodName} {bytes : ByteArray} {mx : Nat} {rt : Option FieldType} {a : Array Value} {s : State} {m : MethodId} {meth : Method} {c : Code} (h1 : s.methodNamed? y = some m) (h2 : s.vm.method? m = some meth) (h3 : meth.code = some c) (h4 : c.code = bytes)
    (h5 : (c.maxLocals == mx && c.exceptionTable.isEmpty && decide (c.maxStack ≤ mostOperands) && decide (meth.sig.returnType = rt) && !meth.locks && decide (parseMethodDescriptor y.desc = some meth.sig)) = true) : (Jvm.Cond.code y bytes mx rt).before a s = true := by
  simp only [Bool.and_eq_true, beq_iff_eq, Bool.not_eq_true', decide_eq_true_eq] at h5
  obtain ⟨⟨⟨⟨⟨g1, g2⟩, g3⟩, g4⟩, g5⟩, g6⟩ := h5
  simp [Cond.before, Cond.holds, Cond.value, h1, h2, h3, h4, g1, g2, g3, g4, g5, g6]
def isCode : Jvm.Cond → Bool
  | .code _ _ _ _ => true
  | _ => false
theorem all_split {L : List Jvm.Cond} {P : Jvm.Cond → Bool} (h1 : L.all (fun c => isCode c || P c) = true) (h2 : ∀ c ∈ L.filter isCode, P c = true) : L.all P = true := by
  refine List.all_eq_true.mpr fun c hc => ?_
  have h := List.all_eq_true.mp h1 c hc
  rcases Bool.eq_false_or_eq_true (isCode c) with hi | hi
  · exact h2 c (List.mem_filter.mpr ⟨hc, hi⟩)
  · simpa [hi] using h
set_option maxRecDepth 65536 in
theorem w_c0 : (Jvm.Cond.code x code maxLocals ret).before args0 about1 = true := code_word (m := ⟨1, 1⟩) (meth := k1m1) (c := k1c1) (by decide +kernel) rfl rfl rfl (by decide +kernel)
set_option maxRecDepth 65536 in
theorem w_c1 : (Jvm.Cond.code ({ cls := "com/example/bits_for_sets/bitsforsets/tool/ReplayCounts", name := "<init>", desc := "(JJJJJJLjava/util/Optional;Ljava/util/Optional;)V" } : Jvm.MethodName) prog_13_method_1_code (15 : Nat) (Option.none : Option Jvm.ClassFile.FieldType)).before args0 about1 = true := code_word (m := ⟨3, 0⟩) (meth := k3m0) (c := k3c0) (by decide +kernel) rfl rfl rfl (by decide +kernel)
set_option maxRecDepth 65536 in
theorem w_c2 : (Jvm.Cond.code ({ cls := "java/lang/Record", name := "<init>", desc := "()V" } : Jvm.MethodName) jdk_30_method_1_code (1 : Nat) (Option.none : Option Jvm.ClassFile.FieldType)).before args0 about1 = true := code_word (m := ⟨2, 0⟩) (meth := k2m0) (c := k2c0) (by decide +kernel) rfl rfl rfl (by decide +kernel)
set_option maxRecDepth 65536 in
theorem w_c3 : (Jvm.Cond.code ({ cls := "java/lang/Object", name := "<init>", desc := "()V" } : Jvm.MethodName) object_method_1_code (1 : Nat) (Option.none : Option Jvm.ClassFile.FieldType)).before args0 about1 = true := code_word (m := ⟨0, 0⟩) (meth := k0m0) (c := k0c0) (by decide +kernel) rfl rfl rfl (by decide +kernel)
set_option maxRecDepth 65536 in
theorem w_c4 : (Jvm.Cond.code ({ cls := "com/example/bits_for_sets/bitsforsets/tool/ReplayCounts", name := "falsePositiveRate", desc := "()D" } : Jvm.MethodName) prog_13_method_2_code (1 : Nat) (Option.some Jvm.ClassFile.FieldType.double)).before args0 about1 = true := code_word (m := ⟨3, 1⟩) (meth := k3m1) (c := k3c1) (by decide +kernel) rfl rfl rfl (by decide +kernel)
def codes1 : List Jvm.Cond := [Jvm.Cond.code x code maxLocals ret, Jvm.Cond.code ({ cls := "com/example/bits_for_sets/bitsforsets/tool/ReplayCounts", name := "<init>", desc := "(JJJJJJLjava/util/Optional;Ljava/util/Optional;)V" } : Jvm.MethodName) prog_13_method_1_code (15 : Nat) (Option.none : Option Jvm.ClassFile.FieldType), Jvm.Cond.code ({ cls := "java/lang/Record", name := "<init>", desc := "()V" } : Jvm.MethodName) jdk_30_method_1_code (1 : Nat) (Option.none : Option Jvm.ClassFile.FieldType), Jvm.Cond.code ({ cls := "java/lang/Object", name := "<init>", desc := "()V" } : Jvm.MethodName) object_method_1_code (1 : Nat) (Option.none : Option Jvm.ClassFile.FieldType), Jvm.Cond.code ({ cls := "com/example/bits_for_sets/bitsforsets/tool/ReplayCounts", name := "falsePositiveRate", desc := "()D" } : Jvm.MethodName) prog_13_method_2_code (1 : Nat) (Option.some Jvm.ClassFile.FieldType.double)]
set_option maxRecDepth 65536 in
theorem codes_eq : words1.filter isCode = codes1 := rfl
theorem w_codes : ∀ c ∈ words1.filter isCode, c.before args0 about1 = true := by
  rw [codes_eq]
  intro c hc
  simp only [codes1, List.mem_cons, List.not_mem_nil, or_false] at hc
  rcases hc with rfl | rfl | rfl | rfl | rfl
  · exact w_c0
  · exact w_c1
  · exact w_c2
  · exact w_c3
  · exact w_c4
set_option maxRecDepth 65536 in
theorem w_t1 : (words1.take 24).all (fun c => isCode c || c.before args0 about1) = true := by decide +kernel
set_option maxRecDepth 65536 in
theorem w_t2 : (words1.drop 24).all (fun c => isCode c || c.before args0 about1) = true := by decide +kernel
theorem w_tables : (allAtoms (Jvm.Cond.code x code maxLocals ret :: tables_1)).before args0 about1 = true := by
  rw [allAtoms_all]
  show words1.all (fun c => c.before args0 about1) = true
  refine all_split ?_ w_codes
  rw [← List.take_append_drop 24 words1, List.all_append, w_t1, w_t2]
  rfl
set_option maxRecDepth 65536 in
theorem w_case : (Jvm.Cond.and given_1 narrow_1).before args0 about1 = true := by decide +kernel
theorem w_applies : (headSpec (Jvm.Cond.code x code maxLocals ret :: tables_1) room_1).applies x e0.platform about1 = true :=
  (Spec.applies_iff w_frames).mpr ⟨w_running, w_runnable, w_alone, w_named, w_hears, w_ripe, w_room, w_tables⟩
theorem atStart : AtStart classFile x code maxLocals ret World_1 tables_1 room_1 Calls_1 rest_1 Pre_1 launch0 p0 e0 about1 theMethod args0 below0 :=
  ⟨lists_1, trivial, launch0.admits_env _ _ _, launch0.least_env, fairChoices_fair.cas, fairChoices_fair.clock, w_frames, w_args, w_heap, w_applies, trivial, trivial, w_case⟩
end start1
theorem witness_1 : WitnessClaimed_1 := ⟨start1.p0, start1.e0, start1.about1, start1.theMethod, start1.args0, start1.below0, start1.atStart⟩
end Jvm.Pilot.@@N@@
