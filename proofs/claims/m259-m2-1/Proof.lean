import JvmDerived
import JvmDerived.Pilot.@@N@@Statement
import JvmDerived.Pilot.@@N@@Code
set_option linter.unusedVariables false
set_option linter.unusedSimpArgs false
@@BLOCK:NumsL.lean.txt@@
namespace Jvm.OwnF
open Sem ClassFile Op Lib Jvm.Stand Jvm.Free Jvm.LawKit Jvm.RoadKit Jvm.Free.Fl
section Ret
variable {p : Program} {l : Launch} {e : Env} {R : Room} {s : State} {m : MethodId} {args : Array Value} {below : List Frame} {meth : Method} {c : Code} {T : State} {locs : List Loc} {cells slots : Nat}
theorem retD (X : Stand p l e R s m args below meth c T locs cells slots) (hx : p.tables.exec = Jvm.exec) {pc : Nat} {Ls : Array Slot} {z : UInt64} {rest : List Value} (hret : meth.sig.returnType = some .double) (hd : decode c.code pc = .ok (.dreturn, 1)) {fs : List Frame}
    (hl : ∀ (f : JFrame) (acts : List Action), f.method = m → f.locked = none → f.entered = [] → (doReturn e (T.setTop f) acts (some (.double z))).1 = T.setFrames fs) : Steps p.tables e below (T.setTop (mkF m pc Ls (.double z :: rest))) (T.setFrames fs) :=
  retOut X hx hret rfl (Or.inr (Or.inr (Or.inl ⟨rfl, rfl, z, rfl⟩))) hd hl
theorem retJ (X : Stand p l e R s m args below meth c T locs cells slots) (hx : p.tables.exec = Jvm.exec) {pc : Nat} {Ls : Array Slot} {z : Int64} {rest : List Value} (hret : meth.sig.returnType = some .long) (hd : decode c.code pc = .ok (.lreturn, 1)) {fs : List Frame}
    (hl : ∀ (f : JFrame) (acts : List Action), f.method = m → f.locked = none → f.entered = [] → (doReturn e (T.setTop f) acts (some (.long z))).1 = T.setFrames fs) : Steps p.tables e below (T.setTop (mkF m pc Ls (.long z :: rest))) (T.setFrames fs) :=
  retOut X hx hret rfl (Or.inr (Or.inl ⟨rfl, rfl, z, rfl⟩)) hd hl
theorem retI (X : Stand p l e R s m args below meth c T locs cells slots) (hx : p.tables.exec = Jvm.exec) {pc : Nat} {Ls : Array Slot} {z : Int32} {rest : List Value} (hret : meth.sig.returnType = some .int) (hd : decode c.code pc = .ok (.ireturn, 1)) {fs : List Frame}
    (hl : ∀ (f : JFrame) (acts : List Action), f.method = m → f.locked = none → f.entered = [] → (doReturn e (T.setTop f) acts (some (.int z))).1 = T.setFrames fs) : Steps p.tables e below (T.setTop (mkF m pc Ls (.int z :: rest))) (T.setFrames fs) :=
  retOut X hx hret rfl (Or.inl ⟨rfl, Or.inl rfl, z, rfl⟩) hd hl
theorem retA (X : Stand p l e R s m args below meth c T locs cells slots) (hx : p.tables.exec = Jvm.exec) {pc : Nat} {Ls : Array Slot} {w : Value} {t : FieldType} {rest : List Value} (hret : meth.sig.returnType = some t) (ht : t.isReference = true) (hw : w.isRef = true) (hd : decode c.code pc = .ok (.areturn, 1)) {fs : List Frame}
    (hl : ∀ (f : JFrame) (acts : List Action), f.method = m → f.locked = none → f.entered = [] → (doReturn e (T.setTop f) acts (some w)).1 = T.setFrames fs) : Steps p.tables e below (T.setTop (mkF m pc Ls (w :: rest))) (T.setFrames fs) :=
  retOut X hx hret (by rcases ref_cases hw with rfl | ⟨a, rfl⟩ <;> cases t <;> first | rfl | (cases ht; done)) (Or.inr (Or.inr (Or.inr (Or.inr ⟨rfl, ht, hw⟩)))) hd hl
theorem toSelf (X : Stand p l e R s m args below meth c T locs cells slots) : Stand p l e R (s.setVm s.vm) m args below meth c T locs cells slots := by
  rw [State.setVm_self]; exact X
end Ret
end Jvm.OwnF
namespace Jvm.OwnF
open Jvm.FP.Core
/-- a double's magnitude, in units of 2^-1074 -/
def Zm (a : UInt64) : Nat := zmag b64 (val64 a)
/-- a double's value, in units of 2^-1074 -/
def Zv (a : UInt64) : Int := zval b64 (val64 a)
theorem one64_pow : one64 = 2 ^ 1074 := rfl
theorem fin_form {a : UInt64} (h : DFin a) : ∃ s c q, val64 a = .fin s c q ∧ b64.qmin ≤ q ∧ Zm a = c * 2 ^ (q + 1074).toNat ∧ sgn (val64 a) = s := by
  obtain ⟨s, c, q, e⟩ := h
  have f := val64_fits a
  rw [e] at f
  refine ⟨s, c, q, e, f.2.1, ?_, by rw [e]; rfl⟩
  unfold Zm
  rw [e]
  show c * 2 ^ (q - b64.qmin).toNat = _
  rw [qmin_b64, show q - (-1074) = q + 1074 by omega]
theorem ddiv_form {a b : UInt64} (ha : DFin a) (hb : DFin b) (hz : Zm b ≠ 0) :
    val64 (ddiv a b) = roundRatio b64 (sgn (val64 a) != sgn (val64 b)) (Zm a) (Zm b) 0 := by
  obtain ⟨s, c, q, ea, hq, za, sa⟩ := fin_form ha
  obtain ⟨t, d, r, eb, hr, zb, sb⟩ := fin_form hb
  rw [qmin_b64] at hq hr
  have hd : d ≠ 0 := fun h => hz (by rw [zb, h, Nat.zero_mul])
  rw [val64_ddiv, sa, sb, za, zb, ea, eb]
  show (if d = 0 then _ else roundRatio b64 (s != t) c d (q - r)) = _
  rw [if_neg hd]
  refine roundRatio_congr (Nat.pos_of_ne_zero hd) (Nat.mul_pos (Nat.pos_of_ne_zero hd) (Nat.two_pow_pos _)) ?_
  have e1 : (q - r - 0).toNat + (r + 1074).toNat = (q + 1074).toNat + (0 - (q - r)).toNat := by omega
  calc c * (d * 2 ^ (r + 1074).toNat) * 2 ^ (q - r - 0).toNat = c * d * (2 ^ ((q - r - 0).toNat + (r + 1074).toNat)) := by
        rw [Nat.pow_add]; simp only [Nat.mul_assoc, Nat.mul_comm, Nat.mul_left_comm]
    _ = c * d * (2 ^ ((q + 1074).toNat + (0 - (q - r)).toNat)) := by rw [e1]
    _ = c * 2 ^ (q + 1074).toNat * d * 2 ^ (0 - (q - r)).toNat := by
        rw [Nat.pow_add]; simp only [Nat.mul_assoc, Nat.mul_comm, Nat.mul_left_comm]
theorem inU (A : Nat) : inUnits A 0 (-1074) = A * one64 := rfl
theorem ddiv_ne_nan {a b : UInt64} (ha : DFin a) (hb : DFin b) (hz : Zm b ≠ 0) : val64 (ddiv a b) ≠ .nan := by
  rw [ddiv_form ha hb hz]; exact roundRatio_ne_nan _ _ _ _ _
theorem ddiv_sgn {a b : UInt64} (ha : DFin a) (hb : DFin b) (hz : Zm b ≠ 0) : sgn (val64 (ddiv a b)) = (sgn (val64 a) != sgn (val64 b)) := by
  rw [ddiv_form ha hb hz]; exact sgn_roundRatio _ _ _ _ _
theorem ddiv_le {a b v : UInt64} (ha : DFin a) (hb : DFin b) (hz : Zm b ≠ 0) (hv : val64 v ≠ .nan) (h : Zm a * one64 ≤ Zm v * Zm b) : Zm (ddiv a b) ≤ Zm v := by
  unfold Zm
  rw [ddiv_form ha hb hz]
  refine zmag_roundRatio_le good_b64 (Nat.pos_of_ne_zero hz) (val64_fits v) hv (e0 := -1074) (by decide) (by decide) ?_
  rw [inU, show (b64.qmin - -1074).toNat = 0 by decide, Nat.pow_zero, Nat.mul_one]
  exact h
theorem ddiv_ge {a b v : UInt64} (ha : DFin a) (hb : DFin b) (hz : Zm b ≠ 0) (h : Zm v * Zm b ≤ Zm a * one64) : Zm v ≤ Zm (ddiv a b) := by
  show _ ≤ zmag b64 _
  rw [ddiv_form ha hb hz]
  refine zmag_roundRatio_ge good_b64 (Nat.pos_of_ne_zero hz) (val64_fits v) (e0 := -1074) (by decide) (by decide) ?_
  rw [inU, show (b64.qmin - -1074).toNat = 0 by decide, Nat.pow_zero, Nat.mul_one]
  exact h
theorem fin_iff_Zm {a : UInt64} (h : val64 a ≠ .nan) : DFin a ↔ Zm a < Zm 9218868437227405312 := by
  have hi : val64 9218868437227405312 = .inf false := by decide +kernel
  constructor
  · intro hf
    have := hf.zval_lt
    unfold Zm
    rw [hi]
    exact this
  · intro hl
    cases e : val64 a with
    | nan => exact absurd e h
    | inf s => unfold Zm at hl; rw [hi, e] at hl; exact absurd hl (Nat.lt_irrefl _)
    | fin s c q => exact ⟨s, c, q, e⟩
theorem fin_of_le {a v : UInt64} (h : val64 a ≠ .nan) (hv : DFin v) (hl : Zm a ≤ Zm v) : DFin a :=
  (fin_iff_Zm h).mpr (Nat.lt_of_le_of_lt hl ((fin_iff_Zm hv.ne_nan).mp hv))
theorem Zv_pos {a : UInt64} (hs : sgn (val64 a) = false) : Zv a = (Zm a : Int) := by
  unfold Zv Zm zval signed
  rw [hs]; simp
theorem Zv_neg {a : UInt64} (hs : sgn (val64 a) = true) : Zv a = -(Zm a : Int) := by
  unfold Zv Zm zval signed
  rw [hs]; simp
theorem cmp_Zv {a b : UInt64} (ha : val64 a ≠ .nan) (hb : val64 b ≠ .nan) : dcmp a b = some (compare (Zv a) (Zv b)) := dcmp_zval ha hb
theorem Zm_DInt {i : Int} {a : UInt64} (h : DInt i a) : Zm a = i.natAbs * one64 := by
  have h1 := DInt_zval h
  have h2 : (zval b64 (val64 a)).natAbs = Zm a := by unfold zval Zm; exact natAbs_signed _ _
  rw [← h2, h1, Int.natAbs_mul]; rfl
theorem DInt_fin {i : Int} {a : UInt64} (h : DInt i a) : DFin a := by
  unfold DInt at h
  cases e : val64 a with
  | nan => rw [e] at h; exact h.elim
  | inf s => rw [e] at h; exact h.elim
  | fin s c q => exact ⟨s, c, q, e⟩
theorem DInt_sgn {i : Int} {a : UInt64} (h : DInt i a) (hi : i ≠ 0) : sgn (val64 a) = decide (i < 0) := by
  obtain ⟨s, c, q, e⟩ := DInt_fin h
  unfold DInt at h
  rw [e] at h ⊢
  exact whole_sign h hi
/-- equal magnitudes, equal signs, nonzero: the same double -/
theorem eq_of_Zm {a b : UInt64} (ha : val64 a ≠ .nan) (hb : val64 b ≠ .nan) (hs : sgn (val64 a) = sgn (val64 b)) (hm : Zm a = Zm b) (hz : Zm b ≠ 0) : a = b := by
  refine eq_bits (fun hzz => hz ?_) ?_
  · obtain ⟨s, q, e⟩ := hzz
    unfold Zm; rw [e]; exact Nat.zero_mul _
  · rw [cmp_Zv ha hb]
    have : Zv a = Zv b := by unfold Zv zval; rw [hs]; show signed _ (Zm a) = signed _ (Zm b); rw [hm]
    rw [this, compare_self_int]
theorem pos_gt_zero {a : UInt64} (ha : val64 a ≠ .nan) (hs : sgn (val64 a) = false) (hm : Zm a ≠ 0) : dcmp a 0 = some .gt := by
  rw [cmp_Zv ha (by rw [val64_zero]; nofun), Zv_pos hs, show Zv 0 = 0 from zval64_zero, Option.some.injEq, compare_gt_iff]
  omega
theorem cmp_pos {a b : UInt64} (ha : val64 a ≠ .nan) (hb : val64 b ≠ .nan) (hsa : sgn (val64 a) = false) (hsb : sgn (val64 b) = false) : dcmp a b = some (compare (Zm a : Int) (Zm b : Int)) := by
  rw [cmp_Zv ha hb, Zv_pos hsa, Zv_pos hsb]
theorem le_pos {a b : UInt64} (ha : val64 a ≠ .nan) (hb : val64 b ≠ .nan) (hsa : sgn (val64 a) = false) (hsb : sgn (val64 b) = false) (h : Zm a ≤ Zm b) : dcmp a b = some .lt ∨ dcmp a b = some .eq := by
  rw [cmp_pos ha hb hsa hsb, Option.some.injEq, Option.some.injEq, compare_lt_iff, compare_eq_iff]
  omega
theorem lt_pos {a b : UInt64} (ha : val64 a ≠ .nan) (hb : val64 b ≠ .nan) (hsa : sgn (val64 a) = false) (hsb : sgn (val64 b) = false) (h : Zm a < Zm b) : dcmp a b = some .lt := by
  rw [cmp_pos ha hb hsa hsb, Option.some.injEq, compare_lt_iff]
  omega
theorem dadd_le {a b v : UInt64} (ha : DFin a) (hb : DFin b) (hv : val64 v ≠ .nan) (h : Zv a + Zv b ≤ Zv v) : Zv (dadd a b) ≤ Zv v := by
  unfold Zv; rw [val64_dadd]; exact sum_le good_b64 ha hb (val64_fits a) (val64_fits b) (val64_fits v) hv h
theorem dadd_ge {a b v : UInt64} (ha : DFin a) (hb : DFin b) (hv : val64 v ≠ .nan) (h : Zv v ≤ Zv a + Zv b) : Zv v ≤ Zv (dadd a b) := by
  unfold Zv; rw [val64_dadd]; exact sum_ge good_b64 ha hb (val64_fits a) (val64_fits b) (val64_fits v) hv h
theorem fin_negate {a : UInt64} (h : DFin a) : ∃ s c q, negate (val64 a) = .fin s c q := by
  obtain ⟨s, c, q, e⟩ := h; rw [e]; exact ⟨_, _, _, rfl⟩
theorem dsub_le {a b v : UInt64} (ha : DFin a) (hb : DFin b) (hv : val64 v ≠ .nan) (h : Zv a - Zv b ≤ Zv v) : Zv (dsub a b) ≤ Zv v := by
  unfold Zv; rw [val64_dsub]
  refine sum_le good_b64 ha (fin_negate hb) (val64_fits a) (negate_fits (val64_fits b)) (val64_fits v) hv ?_
  rw [zval_negate]; unfold Zv at h; omega
theorem dsub_ge {a b v : UInt64} (ha : DFin a) (hb : DFin b) (hv : val64 v ≠ .nan) (h : Zv v ≤ Zv a - Zv b) : Zv v ≤ Zv (dsub a b) := by
  unfold Zv; rw [val64_dsub]
  refine sum_ge good_b64 ha (fin_negate hb) (val64_fits a) (negate_fits (val64_fits b)) (val64_fits v) hv ?_
  rw [zval_negate]; unfold Zv at h; omega
theorem dadd_ne_nan {a b : UInt64} (ha : DFin a) (hb : DFin b) : val64 (dadd a b) ≠ .nan := (notNaN_iff _).mp (dadd_out ha.notNaN hb)
theorem dsub_ne_nan {a b : UInt64} (ha : DFin a) (hb : DFin b) : val64 (dsub a b) ≠ .nan := (notNaN_iff _).mp (dsub_out ha.notNaN hb)
theorem dmul_ne_nan {a b : UInt64} (ha : DFin a) (hb : DFin b) : val64 (dmul a b) ≠ .nan := (notNaN_iff _).mp (dmul_out ha hb)
theorem dmul_form {a b : UInt64} (ha : DFin a) (hb : DFin b) : val64 (dmul a b) = roundRatio b64 (sgn (val64 a) != sgn (val64 b)) (Zm a * Zm b) 1 (-2148) := by
  obtain ⟨s, c, q, ea, hq, za, sa⟩ := fin_form ha
  obtain ⟨t, d, r, eb, hr, zb, sb⟩ := fin_form hb
  rw [qmin_b64] at hq hr
  rw [val64_dmul, sa, sb, za, zb, ea, eb]
  show roundRatio b64 (s != t) (c * d) 1 (q + r) = _
  refine roundRatio_congr (by decide) (by decide) ?_
  rw [show (-2148 - (q + r)).toNat = 0 by omega, show (q + r - -2148).toNat = (q + 1074).toNat + (r + 1074).toNat by omega, Nat.pow_add]
  simp only [Nat.mul_assoc, Nat.mul_comm, Nat.mul_left_comm, Nat.pow_zero, Nat.mul_one, Nat.one_mul]
theorem dmul_sgn {a b : UInt64} (ha : DFin a) (hb : DFin b) : sgn (val64 (dmul a b)) = (sgn (val64 a) != sgn (val64 b)) := by
  rw [dmul_form ha hb]; exact sgn_roundRatio _ _ _ _ _
theorem inU2 (A : Nat) : inUnits A (-2148) (-2148) = A := by unfold inUnits; rw [Int.sub_self]; exact Nat.mul_one _
theorem dmul_le {a b v : UInt64} (ha : DFin a) (hb : DFin b) (hv : val64 v ≠ .nan) (h : Zm a * Zm b ≤ Zm v * one64) : Zm (dmul a b) ≤ Zm v := by
  unfold Zm
  rw [dmul_form ha hb]
  refine zmag_roundRatio_le good_b64 (by decide) (val64_fits v) hv (e0 := -2148) (by decide) (by decide) ?_
  rw [inU2, Nat.mul_one, show (b64.qmin - -2148).toNat = 1074 by decide]
  exact h
theorem dmul_ge {a b v : UInt64} (ha : DFin a) (hb : DFin b) (h : Zm v * one64 ≤ Zm a * Zm b) : Zm v ≤ Zm (dmul a b) := by
  show _ ≤ zmag b64 _
  rw [dmul_form ha hb]
  refine zmag_roundRatio_ge good_b64 (by decide) (val64_fits v) (e0 := -2148) (by decide) (by decide) ?_
  rw [inU2, Nat.mul_one, show (b64.qmin - -2148).toNat = 1074 by decide]
  exact h
theorem noNaN {a : UInt64} (h : val64 a ≠ .nan) : Jvm.Free.Fl.NoNaN64 a := Jvm.Free.Fl.val64_no.mpr h
/-- powers of two up to 2^62, as a shift leaves them -/
theorem pow_l2d : ∀ k : Fin 63, val64 (l2d ((1 : Int64) <<< ((Int32.ofNat k.val) &&& 0x3f).toInt64)) = .fin false (2 ^ 52) ((k.val : Int) - 52) := by decide +kernel
theorem i32_of_lt {x : Int32} {n : Nat} (h0 : 0 ≤ x.toInt) (h : x.toInt < n) : ∃ k : Nat, k < n ∧ x = Int32.ofNat k := by
  refine ⟨x.toInt.toNat, by omega, ?_⟩
  apply Int32.toInt_inj.mp
  have := x.toInt_lt
  rw [Int32.toInt_ofNat_of_lt (by omega)]
  omega
theorem shl_l2d {x : Int32} (h0 : 0 ≤ x.toInt) (h : x.toInt < 63) : ∃ k : Nat, k < 63 ∧ x.toInt = k ∧ DFin (l2d ((1 : Int64) <<< (x &&& 0x3f).toInt64)) ∧ sgn (val64 (l2d ((1 : Int64) <<< (x &&& 0x3f).toInt64))) = false ∧ Zm (l2d ((1 : Int64) <<< (x &&& 0x3f).toInt64)) = 2 ^ k * one64 := by
  obtain ⟨k, hk, rfl⟩ := i32_of_lt (n := 63) h0 (by omega)
  have hp := pow_l2d ⟨k, hk⟩
  have hv : (Int32.ofNat k).toInt = k := Int32.toInt_ofNat_of_lt (by omega)
  refine ⟨k, hk, hv, ⟨_, _, _, hp⟩, by rw [hp]; rfl, ?_⟩
  unfold Zm
  rw [hp]
  show 2 ^ 52 * 2 ^ ((k : Int) - 52 - b64.qmin).toNat = _
  rw [qmin_b64, one64_pow, ← Nat.pow_add, ← Nat.pow_add]
  congr 1
  omega
theorem irem_range {x n : Int32} (hx : 0 ≤ x.toInt) (hn : 0 < n.toInt) : 0 ≤ (x - x / n * n).toInt ∧ (x - x / n * n).toInt < n.toInt := by
  have h1 : x - x / n * n = x % n := irem_eq_mod x n
  rw [h1, Int32.toInt_mod]
  exact ⟨Int.tmod_nonneg _ hx, by have := Int.tmod_lt_of_pos x.toInt hn; omega⟩
theorem and_bounds (x : Int32) {m : Int32} (hm : 0 ≤ m.toInt) : 0 ≤ (x &&& m).toInt ∧ (x &&& m).toInt ≤ m.toInt := by
  have h1 : (x &&& m).toInt = (x.toBitVec &&& m.toBitVec).toInt := rfl
  have h2 : m.toInt = m.toBitVec.toInt := rfl
  rw [h2, BitVec.toInt_eq_toNat_cond] at hm
  rw [h1, h2, BitVec.toInt_eq_toNat_cond, BitVec.toInt_eq_toNat_cond, BitVec.toNat_and]
  have h3 := Nat.and_le_right (n := x.toBitVec.toNat) (m := m.toBitVec.toNat)
  have h4 := m.toBitVec.isLt
  split at hm
  · rw [if_pos (by omega), if_pos (by omega)]; omega
  · omega
theorem and_range {x : Int32} : 0 ≤ (x &&& 2147483647).toInt := (and_bounds x (by decide)).1
theorem Zm_one : Zm 4607182418800017408 = one64 := by unfold Zm; decide +kernel
theorem fin_one : DFin 4607182418800017408 := ⟨false, 2 ^ 52, -52, by decide +kernel⟩
theorem sgn_one : sgn (val64 4607182418800017408) = false := by decide +kernel
theorem pow_split (m n : Nat) (h : m + n = 1074) : 2 ^ m * 2 ^ n = one64 := by rw [← Nat.pow_add, h]; rfl
theorem i2d_fin' (x : Int32) : DFin (i2d x) := DInt_fin (i2d_int x)
theorem i2d_Zm (x : Int32) : Zm (i2d x) = x.toInt.natAbs * one64 := Zm_DInt (i2d_int x)
theorem i2d_sgn {x : Int32} (h : 0 < x.toInt) : sgn (val64 (i2d x)) = false := by rw [DInt_sgn (i2d_int x) (by omega)]; simp; omega
theorem Zm_ne {a : UInt64} {n : Nat} (h : Zm a = n * one64) (hn : n ≠ 0) : Zm a ≠ 0 := by
  rw [h]; exact Nat.mul_ne_zero hn (by have := one64_pos; omega)
theorem if_l_gt {cd : Jvm.ClassFile.Cond} {a b : UInt64} {r : Bool} (h : Jvm.FP.dcmp a b = some .gt) (hr : Jvm.Op.ifCond.holds cd 1 = r) : Jvm.Op.ifCond.holds cd (Jvm.FP.cmpInt (-1) (Jvm.FP.dcmp a b)) = r := by rw [h]; exact hr
theorem if_l_eq {cd : Jvm.ClassFile.Cond} {a b : UInt64} {r : Bool} (h : Jvm.FP.dcmp a b = some .eq) (hr : Jvm.Op.ifCond.holds cd 0 = r) : Jvm.Op.ifCond.holds cd (Jvm.FP.cmpInt (-1) (Jvm.FP.dcmp a b)) = r := by rw [h]; exact hr
theorem if_l_lt {cd : Jvm.ClassFile.Cond} {a b : UInt64} {r : Bool} (h : Jvm.FP.dcmp a b = some .lt) (hr : Jvm.Op.ifCond.holds cd (-1) = r) : Jvm.Op.ifCond.holds cd (Jvm.FP.cmpInt (-1) (Jvm.FP.dcmp a b)) = r := by rw [h]; exact hr
theorem if_g_gt {cd : Jvm.ClassFile.Cond} {a b : UInt64} {r : Bool} (h : Jvm.FP.dcmp a b = some .gt) (hr : Jvm.Op.ifCond.holds cd 1 = r) : Jvm.Op.ifCond.holds cd (Jvm.FP.cmpInt 1 (Jvm.FP.dcmp a b)) = r := by rw [h]; exact hr
theorem if_g_eq {cd : Jvm.ClassFile.Cond} {a b : UInt64} {r : Bool} (h : Jvm.FP.dcmp a b = some .eq) (hr : Jvm.Op.ifCond.holds cd 0 = r) : Jvm.Op.ifCond.holds cd (Jvm.FP.cmpInt 1 (Jvm.FP.dcmp a b)) = r := by rw [h]; exact hr
theorem if_g_lt {cd : Jvm.ClassFile.Cond} {a b : UInt64} {r : Bool} (h : Jvm.FP.dcmp a b = some .lt) (hr : Jvm.Op.ifCond.holds cd (-1) = r) : Jvm.Op.ifCond.holds cd (Jvm.FP.cmpInt 1 (Jvm.FP.dcmp a b)) = r := by rw [h]; exact hr
theorem cmpl_gt {a b : UInt64} (h : Jvm.FP.dcmp a b = some .gt) : Jvm.FP.cmpInt (-1) (Jvm.FP.dcmp a b) = 1 := by rw [h]; rfl
theorem cmpg_gt {a b : UInt64} (h : Jvm.FP.dcmp a b = some .gt) : Jvm.FP.cmpInt 1 (Jvm.FP.dcmp a b) = 1 := by rw [h]; rfl
theorem cmpl_lt {a b : UInt64} (h : Jvm.FP.dcmp a b = some .lt) : Jvm.FP.cmpInt (-1) (Jvm.FP.dcmp a b) = -1 := by rw [h]; rfl
theorem cmpg_lt {a b : UInt64} (h : Jvm.FP.dcmp a b = some .lt) : Jvm.FP.cmpInt 1 (Jvm.FP.dcmp a b) = -1 := by rw [h]; rfl
theorem cmpl_eq {a b : UInt64} (h : Jvm.FP.dcmp a b = some .eq) : Jvm.FP.cmpInt (-1) (Jvm.FP.dcmp a b) = 0 := by rw [h]; rfl
theorem cmpg_eq {a b : UInt64} (h : Jvm.FP.dcmp a b = some .eq) : Jvm.FP.cmpInt 1 (Jvm.FP.dcmp a b) = 0 := by rw [h]; rfl
end Jvm.OwnF
namespace Jvm.Pilot.@@N@@
open Jvm Jvm.ClassFile Sem Op Lib Jvm.Free Jvm.Free.Fl Jvm.Stand Jvm.LawKit Jvm.RoadKit Bundle Jvm.Pilot.@@N@@.Jvm.D
def QP (r : Option Value) (h0 : Heap) (n0 : Nat) (v : Option Value) (h : Heap) (L : List Loc) : Prop := v = r ∧ Fr n0 L ∧ h = h0
def QL (n0 : Nat) (v : Option Value) (h : Heap) (L : List Loc) : Prop := v = some (.int 1) ∧ Fr n0 L
theorem d2_0 : decode jdk_30_method_1_code 0 = .ok (.aload_n 0, 1) := by decide +kernel
theorem d2_1 : decode jdk_30_method_1_code 1 = .ok (.invokespecial 1, 3) := by decide +kernel
theorem d2_4 : decode jdk_30_method_1_code 4 = .ok (.return_, 1) := by decide +kernel
theorem pn_0 : plainName "java/lang/Record" = true := by first | (simp [plainName, overriddenIn]; done) | decide +kernel
theorem ef_rmR (m : MethodId) (x0 : Addr) : entryFrame m #[(.ref x0)] 1 = mkF m 0 #[.val (.ref x0)] [] := by first | (simp [entryFrame, mkF, argsToLocals, Value.category]; done) | rfl
set_option maxRecDepth 65536 in
set_option maxHeartbeats 40000000 in
theorem rmR (l : Launch) (Z : State) (a0 : Array Value) (hw : ∀ d ∈ tables_1, d.before a0 Z = true) (ws : List Jvm.Cond)  (ob : Addr) (h0 : Heap) (n0 : Nat) (Z0 : n0 ≤ h0.size)  :
    MetFree l (⟨"java/lang/Record", "<init>", "()V"⟩ : MethodName) (head1 (Jvm.Cond.code (⟨"java/lang/Record", "<init>", "()V"⟩ : MethodName) jdk_30_method_1_code 1 none :: ws) ({ frames := 1, cells := 0, slots := 0, locals := 12 } : Room)) (fun a U => a = #[(.ref ob)] ∧ Z.Warmed39 U.vm ∧ U.heap = h0) (fun _ _ _ _ _ => True) (fun _ U o U' => ∃ v L, o = .returned v ∧ QP none h0 n0 v U'.heap L ∧ FrameEnd U o U' L ({ frames := 1, cells := 0, slots := 0, locals := 12 } : Room).cells ({ frames := 1, cells := 0, slots := 0, locals := 12 } : Room).slots) := by
  refine MetFree.of_bodySF (plainFor_of_name pn_0) hisR ?_
  intro p e s m args below meth c s₁ Bd hml0 hP hK
  obtain ⟨rfl, hZ, hh⟩ := hP
  have hx := Bd.exec
  have hby := Bd.bytes
  have hml : c.maxLocals = 1 := hml0
  have hown : s.vm.findClass "java/lang/Record" = some m.cls := findClass_of_methodNamed Bd.named
  have hnm := (name_of_methodNamed Bd.named Bd.method).1
  have X0 : Stand p l e ({ frames := 1, cells := 0, slots := 0, locals := 12 } : Room) s m #[(.ref ob)] below meth c s₁ [] 0 0 := Stand.of_body Bd
  have e0 : s₁.heap = h0 := by rw [← hh, Bd.state]; rfl
  have N0 := Fr.nil n0
  have pre0 : ∀ t, Steps p.tables e below (s₁.setTop (mkF m 0 #[.val (.ref ob)] [])) t → Steps p.tables e below (s₁.setTop (entryFrame m #[(.ref ob)] 1)) t := fun t k => castTop (ef_rmR m ob) k
  obtain ⟨T1, X1, e1, st1⟩ := initO X0 hx hZ hown (hw _ (List.mem_of_getElem? (i := 20) rfl)) (hw _ (List.mem_of_getElem? (i := 21) rfl)) (hw _ (List.mem_of_getElem? (i := 22) rfl)) e0 (g := (mkF m 1 #[.val (.ref ob)] [(.ref ob)])) rfl (by rw [hml]; rfl) rfl (hb hby d2_1) (by decide) (W := 0) (by show 2 * 0 + _ ≤ _; exact Nat.le_of_eq rfl) (by decide)
  obtain ⟨fs, hr, hrun, hended, hW, hsame⟩ := X1.leave (v := none) (fun _ => rfl)
  refine ⟨_, _, pre0 _ ?_, hrun, hended, _, _, rfl, ?_, ⟨_, rfl⟩, hW, hsame.mono (Nat.le_of_ble_eq_true rfl) (Nat.le_of_ble_eq_true rfl)⟩
  · show Steps p.tables e below (s₁.setTop (mkF m 0 #[.val (.ref ob)] [])) _
    refine XS.aloadN X0.here hx rfl (hb hby d2_0) rfl rfl ?_
    show Steps p.tables e below (s₁.setTop (mkF m 1 #[.val (.ref ob)] [(.ref ob)])) _
    refine st1 _ ?_
    show Steps p.tables e below (T1.setTop (mkF m 4 #[.val (.ref ob)] [])) _
    exact X1.returnOut hx Bd.returns (hb hby d2_4) hr
  · show QP none h0 n0 _ T1.heap _
    rw [e1]
    exact ⟨rfl, N0, rfl⟩
theorem d1_0 : decode prog_8_method_1_code 0 = .ok (.aload_n 0, 1) := by decide +kernel
theorem pd_0 : parseMethodDescriptor "()V" = some ⟨[], none⟩ := by decide +kernel
theorem d1_1 : decode prog_8_method_1_code 1 = .ok (.invokespecial 1, 3) := by decide +kernel
theorem d1_4 : decode prog_8_method_1_code 4 = .ok (.aload_n 0, 1) := by decide +kernel
theorem d1_5 : decode prog_8_method_1_code 5 = .ok (.aload_n 1, 1) := by decide +kernel
theorem d1_6 : decode prog_8_method_1_code 6 = .ok (.putfield 7, 3) := by decide +kernel
theorem d1_9 : decode prog_8_method_1_code 9 = .ok (.aload_n 0, 1) := by decide +kernel
theorem d1_10 : decode prog_8_method_1_code 10 = .ok (.dload_n 2, 1) := by decide +kernel
theorem d1_11 : decode prog_8_method_1_code 11 = .ok (.putfield 13, 3) := by decide +kernel
theorem d1_14 : decode prog_8_method_1_code 14 = .ok (.return_, 1) := by decide +kernel
def QI (Z : State) (ob : Addr) (r2 : UInt64) (h0 : Heap) (n0 : Nat) (v : Option Value) (h : Heap) (L : List Loc) : Prop := v = none ∧ Fr n0 L ∧ Keep h0 h [ob] ∧ Exa Z h ob "com/example/ample_prior/ampleprior/ScoredDocument" ∧ Fld Z h ob "com/example/ample_prior/ampleprior/ScoredDocument" "score" "D" (.double r2)
theorem pn_1 : plainName "com/example/ample_prior/ampleprior/ScoredDocument" = true := by first | (simp [plainName, overriddenIn]; done) | decide +kernel
theorem ef_rmI (m : MethodId) (x0 : Addr) (x1 : Addr) (x2 : UInt64) : entryFrame m #[(.ref x0), (.ref x1), (.double x2)] 4 = mkF m 0 #[.val (.ref x0), .val (.ref x1), .val (.double x2), .second] [] := by first | (simp [entryFrame, mkF, argsToLocals, Value.category]; done) | rfl
set_option maxRecDepth 65536 in
set_option maxHeartbeats 40000000 in
theorem rmI (l : Launch) (Z : State) (a0 : Array Value) (hw : ∀ d ∈ tables_1, d.before a0 Z = true) (ws : List Jvm.Cond) (u1 u2 : Value) (ob : Addr) (o1 : Addr) (r2 : UInt64) (h0 : Heap) (n0 : Nat) (Z0 : n0 ≤ h0.size) (Eo : Exa Z h0 ob "com/example/ample_prior/ampleprior/ScoredDocument") (g_ob : n0 ≤ ob) (F1 : Fld Z h0 ob "com/example/ample_prior/ampleprior/ScoredDocument" "docno" "Ljava/lang/String;" u1) (F2 : Fld Z h0 ob "com/example/ample_prior/ampleprior/ScoredDocument" "score" "D" u2) :
    MetFree l (⟨"com/example/ample_prior/ampleprior/ScoredDocument", "<init>", "(Ljava/lang/String;D)V"⟩ : MethodName) (head1 (Jvm.Cond.code (⟨"com/example/ample_prior/ampleprior/ScoredDocument", "<init>", "(Ljava/lang/String;D)V"⟩ : MethodName) prog_8_method_1_code 4 none :: ws) ({ frames := 2, cells := 0, slots := 0, locals := 24 } : Room)) (fun a U => a = #[(.ref ob), (.ref o1), (.double r2)] ∧ Z.Warmed39 U.vm ∧ U.heap = h0) (fun _ _ _ _ _ => True) (fun _ U o U' => ∃ v L, o = .returned v ∧ QI Z ob r2 h0 n0 v U'.heap L ∧ FrameEnd U o U' L ({ frames := 2, cells := 0, slots := 0, locals := 24 } : Room).cells ({ frames := 2, cells := 0, slots := 0, locals := 24 } : Room).slots) := by
  refine MetFree.of_bodySF (plainFor_of_name pn_1) hisR ?_
  intro p e s m args below meth c s₁ Bd hml0 hP hK
  obtain ⟨rfl, hZ, hh⟩ := hP
  have hx := Bd.exec
  have hby := Bd.bytes
  have hml : c.maxLocals = 4 := hml0
  have hown : s.vm.findClass "com/example/ample_prior/ampleprior/ScoredDocument" = some m.cls := findClass_of_methodNamed Bd.named
  have hnm := (name_of_methodNamed Bd.named Bd.method).1
  have X0 : Stand p l e ({ frames := 2, cells := 0, slots := 0, locals := 24 } : Room) s m #[(.ref ob), (.ref o1), (.double r2)] below meth c s₁ [] 0 0 := Stand.of_body Bd
  have e0 : s₁.heap = h0 := by rw [← hh, Bd.state]; rfl
  have N0 := Fr.nil n0
  have pre0 : ∀ t, Steps p.tables e below (s₁.setTop (mkF m 0 #[.val (.ref ob), .val (.ref o1), .val (.double r2), .second] [])) t → Steps p.tables e below (s₁.setTop (entryFrame m #[(.ref ob), (.ref o1), (.double r2)] 4)) t := fun t k => castTop (ef_rmI m ob o1 r2) k
  obtain ⟨_, _, ⟨T1, L1, k1, n1⟩, -, X1, ⟨Lc1, hQ1, l1, y1, z1⟩, st1⟩ := X0.specialBack hx (y := (⟨"java/lang/Record", "<init>", "()V"⟩ : MethodName)) rfl hown (mvT hZ (hw _ (List.mem_of_getElem? (i := 15) rfl))) (mvT hZ (hw _ (List.mem_of_getElem? (i := 16) rfl))) (mvT hZ (hw _ (List.mem_of_getElem? (i := 19) rfl))) (by decide) (backOf (W := 0) (rmR l Z a0 hw [] ob h0 n0 Z0) hZ (hw _ (List.mem_of_getElem? (i := 19) rfl)) (hw _ (List.mem_of_getElem? (i := 18) rfl)) (by decide) (by decide)) (g := (mkF m 1 #[.val (.ref ob), .val (.ref o1), .val (.double r2), .second] [(.ref ob)])) rfl (by rw [hml]; rfl) (Steps.refl _) (a := ob) (argsL := []) (rest := []) (lenOf pd_0 rfl) rfl (by show 2 * 0 + _ ≤ _; exact Nat.le_of_eq rfl) (hb hby d1_1) (fun _ _ => ⟨rfl, e0, (by decide : 0 + 0 ≤ _), (by decide : 0 + 0 ≤ _)⟩)
  dsimp only [Pt.U, Pt.locs, Pt.cells, Pt.slots] at X1 l1 y1 z1 st1 hQ1
  subst l1 y1 z1
  obtain ⟨rfl, N1a, e1⟩ := hQ1
  have N1 := Fr.app N0 N1a
  obtain ⟨T2, h2, X2, e2, W2, st2⟩ := putF X1 hx hZ hown (host := "") (Or.inl (hw _ (List.mem_of_getElem? (i := 23) rfl))) Via.refl e1 F1 Eo (Or.inr ⟨(hw _ (List.mem_of_getElem? (i := 24) rfl)), rfl, hnm⟩) (hw _ (List.mem_of_getElem? (i := 2) rfl)) (ty := (.object "java/lang/String")) (by decide) rfl rfl (g := (mkF m 6 #[.val (.ref ob), .val (.ref o1), .val (.double r2), .second] [(.ref o1), (.ref ob)])) rfl rfl (hb hby d1_6)
  have Fw2 := F1.same W2
  have K2 : Keep h0 h2 [ob] := (Keep.refl h0 [ob]).wr W2 (Or.inl (List.mem_of_getElem? (i := 0) rfl))
  have N2 := Fr.snoc X2 N1 g_ob
  obtain ⟨T3, h3, X3, e3, W3, st3⟩ := putF X2 hx hZ hown (host := "") (Or.inl (hw _ (List.mem_of_getElem? (i := 25) rfl))) Via.refl e2 (F2.other W2 (Or.inr (slot_ne (Or.inr (hw _ (List.mem_of_getElem? (i := 26) rfl))) (Or.inr (hw _ (List.mem_of_getElem? (i := 24) rfl))) (by decide) (t := .double) (t' := (.object "java/lang/String")) (by decide) (by decide)))) (Eo.wr W2) (Or.inr ⟨(hw _ (List.mem_of_getElem? (i := 26) rfl)), rfl, hnm⟩) (hw _ (List.mem_of_getElem? (i := 2) rfl)) (ty := .double) (by decide) rfl rfl (g := (mkF m 11 #[.val (.ref ob), .val (.ref o1), .val (.double r2), .second] [(.double r2), (.ref ob)])) rfl rfl (hb hby d1_11)
  have Fw3 := (F2.other W2 (Or.inr (slot_ne (Or.inr (hw _ (List.mem_of_getElem? (i := 26) rfl))) (Or.inr (hw _ (List.mem_of_getElem? (i := 24) rfl))) (by decide) (t := .double) (t' := (.object "java/lang/String")) (by decide) (by decide)))).same W3
  have K3 : Keep h0 h3 [ob] := K2.wr W3 (Or.inl (List.mem_of_getElem? (i := 0) rfl))
  have N3 := Fr.snoc X3 N2 g_ob
  obtain ⟨fs, hr, hrun, hended, hW, hsame⟩ := X3.leave (v := none) (fun _ => rfl)
  refine ⟨_, _, pre0 _ ?_, hrun, hended, _, _, rfl, ?_, ⟨_, rfl⟩, hW, hsame.mono (Nat.le_of_ble_eq_true rfl) (Nat.le_of_ble_eq_true rfl)⟩
  · show Steps p.tables e below (s₁.setTop (mkF m 0 #[.val (.ref ob), .val (.ref o1), .val (.double r2), .second] [])) _
    refine XS.aloadN X0.here hx rfl (hb hby d1_0) rfl rfl ?_
    show Steps p.tables e below (s₁.setTop (mkF m 1 #[.val (.ref ob), .val (.ref o1), .val (.double r2), .second] [(.ref ob)])) _
    refine st1.trans ?_
    show Steps p.tables e below (T1.setTop (mkF m 4 #[.val (.ref ob), .val (.ref o1), .val (.double r2), .second] [])) _
    refine XS.aloadN X1.here hx rfl (hb hby d1_4) rfl rfl ?_
    show Steps p.tables e below (T1.setTop (mkF m 5 #[.val (.ref ob), .val (.ref o1), .val (.double r2), .second] [(.ref ob)])) _
    refine XS.aloadN X1.here hx rfl (hb hby d1_5) rfl rfl ?_
    show Steps p.tables e below (T1.setTop (mkF m 6 #[.val (.ref ob), .val (.ref o1), .val (.double r2), .second] [(.ref o1), (.ref ob)])) _
    refine st2 _ ?_
    show Steps p.tables e below (T2.setTop (mkF m 9 #[.val (.ref ob), .val (.ref o1), .val (.double r2), .second] [])) _
    refine XS.aloadN X2.here hx rfl (hb hby d1_9) rfl rfl ?_
    show Steps p.tables e below (T2.setTop (mkF m 10 #[.val (.ref ob), .val (.ref o1), .val (.double r2), .second] [(.ref ob)])) _
    refine XS.dloadN X2.here hx rfl (hb hby d1_10) rfl ?_
    show Steps p.tables e below (T2.setTop (mkF m 11 #[.val (.ref ob), .val (.ref o1), .val (.double r2), .second] [(.double r2), (.ref ob)])) _
    refine st3 _ ?_
    show Steps p.tables e below (T3.setTop (mkF m 14 #[.val (.ref ob), .val (.ref o1), .val (.double r2), .second] [])) _
    exact X3.returnOut hx Bd.returns (hb hby d1_14) hr
  · show QI Z ob r2 h0 n0 _ T3.heap _
    rw [e3]
    exact ⟨rfl, N3, K3, ((Eo.wr W2).wr W3), Fw3⟩
theorem d5_0 : decode jdk_29_method_22_code 0 = .ok (.dload_n 0, 1) := by decide +kernel
theorem d5_1 : decode jdk_29_method_22_code 1 = .ok (.invokestatic 79, 3) := by decide +kernel
theorem d5_4 : decode jdk_29_method_22_code 4 = .ok (.lstore_n 2, 1) := by decide +kernel
theorem d5_5 : decode jdk_29_method_22_code 5 = .ok (.lload_n 2, 1) := by decide +kernel
theorem d5_6 : decode jdk_29_method_22_code 6 = .ok (.ldc2_w 87, 3) := by decide +kernel
theorem d5_9 : decode jdk_29_method_22_code 9 = .ok (.land, 1) := by decide +kernel
theorem d5_10 : decode jdk_29_method_22_code 10 = .ok (.bipush 52, 2) := by decide +kernel
theorem d5_12 : decode jdk_29_method_22_code 12 = .ok (.lshr, 1) := by decide +kernel
theorem d5_13 : decode jdk_29_method_22_code 13 = .ok (.lstore 4, 2) := by decide +kernel
theorem d5_15 : decode jdk_29_method_22_code 15 = .ok (.ldc2_w 89, 3) := by decide +kernel
theorem d5_18 : decode jdk_29_method_22_code 18 = .ok (.lload 4, 2) := by decide +kernel
theorem d5_20 : decode jdk_29_method_22_code 20 = .ok (.lsub, 1) := by decide +kernel
theorem d5_21 : decode jdk_29_method_22_code 21 = .ok (.lstore 6, 2) := by decide +kernel
theorem d5_23 : decode jdk_29_method_22_code 23 = .ok (.lload 6, 2) := by decide +kernel
theorem d5_25 : decode jdk_29_method_22_code 25 = .ok (.ldc2_w 91, 3) := by decide +kernel
theorem d5_28 : decode jdk_29_method_22_code 28 = .ok (.land, 1) := by decide +kernel
theorem d5_29 : decode jdk_29_method_22_code 29 = .ok (.lconst 0, 1) := by decide +kernel
theorem d5_30 : decode jdk_29_method_22_code 30 = .ok (.lcmp, 1) := by decide +kernel
theorem d5_31 : decode jdk_29_method_22_code 31 = .ok (.ifCond .ne 36, 3) := by decide +kernel
theorem d5_34 : decode jdk_29_method_22_code 34 = .ok (.lload_n 2, 1) := by decide +kernel
theorem d5_35 : decode jdk_29_method_22_code 35 = .ok (.ldc2_w 93, 3) := by decide +kernel
theorem d5_38 : decode jdk_29_method_22_code 38 = .ok (.land, 1) := by decide +kernel
theorem d5_39 : decode jdk_29_method_22_code 39 = .ok (.ldc2_w 95, 3) := by decide +kernel
theorem d5_42 : decode jdk_29_method_22_code 42 = .ok (.lor, 1) := by decide +kernel
theorem d5_43 : decode jdk_29_method_22_code 43 = .ok (.lstore 8, 2) := by decide +kernel
theorem d5_45 : decode jdk_29_method_22_code 45 = .ok (.lload_n 2, 1) := by decide +kernel
theorem d5_46 : decode jdk_29_method_22_code 46 = .ok (.lconst 0, 1) := by decide +kernel
theorem d5_47 : decode jdk_29_method_22_code 47 = .ok (.lcmp, 1) := by decide +kernel
theorem d5_48 : decode jdk_29_method_22_code 48 = .ok (.ifCond .ge 8, 3) := by decide +kernel
theorem d5_56 : decode jdk_29_method_22_code 56 = .ok (.lload 8, 2) := by decide +kernel
theorem d5_58 : decode jdk_29_method_22_code 58 = .ok (.lload 6, 2) := by decide +kernel
theorem d5_60 : decode jdk_29_method_22_code 60 = .ok (.l2i, 1) := by decide +kernel
theorem d5_61 : decode jdk_29_method_22_code 61 = .ok (.lshr, 1) := by decide +kernel
theorem d5_62 : decode jdk_29_method_22_code 62 = .ok (.lconst 1, 1) := by decide +kernel
theorem d5_63 : decode jdk_29_method_22_code 63 = .ok (.ladd, 1) := by decide +kernel
theorem d5_64 : decode jdk_29_method_22_code 64 = .ok (.iconst 1, 1) := by decide +kernel
theorem d5_65 : decode jdk_29_method_22_code 65 = .ok (.lshr, 1) := by decide +kernel
theorem d5_66 : decode jdk_29_method_22_code 66 = .ok (.lreturn, 1) := by decide +kernel
theorem ef_rmMp (m : MethodId) (x0 : UInt64) : entryFrame m #[(.double x0)] 10 = mkF m 0 #[.val (.double x0), .second, .unset, .unset, .unset, .unset, .unset, .unset, .unset, .unset] [] := by first | (simp [entryFrame, mkF, argsToLocals, Value.category]; done) | rfl
set_option maxRecDepth 65536 in
set_option maxHeartbeats 40000000 in
theorem rmMp (l : Launch) (Z : State) (a0 : Array Value) (hw : ∀ d ∈ tables_1, d.before a0 Z = true) (ws : List Jvm.Cond)  (r0 : UInt64) (sh : Int64) (h0 : Heap) (n0 : Nat) (Z0 : n0 ≤ h0.size) 
    (hsh : sh = ((1074 : Int64) - ((r0.toInt64 &&& (9218868437227405312 : Int64)) >>> ((52 : Int32) &&& 0x3f).toInt64)))
    (b31 : ifCond.holds .ne (if (sh &&& (-64 : Int64)) > (0 : Int64) then 1 else if (sh &&& (-64 : Int64)) = (0 : Int64) then 0 else -1) = false)
    (b48 : ifCond.holds .ge (if r0.toInt64 > (0 : Int64) then 1 else if r0.toInt64 = (0 : Int64) then 0 else -1) = true) :
    MetFree l (⟨"java/lang/Math", "round", "(D)J"⟩ : MethodName) (head1 (Jvm.Cond.code (⟨"java/lang/Math", "round", "(D)J"⟩ : MethodName) jdk_29_method_22_code 10 (some .long) :: ws) ({ frames := 1, cells := 0, slots := 0, locals := 40 } : Room)) (fun a U => a = #[(.double r0)] ∧ Z.Warmed39 U.vm ∧ U.heap = h0) (fun _ _ _ _ _ => True) (fun _ U o U' => ∃ v L, o = .returned v ∧ QP (some (.long (((((r0.toInt64 &&& (4503599627370495 : Int64)) ||| (4503599627370496 : Int64)) >>> (sh.toInt32 &&& 0x3f).toInt64) + (1 : Int64)) >>> ((1 : Int32) &&& 0x3f).toInt64))) h0 n0 v U'.heap L ∧ FrameEnd U o U' L ({ frames := 1, cells := 0, slots := 0, locals := 40 } : Room).cells ({ frames := 1, cells := 0, slots := 0, locals := 40 } : Room).slots) := by
  refine MetFree.of_bodySF (by decide +kernel) hisR ?_
  intro p e s m args below meth c s₁ Bd hml0 hP hK
  obtain ⟨rfl, hZ, hh⟩ := hP
  have hx := Bd.exec
  have hby := Bd.bytes
  have hml : c.maxLocals = 10 := hml0
  have hown : s.vm.findClass "java/lang/Math" = some m.cls := findClass_of_methodNamed Bd.named
  have hnm := (name_of_methodNamed Bd.named Bd.method).1
  have X0 : Stand p l e ({ frames := 1, cells := 0, slots := 0, locals := 40 } : Room) s m #[(.double r0)] below meth c s₁ [] 0 0 := Stand.of_body Bd
  have e0 : s₁.heap = h0 := by rw [← hh, Bd.state]; rfl
  have N0 := Fr.nil n0
  have pre0 : ∀ t, Steps p.tables e below (s₁.setTop (mkF m 0 #[.val (.double r0), .second, .unset, .unset, .unset, .unset, .unset, .unset, .unset, .unset] [])) t → Steps p.tables e below (s₁.setTop (entryFrame m #[(.double r0)] 10)) t := fun t k => castTop (ef_rmMp m r0) k
  obtain ⟨vm1, X1, st1⟩ := X0.doubleToRawLongBits hx hown (mvT hZ (hw _ (List.mem_of_getElem? (i := 39) rfl))) (mvT hZ (hw _ (List.mem_of_getElem? (i := 42) rfl))) (mvT hZ (hw _ (List.mem_of_getElem? (i := 40) rfl))) (mvT hZ (hw _ (List.mem_of_getElem? (i := 41) rfl))) (g := (mkF m 1 #[.val (.double r0), .second, .unset, .unset, .unset, .unset, .unset, .unset, .unset, .unset] [(.double r0)])) rfl (by rw [hml]; rfl) (rest := []) (b := r0) rfl (hb hby d5_1) (by decide) (by show 2 * 0 + 0 + (nativeFrameWords "java/lang/Double" "doubleToRawLongBits" 2 + 11) ≤ 40; decide +kernel)
  have e1 : (s₁.setVm vm1).heap = h0 := e0
  obtain ⟨fs, hr, hrun, hended, hW, hsame⟩ := X1.leave (v := some (.long (((((r0.toInt64 &&& (4503599627370495 : Int64)) ||| (4503599627370496 : Int64)) >>> (sh.toInt32 &&& 0x3f).toInt64) + (1 : Int64)) >>> ((1 : Int32) &&& 0x3f).toInt64))) (fun h => by rw [Bd.returns] at h; cases h)
  refine ⟨_, _, pre0 _ ?_, hrun, hended, _, _, rfl, ?_, ⟨_, rfl⟩, hW, hsame.mono (Nat.le_of_ble_eq_true rfl) (Nat.le_of_ble_eq_true rfl)⟩
  · show Steps p.tables e below (s₁.setTop (mkF m 0 #[.val (.double r0), .second, .unset, .unset, .unset, .unset, .unset, .unset, .unset, .unset] [])) _
    refine XS.dloadN X0.here hx rfl (hb hby d5_0) rfl ?_
    show Steps p.tables e below (s₁.setTop (mkF m 1 #[.val (.double r0), .second, .unset, .unset, .unset, .unset, .unset, .unset, .unset, .unset] [(.double r0)])) _
    refine st1 _ ?_
    show Steps p.tables e below ((s₁.setVm vm1).setTop (mkF m 4 #[.val (.double r0), .second, .unset, .unset, .unset, .unset, .unset, .unset, .unset, .unset] [(.long r0.toInt64)])) _
    refine XS.lstoreN X1.here hx rfl (hb hby d5_4) rfl (l' := #[.val (.double r0), .second, .val (.long r0.toInt64), .second, .unset, .unset, .unset, .unset, .unset, .unset]) rfl ?_
    show Steps p.tables e below ((s₁.setVm vm1).setTop (mkF m 5 #[.val (.double r0), .second, .val (.long r0.toInt64), .second, .unset, .unset, .unset, .unset, .unset, .unset] [])) _
    refine XS.lloadN X1.here hx rfl (hb hby d5_5) rfl ?_
    show Steps p.tables e below ((s₁.setVm vm1).setTop (mkF m 6 #[.val (.double r0), .second, .val (.long r0.toInt64), .second, .unset, .unset, .unset, .unset, .unset, .unset] [(.long r0.toInt64)])) _
    refine X1.ldc2Long hx hown (mvT hZ (hw _ (List.mem_of_getElem? (i := 43) rfl))) (g := (mkF m 6 #[.val (.double r0), .second, .val (.long r0.toInt64), .second, .unset, .unset, .unset, .unset, .unset, .unset] [(.long r0.toInt64)])) rfl (hb hby d5_6) _ ?_
    show Steps p.tables e below ((s₁.setVm vm1).setTop (mkF m 9 #[.val (.double r0), .second, .val (.long r0.toInt64), .second, .unset, .unset, .unset, .unset, .unset, .unset] [(.long (9218868437227405312 : Int64)), (.long r0.toInt64)])) _
    refine XS.land X1.here hx rfl (hb hby d5_9) rfl ?_
    show Steps p.tables e below ((s₁.setVm vm1).setTop (mkF m 10 #[.val (.double r0), .second, .val (.long r0.toInt64), .second, .unset, .unset, .unset, .unset, .unset, .unset] [(.long (r0.toInt64 &&& (9218868437227405312 : Int64)))])) _
    refine XS.bipush X1.here hx rfl (hb hby d5_10) ?_
    show Steps p.tables e below ((s₁.setVm vm1).setTop (mkF m 12 #[.val (.double r0), .second, .val (.long r0.toInt64), .second, .unset, .unset, .unset, .unset, .unset, .unset] [(.int (52 : Int32)), (.long (r0.toInt64 &&& (9218868437227405312 : Int64)))])) _
    refine XS.lshr X1.here hx rfl (hb hby d5_12) rfl ?_
    show Steps p.tables e below ((s₁.setVm vm1).setTop (mkF m 13 #[.val (.double r0), .second, .val (.long r0.toInt64), .second, .unset, .unset, .unset, .unset, .unset, .unset] [(.long ((r0.toInt64 &&& (9218868437227405312 : Int64)) >>> ((52 : Int32) &&& 0x3f).toInt64))])) _
    refine XS.lstore X1.here hx rfl (hb hby d5_13) rfl (l' := #[.val (.double r0), .second, .val (.long r0.toInt64), .second, .val (.long ((r0.toInt64 &&& (9218868437227405312 : Int64)) >>> ((52 : Int32) &&& 0x3f).toInt64)), .second, .unset, .unset, .unset, .unset]) rfl ?_
    show Steps p.tables e below ((s₁.setVm vm1).setTop (mkF m 15 #[.val (.double r0), .second, .val (.long r0.toInt64), .second, .val (.long ((r0.toInt64 &&& (9218868437227405312 : Int64)) >>> ((52 : Int32) &&& 0x3f).toInt64)), .second, .unset, .unset, .unset, .unset] [])) _
    refine X1.ldc2Long hx hown (mvT hZ (hw _ (List.mem_of_getElem? (i := 44) rfl))) (g := (mkF m 15 #[.val (.double r0), .second, .val (.long r0.toInt64), .second, .val (.long ((r0.toInt64 &&& (9218868437227405312 : Int64)) >>> ((52 : Int32) &&& 0x3f).toInt64)), .second, .unset, .unset, .unset, .unset] [])) rfl (hb hby d5_15) _ ?_
    show Steps p.tables e below ((s₁.setVm vm1).setTop (mkF m 18 #[.val (.double r0), .second, .val (.long r0.toInt64), .second, .val (.long ((r0.toInt64 &&& (9218868437227405312 : Int64)) >>> ((52 : Int32) &&& 0x3f).toInt64)), .second, .unset, .unset, .unset, .unset] [(.long (1074 : Int64))])) _
    refine XS.lload X1.here hx rfl (hb hby d5_18) rfl ?_
    show Steps p.tables e below ((s₁.setVm vm1).setTop (mkF m 20 #[.val (.double r0), .second, .val (.long r0.toInt64), .second, .val (.long ((r0.toInt64 &&& (9218868437227405312 : Int64)) >>> ((52 : Int32) &&& 0x3f).toInt64)), .second, .unset, .unset, .unset, .unset] [(.long ((r0.toInt64 &&& (9218868437227405312 : Int64)) >>> ((52 : Int32) &&& 0x3f).toInt64)), (.long (1074 : Int64))])) _
    refine XS.lsub X1.here hx rfl (hb hby d5_20) rfl ?_
    show Steps p.tables e below ((s₁.setVm vm1).setTop (mkF m 21 #[.val (.double r0), .second, .val (.long r0.toInt64), .second, .val (.long ((r0.toInt64 &&& (9218868437227405312 : Int64)) >>> ((52 : Int32) &&& 0x3f).toInt64)), .second, .unset, .unset, .unset, .unset] [(.long ((1074 : Int64) - ((r0.toInt64 &&& (9218868437227405312 : Int64)) >>> ((52 : Int32) &&& 0x3f).toInt64)))])) _
    rw [← hsh]
    show Steps p.tables e below ((s₁.setVm vm1).setTop (mkF m 21 #[.val (.double r0), .second, .val (.long r0.toInt64), .second, .val (.long ((r0.toInt64 &&& (9218868437227405312 : Int64)) >>> ((52 : Int32) &&& 0x3f).toInt64)), .second, .unset, .unset, .unset, .unset] [(.long sh)])) _
    refine XS.lstore X1.here hx rfl (hb hby d5_21) rfl (l' := #[.val (.double r0), .second, .val (.long r0.toInt64), .second, .val (.long ((r0.toInt64 &&& (9218868437227405312 : Int64)) >>> ((52 : Int32) &&& 0x3f).toInt64)), .second, .val (.long sh), .second, .unset, .unset]) rfl ?_
    show Steps p.tables e below ((s₁.setVm vm1).setTop (mkF m 23 #[.val (.double r0), .second, .val (.long r0.toInt64), .second, .val (.long ((r0.toInt64 &&& (9218868437227405312 : Int64)) >>> ((52 : Int32) &&& 0x3f).toInt64)), .second, .val (.long sh), .second, .unset, .unset] [])) _
    refine XS.lload X1.here hx rfl (hb hby d5_23) rfl ?_
    show Steps p.tables e below ((s₁.setVm vm1).setTop (mkF m 25 #[.val (.double r0), .second, .val (.long r0.toInt64), .second, .val (.long ((r0.toInt64 &&& (9218868437227405312 : Int64)) >>> ((52 : Int32) &&& 0x3f).toInt64)), .second, .val (.long sh), .second, .unset, .unset] [(.long sh)])) _
    refine X1.ldc2Long hx hown (mvT hZ (hw _ (List.mem_of_getElem? (i := 45) rfl))) (g := (mkF m 25 #[.val (.double r0), .second, .val (.long r0.toInt64), .second, .val (.long ((r0.toInt64 &&& (9218868437227405312 : Int64)) >>> ((52 : Int32) &&& 0x3f).toInt64)), .second, .val (.long sh), .second, .unset, .unset] [(.long sh)])) rfl (hb hby d5_25) _ ?_
    show Steps p.tables e below ((s₁.setVm vm1).setTop (mkF m 28 #[.val (.double r0), .second, .val (.long r0.toInt64), .second, .val (.long ((r0.toInt64 &&& (9218868437227405312 : Int64)) >>> ((52 : Int32) &&& 0x3f).toInt64)), .second, .val (.long sh), .second, .unset, .unset] [(.long (-64 : Int64)), (.long sh)])) _
    refine XS.land X1.here hx rfl (hb hby d5_28) rfl ?_
    show Steps p.tables e below ((s₁.setVm vm1).setTop (mkF m 29 #[.val (.double r0), .second, .val (.long r0.toInt64), .second, .val (.long ((r0.toInt64 &&& (9218868437227405312 : Int64)) >>> ((52 : Int32) &&& 0x3f).toInt64)), .second, .val (.long sh), .second, .unset, .unset] [(.long (sh &&& (-64 : Int64)))])) _
    refine XS.lconst X1.here hx rfl (hb hby d5_29) ?_
    show Steps p.tables e below ((s₁.setVm vm1).setTop (mkF m 30 #[.val (.double r0), .second, .val (.long r0.toInt64), .second, .val (.long ((r0.toInt64 &&& (9218868437227405312 : Int64)) >>> ((52 : Int32) &&& 0x3f).toInt64)), .second, .val (.long sh), .second, .unset, .unset] [(.long (0 : Int64)), (.long (sh &&& (-64 : Int64)))])) _
    refine XS.lcmp X1.here hx rfl (hb hby d5_30) rfl ?_
    show Steps p.tables e below ((s₁.setVm vm1).setTop (mkF m 31 #[.val (.double r0), .second, .val (.long r0.toInt64), .second, .val (.long ((r0.toInt64 &&& (9218868437227405312 : Int64)) >>> ((52 : Int32) &&& 0x3f).toInt64)), .second, .val (.long sh), .second, .unset, .unset] [(.int (if (sh &&& (-64 : Int64)) > (0 : Int64) then 1 else if (sh &&& (-64 : Int64)) = (0 : Int64) then 0 else -1))])) _
    refine XS.ifNo X1.here hx rfl (hb hby d5_31) rfl b31 ?_
    show Steps p.tables e below ((s₁.setVm vm1).setTop (mkF m 34 #[.val (.double r0), .second, .val (.long r0.toInt64), .second, .val (.long ((r0.toInt64 &&& (9218868437227405312 : Int64)) >>> ((52 : Int32) &&& 0x3f).toInt64)), .second, .val (.long sh), .second, .unset, .unset] [])) _
    refine XS.lloadN X1.here hx rfl (hb hby d5_34) rfl ?_
    show Steps p.tables e below ((s₁.setVm vm1).setTop (mkF m 35 #[.val (.double r0), .second, .val (.long r0.toInt64), .second, .val (.long ((r0.toInt64 &&& (9218868437227405312 : Int64)) >>> ((52 : Int32) &&& 0x3f).toInt64)), .second, .val (.long sh), .second, .unset, .unset] [(.long r0.toInt64)])) _
    refine X1.ldc2Long hx hown (mvT hZ (hw _ (List.mem_of_getElem? (i := 46) rfl))) (g := (mkF m 35 #[.val (.double r0), .second, .val (.long r0.toInt64), .second, .val (.long ((r0.toInt64 &&& (9218868437227405312 : Int64)) >>> ((52 : Int32) &&& 0x3f).toInt64)), .second, .val (.long sh), .second, .unset, .unset] [(.long r0.toInt64)])) rfl (hb hby d5_35) _ ?_
    show Steps p.tables e below ((s₁.setVm vm1).setTop (mkF m 38 #[.val (.double r0), .second, .val (.long r0.toInt64), .second, .val (.long ((r0.toInt64 &&& (9218868437227405312 : Int64)) >>> ((52 : Int32) &&& 0x3f).toInt64)), .second, .val (.long sh), .second, .unset, .unset] [(.long (4503599627370495 : Int64)), (.long r0.toInt64)])) _
    refine XS.land X1.here hx rfl (hb hby d5_38) rfl ?_
    show Steps p.tables e below ((s₁.setVm vm1).setTop (mkF m 39 #[.val (.double r0), .second, .val (.long r0.toInt64), .second, .val (.long ((r0.toInt64 &&& (9218868437227405312 : Int64)) >>> ((52 : Int32) &&& 0x3f).toInt64)), .second, .val (.long sh), .second, .unset, .unset] [(.long (r0.toInt64 &&& (4503599627370495 : Int64)))])) _
    refine X1.ldc2Long hx hown (mvT hZ (hw _ (List.mem_of_getElem? (i := 47) rfl))) (g := (mkF m 39 #[.val (.double r0), .second, .val (.long r0.toInt64), .second, .val (.long ((r0.toInt64 &&& (9218868437227405312 : Int64)) >>> ((52 : Int32) &&& 0x3f).toInt64)), .second, .val (.long sh), .second, .unset, .unset] [(.long (r0.toInt64 &&& (4503599627370495 : Int64)))])) rfl (hb hby d5_39) _ ?_
    show Steps p.tables e below ((s₁.setVm vm1).setTop (mkF m 42 #[.val (.double r0), .second, .val (.long r0.toInt64), .second, .val (.long ((r0.toInt64 &&& (9218868437227405312 : Int64)) >>> ((52 : Int32) &&& 0x3f).toInt64)), .second, .val (.long sh), .second, .unset, .unset] [(.long (4503599627370496 : Int64)), (.long (r0.toInt64 &&& (4503599627370495 : Int64)))])) _
    refine XS.lor X1.here hx rfl (hb hby d5_42) rfl ?_
    show Steps p.tables e below ((s₁.setVm vm1).setTop (mkF m 43 #[.val (.double r0), .second, .val (.long r0.toInt64), .second, .val (.long ((r0.toInt64 &&& (9218868437227405312 : Int64)) >>> ((52 : Int32) &&& 0x3f).toInt64)), .second, .val (.long sh), .second, .unset, .unset] [(.long ((r0.toInt64 &&& (4503599627370495 : Int64)) ||| (4503599627370496 : Int64)))])) _
    refine XS.lstore X1.here hx rfl (hb hby d5_43) rfl (l' := #[.val (.double r0), .second, .val (.long r0.toInt64), .second, .val (.long ((r0.toInt64 &&& (9218868437227405312 : Int64)) >>> ((52 : Int32) &&& 0x3f).toInt64)), .second, .val (.long sh), .second, .val (.long ((r0.toInt64 &&& (4503599627370495 : Int64)) ||| (4503599627370496 : Int64))), .second]) rfl ?_
    show Steps p.tables e below ((s₁.setVm vm1).setTop (mkF m 45 #[.val (.double r0), .second, .val (.long r0.toInt64), .second, .val (.long ((r0.toInt64 &&& (9218868437227405312 : Int64)) >>> ((52 : Int32) &&& 0x3f).toInt64)), .second, .val (.long sh), .second, .val (.long ((r0.toInt64 &&& (4503599627370495 : Int64)) ||| (4503599627370496 : Int64))), .second] [])) _
    refine XS.lloadN X1.here hx rfl (hb hby d5_45) rfl ?_
    show Steps p.tables e below ((s₁.setVm vm1).setTop (mkF m 46 #[.val (.double r0), .second, .val (.long r0.toInt64), .second, .val (.long ((r0.toInt64 &&& (9218868437227405312 : Int64)) >>> ((52 : Int32) &&& 0x3f).toInt64)), .second, .val (.long sh), .second, .val (.long ((r0.toInt64 &&& (4503599627370495 : Int64)) ||| (4503599627370496 : Int64))), .second] [(.long r0.toInt64)])) _
    refine XS.lconst X1.here hx rfl (hb hby d5_46) ?_
    show Steps p.tables e below ((s₁.setVm vm1).setTop (mkF m 47 #[.val (.double r0), .second, .val (.long r0.toInt64), .second, .val (.long ((r0.toInt64 &&& (9218868437227405312 : Int64)) >>> ((52 : Int32) &&& 0x3f).toInt64)), .second, .val (.long sh), .second, .val (.long ((r0.toInt64 &&& (4503599627370495 : Int64)) ||| (4503599627370496 : Int64))), .second] [(.long (0 : Int64)), (.long r0.toInt64)])) _
    refine XS.lcmp X1.here hx rfl (hb hby d5_47) rfl ?_
    show Steps p.tables e below ((s₁.setVm vm1).setTop (mkF m 48 #[.val (.double r0), .second, .val (.long r0.toInt64), .second, .val (.long ((r0.toInt64 &&& (9218868437227405312 : Int64)) >>> ((52 : Int32) &&& 0x3f).toInt64)), .second, .val (.long sh), .second, .val (.long ((r0.toInt64 &&& (4503599627370495 : Int64)) ||| (4503599627370496 : Int64))), .second] [(.int (if r0.toInt64 > (0 : Int64) then 1 else if r0.toInt64 = (0 : Int64) then 0 else -1))])) _
    refine XS.ifYes X1.here hx rfl (pc0 := 48) (pc' := 56) rfl (hb hby d5_48) rfl b48 (by decide) (by decide) ?_
    show Steps p.tables e below ((s₁.setVm vm1).setTop (mkF m 56 #[.val (.double r0), .second, .val (.long r0.toInt64), .second, .val (.long ((r0.toInt64 &&& (9218868437227405312 : Int64)) >>> ((52 : Int32) &&& 0x3f).toInt64)), .second, .val (.long sh), .second, .val (.long ((r0.toInt64 &&& (4503599627370495 : Int64)) ||| (4503599627370496 : Int64))), .second] [])) _
    refine XS.lload X1.here hx rfl (hb hby d5_56) rfl ?_
    show Steps p.tables e below ((s₁.setVm vm1).setTop (mkF m 58 #[.val (.double r0), .second, .val (.long r0.toInt64), .second, .val (.long ((r0.toInt64 &&& (9218868437227405312 : Int64)) >>> ((52 : Int32) &&& 0x3f).toInt64)), .second, .val (.long sh), .second, .val (.long ((r0.toInt64 &&& (4503599627370495 : Int64)) ||| (4503599627370496 : Int64))), .second] [(.long ((r0.toInt64 &&& (4503599627370495 : Int64)) ||| (4503599627370496 : Int64)))])) _
    refine XS.lload X1.here hx rfl (hb hby d5_58) rfl ?_
    show Steps p.tables e below ((s₁.setVm vm1).setTop (mkF m 60 #[.val (.double r0), .second, .val (.long r0.toInt64), .second, .val (.long ((r0.toInt64 &&& (9218868437227405312 : Int64)) >>> ((52 : Int32) &&& 0x3f).toInt64)), .second, .val (.long sh), .second, .val (.long ((r0.toInt64 &&& (4503599627370495 : Int64)) ||| (4503599627370496 : Int64))), .second] [(.long sh), (.long ((r0.toInt64 &&& (4503599627370495 : Int64)) ||| (4503599627370496 : Int64)))])) _
    refine XS.l2i X1.here hx rfl (hb hby d5_60) rfl ?_
    show Steps p.tables e below ((s₁.setVm vm1).setTop (mkF m 61 #[.val (.double r0), .second, .val (.long r0.toInt64), .second, .val (.long ((r0.toInt64 &&& (9218868437227405312 : Int64)) >>> ((52 : Int32) &&& 0x3f).toInt64)), .second, .val (.long sh), .second, .val (.long ((r0.toInt64 &&& (4503599627370495 : Int64)) ||| (4503599627370496 : Int64))), .second] [(.int sh.toInt32), (.long ((r0.toInt64 &&& (4503599627370495 : Int64)) ||| (4503599627370496 : Int64)))])) _
    refine XS.lshr X1.here hx rfl (hb hby d5_61) rfl ?_
    show Steps p.tables e below ((s₁.setVm vm1).setTop (mkF m 62 #[.val (.double r0), .second, .val (.long r0.toInt64), .second, .val (.long ((r0.toInt64 &&& (9218868437227405312 : Int64)) >>> ((52 : Int32) &&& 0x3f).toInt64)), .second, .val (.long sh), .second, .val (.long ((r0.toInt64 &&& (4503599627370495 : Int64)) ||| (4503599627370496 : Int64))), .second] [(.long (((r0.toInt64 &&& (4503599627370495 : Int64)) ||| (4503599627370496 : Int64)) >>> (sh.toInt32 &&& 0x3f).toInt64))])) _
    refine XS.lconst X1.here hx rfl (hb hby d5_62) ?_
    show Steps p.tables e below ((s₁.setVm vm1).setTop (mkF m 63 #[.val (.double r0), .second, .val (.long r0.toInt64), .second, .val (.long ((r0.toInt64 &&& (9218868437227405312 : Int64)) >>> ((52 : Int32) &&& 0x3f).toInt64)), .second, .val (.long sh), .second, .val (.long ((r0.toInt64 &&& (4503599627370495 : Int64)) ||| (4503599627370496 : Int64))), .second] [(.long (1 : Int64)), (.long (((r0.toInt64 &&& (4503599627370495 : Int64)) ||| (4503599627370496 : Int64)) >>> (sh.toInt32 &&& 0x3f).toInt64))])) _
    refine XS.ladd X1.here hx rfl (hb hby d5_63) rfl ?_
    show Steps p.tables e below ((s₁.setVm vm1).setTop (mkF m 64 #[.val (.double r0), .second, .val (.long r0.toInt64), .second, .val (.long ((r0.toInt64 &&& (9218868437227405312 : Int64)) >>> ((52 : Int32) &&& 0x3f).toInt64)), .second, .val (.long sh), .second, .val (.long ((r0.toInt64 &&& (4503599627370495 : Int64)) ||| (4503599627370496 : Int64))), .second] [(.long ((((r0.toInt64 &&& (4503599627370495 : Int64)) ||| (4503599627370496 : Int64)) >>> (sh.toInt32 &&& 0x3f).toInt64) + (1 : Int64)))])) _
    refine XS.iconst X1.here hx rfl (hb hby d5_64) ?_
    show Steps p.tables e below ((s₁.setVm vm1).setTop (mkF m 65 #[.val (.double r0), .second, .val (.long r0.toInt64), .second, .val (.long ((r0.toInt64 &&& (9218868437227405312 : Int64)) >>> ((52 : Int32) &&& 0x3f).toInt64)), .second, .val (.long sh), .second, .val (.long ((r0.toInt64 &&& (4503599627370495 : Int64)) ||| (4503599627370496 : Int64))), .second] [(.int (1 : Int32)), (.long ((((r0.toInt64 &&& (4503599627370495 : Int64)) ||| (4503599627370496 : Int64)) >>> (sh.toInt32 &&& 0x3f).toInt64) + (1 : Int64)))])) _
    refine XS.lshr X1.here hx rfl (hb hby d5_65) rfl ?_
    show Steps p.tables e below ((s₁.setVm vm1).setTop (mkF m 66 #[.val (.double r0), .second, .val (.long r0.toInt64), .second, .val (.long ((r0.toInt64 &&& (9218868437227405312 : Int64)) >>> ((52 : Int32) &&& 0x3f).toInt64)), .second, .val (.long sh), .second, .val (.long ((r0.toInt64 &&& (4503599627370495 : Int64)) ||| (4503599627370496 : Int64))), .second] [(.long (((((r0.toInt64 &&& (4503599627370495 : Int64)) ||| (4503599627370496 : Int64)) >>> (sh.toInt32 &&& 0x3f).toInt64) + (1 : Int64)) >>> ((1 : Int32) &&& 0x3f).toInt64))])) _
    exact OwnF.retJ X1 hx Bd.returns (hb hby d5_66) hr
  · show QP (some (.long (((((r0.toInt64 &&& (4503599627370495 : Int64)) ||| (4503599627370496 : Int64)) >>> (sh.toInt32 &&& 0x3f).toInt64) + (1 : Int64)) >>> ((1 : Int32) &&& 0x3f).toInt64))) h0 n0 _ (s₁.setVm vm1).heap _
    rw [e1]
    exact ⟨rfl, N0, rfl⟩
theorem d5_51 : decode jdk_29_method_22_code 51 = .ok (.lload 8, 2) := by decide +kernel
theorem d5_53 : decode jdk_29_method_22_code 53 = .ok (.lneg, 1) := by decide +kernel
theorem d5_54 : decode jdk_29_method_22_code 54 = .ok (.lstore 8, 2) := by decide +kernel
theorem ef_rmMn (m : MethodId) (x0 : UInt64) : entryFrame m #[(.double x0)] 10 = mkF m 0 #[.val (.double x0), .second, .unset, .unset, .unset, .unset, .unset, .unset, .unset, .unset] [] := by first | (simp [entryFrame, mkF, argsToLocals, Value.category]; done) | rfl
set_option maxRecDepth 65536 in
set_option maxHeartbeats 40000000 in
theorem rmMn (l : Launch) (Z : State) (a0 : Array Value) (hw : ∀ d ∈ tables_1, d.before a0 Z = true) (ws : List Jvm.Cond)  (r0 : UInt64) (sh : Int64) (h0 : Heap) (n0 : Nat) (Z0 : n0 ≤ h0.size) 
    (hsh : sh = ((1074 : Int64) - ((r0.toInt64 &&& (9218868437227405312 : Int64)) >>> ((52 : Int32) &&& 0x3f).toInt64)))
    (b31 : ifCond.holds .ne (if (sh &&& (-64 : Int64)) > (0 : Int64) then 1 else if (sh &&& (-64 : Int64)) = (0 : Int64) then 0 else -1) = false)
    (b48 : ifCond.holds .ge (if r0.toInt64 > (0 : Int64) then 1 else if r0.toInt64 = (0 : Int64) then 0 else -1) = false) :
    MetFree l (⟨"java/lang/Math", "round", "(D)J"⟩ : MethodName) (head1 (Jvm.Cond.code (⟨"java/lang/Math", "round", "(D)J"⟩ : MethodName) jdk_29_method_22_code 10 (some .long) :: ws) ({ frames := 1, cells := 0, slots := 0, locals := 40 } : Room)) (fun a U => a = #[(.double r0)] ∧ Z.Warmed39 U.vm ∧ U.heap = h0) (fun _ _ _ _ _ => True) (fun _ U o U' => ∃ v L, o = .returned v ∧ QP (some (.long ((((-((r0.toInt64 &&& (4503599627370495 : Int64)) ||| (4503599627370496 : Int64))) >>> (sh.toInt32 &&& 0x3f).toInt64) + (1 : Int64)) >>> ((1 : Int32) &&& 0x3f).toInt64))) h0 n0 v U'.heap L ∧ FrameEnd U o U' L ({ frames := 1, cells := 0, slots := 0, locals := 40 } : Room).cells ({ frames := 1, cells := 0, slots := 0, locals := 40 } : Room).slots) := by
  refine MetFree.of_bodySF (by decide +kernel) hisR ?_
  intro p e s m args below meth c s₁ Bd hml0 hP hK
  obtain ⟨rfl, hZ, hh⟩ := hP
  have hx := Bd.exec
  have hby := Bd.bytes
  have hml : c.maxLocals = 10 := hml0
  have hown : s.vm.findClass "java/lang/Math" = some m.cls := findClass_of_methodNamed Bd.named
  have hnm := (name_of_methodNamed Bd.named Bd.method).1
  have X0 : Stand p l e ({ frames := 1, cells := 0, slots := 0, locals := 40 } : Room) s m #[(.double r0)] below meth c s₁ [] 0 0 := Stand.of_body Bd
  have e0 : s₁.heap = h0 := by rw [← hh, Bd.state]; rfl
  have N0 := Fr.nil n0
  have pre0 : ∀ t, Steps p.tables e below (s₁.setTop (mkF m 0 #[.val (.double r0), .second, .unset, .unset, .unset, .unset, .unset, .unset, .unset, .unset] [])) t → Steps p.tables e below (s₁.setTop (entryFrame m #[(.double r0)] 10)) t := fun t k => castTop (ef_rmMn m r0) k
  obtain ⟨vm1, X1, st1⟩ := X0.doubleToRawLongBits hx hown (mvT hZ (hw _ (List.mem_of_getElem? (i := 39) rfl))) (mvT hZ (hw _ (List.mem_of_getElem? (i := 42) rfl))) (mvT hZ (hw _ (List.mem_of_getElem? (i := 40) rfl))) (mvT hZ (hw _ (List.mem_of_getElem? (i := 41) rfl))) (g := (mkF m 1 #[.val (.double r0), .second, .unset, .unset, .unset, .unset, .unset, .unset, .unset, .unset] [(.double r0)])) rfl (by rw [hml]; rfl) (rest := []) (b := r0) rfl (hb hby d5_1) (by decide) (by show 2 * 0 + 0 + (nativeFrameWords "java/lang/Double" "doubleToRawLongBits" 2 + 11) ≤ 40; decide +kernel)
  have e1 : (s₁.setVm vm1).heap = h0 := e0
  obtain ⟨fs, hr, hrun, hended, hW, hsame⟩ := X1.leave (v := some (.long ((((-((r0.toInt64 &&& (4503599627370495 : Int64)) ||| (4503599627370496 : Int64))) >>> (sh.toInt32 &&& 0x3f).toInt64) + (1 : Int64)) >>> ((1 : Int32) &&& 0x3f).toInt64))) (fun h => by rw [Bd.returns] at h; cases h)
  refine ⟨_, _, pre0 _ ?_, hrun, hended, _, _, rfl, ?_, ⟨_, rfl⟩, hW, hsame.mono (Nat.le_of_ble_eq_true rfl) (Nat.le_of_ble_eq_true rfl)⟩
  · show Steps p.tables e below (s₁.setTop (mkF m 0 #[.val (.double r0), .second, .unset, .unset, .unset, .unset, .unset, .unset, .unset, .unset] [])) _
    refine XS.dloadN X0.here hx rfl (hb hby d5_0) rfl ?_
    show Steps p.tables e below (s₁.setTop (mkF m 1 #[.val (.double r0), .second, .unset, .unset, .unset, .unset, .unset, .unset, .unset, .unset] [(.double r0)])) _
    refine st1 _ ?_
    show Steps p.tables e below ((s₁.setVm vm1).setTop (mkF m 4 #[.val (.double r0), .second, .unset, .unset, .unset, .unset, .unset, .unset, .unset, .unset] [(.long r0.toInt64)])) _
    refine XS.lstoreN X1.here hx rfl (hb hby d5_4) rfl (l' := #[.val (.double r0), .second, .val (.long r0.toInt64), .second, .unset, .unset, .unset, .unset, .unset, .unset]) rfl ?_
    show Steps p.tables e below ((s₁.setVm vm1).setTop (mkF m 5 #[.val (.double r0), .second, .val (.long r0.toInt64), .second, .unset, .unset, .unset, .unset, .unset, .unset] [])) _
    refine XS.lloadN X1.here hx rfl (hb hby d5_5) rfl ?_
    show Steps p.tables e below ((s₁.setVm vm1).setTop (mkF m 6 #[.val (.double r0), .second, .val (.long r0.toInt64), .second, .unset, .unset, .unset, .unset, .unset, .unset] [(.long r0.toInt64)])) _
    refine X1.ldc2Long hx hown (mvT hZ (hw _ (List.mem_of_getElem? (i := 43) rfl))) (g := (mkF m 6 #[.val (.double r0), .second, .val (.long r0.toInt64), .second, .unset, .unset, .unset, .unset, .unset, .unset] [(.long r0.toInt64)])) rfl (hb hby d5_6) _ ?_
    show Steps p.tables e below ((s₁.setVm vm1).setTop (mkF m 9 #[.val (.double r0), .second, .val (.long r0.toInt64), .second, .unset, .unset, .unset, .unset, .unset, .unset] [(.long (9218868437227405312 : Int64)), (.long r0.toInt64)])) _
    refine XS.land X1.here hx rfl (hb hby d5_9) rfl ?_
    show Steps p.tables e below ((s₁.setVm vm1).setTop (mkF m 10 #[.val (.double r0), .second, .val (.long r0.toInt64), .second, .unset, .unset, .unset, .unset, .unset, .unset] [(.long (r0.toInt64 &&& (9218868437227405312 : Int64)))])) _
    refine XS.bipush X1.here hx rfl (hb hby d5_10) ?_
    show Steps p.tables e below ((s₁.setVm vm1).setTop (mkF m 12 #[.val (.double r0), .second, .val (.long r0.toInt64), .second, .unset, .unset, .unset, .unset, .unset, .unset] [(.int (52 : Int32)), (.long (r0.toInt64 &&& (9218868437227405312 : Int64)))])) _
    refine XS.lshr X1.here hx rfl (hb hby d5_12) rfl ?_
    show Steps p.tables e below ((s₁.setVm vm1).setTop (mkF m 13 #[.val (.double r0), .second, .val (.long r0.toInt64), .second, .unset, .unset, .unset, .unset, .unset, .unset] [(.long ((r0.toInt64 &&& (9218868437227405312 : Int64)) >>> ((52 : Int32) &&& 0x3f).toInt64))])) _
    refine XS.lstore X1.here hx rfl (hb hby d5_13) rfl (l' := #[.val (.double r0), .second, .val (.long r0.toInt64), .second, .val (.long ((r0.toInt64 &&& (9218868437227405312 : Int64)) >>> ((52 : Int32) &&& 0x3f).toInt64)), .second, .unset, .unset, .unset, .unset]) rfl ?_
    show Steps p.tables e below ((s₁.setVm vm1).setTop (mkF m 15 #[.val (.double r0), .second, .val (.long r0.toInt64), .second, .val (.long ((r0.toInt64 &&& (9218868437227405312 : Int64)) >>> ((52 : Int32) &&& 0x3f).toInt64)), .second, .unset, .unset, .unset, .unset] [])) _
    refine X1.ldc2Long hx hown (mvT hZ (hw _ (List.mem_of_getElem? (i := 44) rfl))) (g := (mkF m 15 #[.val (.double r0), .second, .val (.long r0.toInt64), .second, .val (.long ((r0.toInt64 &&& (9218868437227405312 : Int64)) >>> ((52 : Int32) &&& 0x3f).toInt64)), .second, .unset, .unset, .unset, .unset] [])) rfl (hb hby d5_15) _ ?_
    show Steps p.tables e below ((s₁.setVm vm1).setTop (mkF m 18 #[.val (.double r0), .second, .val (.long r0.toInt64), .second, .val (.long ((r0.toInt64 &&& (9218868437227405312 : Int64)) >>> ((52 : Int32) &&& 0x3f).toInt64)), .second, .unset, .unset, .unset, .unset] [(.long (1074 : Int64))])) _
    refine XS.lload X1.here hx rfl (hb hby d5_18) rfl ?_
    show Steps p.tables e below ((s₁.setVm vm1).setTop (mkF m 20 #[.val (.double r0), .second, .val (.long r0.toInt64), .second, .val (.long ((r0.toInt64 &&& (9218868437227405312 : Int64)) >>> ((52 : Int32) &&& 0x3f).toInt64)), .second, .unset, .unset, .unset, .unset] [(.long ((r0.toInt64 &&& (9218868437227405312 : Int64)) >>> ((52 : Int32) &&& 0x3f).toInt64)), (.long (1074 : Int64))])) _
    refine XS.lsub X1.here hx rfl (hb hby d5_20) rfl ?_
    show Steps p.tables e below ((s₁.setVm vm1).setTop (mkF m 21 #[.val (.double r0), .second, .val (.long r0.toInt64), .second, .val (.long ((r0.toInt64 &&& (9218868437227405312 : Int64)) >>> ((52 : Int32) &&& 0x3f).toInt64)), .second, .unset, .unset, .unset, .unset] [(.long ((1074 : Int64) - ((r0.toInt64 &&& (9218868437227405312 : Int64)) >>> ((52 : Int32) &&& 0x3f).toInt64)))])) _
    rw [← hsh]
    show Steps p.tables e below ((s₁.setVm vm1).setTop (mkF m 21 #[.val (.double r0), .second, .val (.long r0.toInt64), .second, .val (.long ((r0.toInt64 &&& (9218868437227405312 : Int64)) >>> ((52 : Int32) &&& 0x3f).toInt64)), .second, .unset, .unset, .unset, .unset] [(.long sh)])) _
    refine XS.lstore X1.here hx rfl (hb hby d5_21) rfl (l' := #[.val (.double r0), .second, .val (.long r0.toInt64), .second, .val (.long ((r0.toInt64 &&& (9218868437227405312 : Int64)) >>> ((52 : Int32) &&& 0x3f).toInt64)), .second, .val (.long sh), .second, .unset, .unset]) rfl ?_
    show Steps p.tables e below ((s₁.setVm vm1).setTop (mkF m 23 #[.val (.double r0), .second, .val (.long r0.toInt64), .second, .val (.long ((r0.toInt64 &&& (9218868437227405312 : Int64)) >>> ((52 : Int32) &&& 0x3f).toInt64)), .second, .val (.long sh), .second, .unset, .unset] [])) _
    refine XS.lload X1.here hx rfl (hb hby d5_23) rfl ?_
    show Steps p.tables e below ((s₁.setVm vm1).setTop (mkF m 25 #[.val (.double r0), .second, .val (.long r0.toInt64), .second, .val (.long ((r0.toInt64 &&& (9218868437227405312 : Int64)) >>> ((52 : Int32) &&& 0x3f).toInt64)), .second, .val (.long sh), .second, .unset, .unset] [(.long sh)])) _
    refine X1.ldc2Long hx hown (mvT hZ (hw _ (List.mem_of_getElem? (i := 45) rfl))) (g := (mkF m 25 #[.val (.double r0), .second, .val (.long r0.toInt64), .second, .val (.long ((r0.toInt64 &&& (9218868437227405312 : Int64)) >>> ((52 : Int32) &&& 0x3f).toInt64)), .second, .val (.long sh), .second, .unset, .unset] [(.long sh)])) rfl (hb hby d5_25) _ ?_
    show Steps p.tables e below ((s₁.setVm vm1).setTop (mkF m 28 #[.val (.double r0), .second, .val (.long r0.toInt64), .second, .val (.long ((r0.toInt64 &&& (9218868437227405312 : Int64)) >>> ((52 : Int32) &&& 0x3f).toInt64)), .second, .val (.long sh), .second, .unset, .unset] [(.long (-64 : Int64)), (.long sh)])) _
    refine XS.land X1.here hx rfl (hb hby d5_28) rfl ?_
    show Steps p.tables e below ((s₁.setVm vm1).setTop (mkF m 29 #[.val (.double r0), .second, .val (.long r0.toInt64), .second, .val (.long ((r0.toInt64 &&& (9218868437227405312 : Int64)) >>> ((52 : Int32) &&& 0x3f).toInt64)), .second, .val (.long sh), .second, .unset, .unset] [(.long (sh &&& (-64 : Int64)))])) _
    refine XS.lconst X1.here hx rfl (hb hby d5_29) ?_
    show Steps p.tables e below ((s₁.setVm vm1).setTop (mkF m 30 #[.val (.double r0), .second, .val (.long r0.toInt64), .second, .val (.long ((r0.toInt64 &&& (9218868437227405312 : Int64)) >>> ((52 : Int32) &&& 0x3f).toInt64)), .second, .val (.long sh), .second, .unset, .unset] [(.long (0 : Int64)), (.long (sh &&& (-64 : Int64)))])) _
    refine XS.lcmp X1.here hx rfl (hb hby d5_30) rfl ?_
    show Steps p.tables e below ((s₁.setVm vm1).setTop (mkF m 31 #[.val (.double r0), .second, .val (.long r0.toInt64), .second, .val (.long ((r0.toInt64 &&& (9218868437227405312 : Int64)) >>> ((52 : Int32) &&& 0x3f).toInt64)), .second, .val (.long sh), .second, .unset, .unset] [(.int (if (sh &&& (-64 : Int64)) > (0 : Int64) then 1 else if (sh &&& (-64 : Int64)) = (0 : Int64) then 0 else -1))])) _
    refine XS.ifNo X1.here hx rfl (hb hby d5_31) rfl b31 ?_
    show Steps p.tables e below ((s₁.setVm vm1).setTop (mkF m 34 #[.val (.double r0), .second, .val (.long r0.toInt64), .second, .val (.long ((r0.toInt64 &&& (9218868437227405312 : Int64)) >>> ((52 : Int32) &&& 0x3f).toInt64)), .second, .val (.long sh), .second, .unset, .unset] [])) _
    refine XS.lloadN X1.here hx rfl (hb hby d5_34) rfl ?_
    show Steps p.tables e below ((s₁.setVm vm1).setTop (mkF m 35 #[.val (.double r0), .second, .val (.long r0.toInt64), .second, .val (.long ((r0.toInt64 &&& (9218868437227405312 : Int64)) >>> ((52 : Int32) &&& 0x3f).toInt64)), .second, .val (.long sh), .second, .unset, .unset] [(.long r0.toInt64)])) _
    refine X1.ldc2Long hx hown (mvT hZ (hw _ (List.mem_of_getElem? (i := 46) rfl))) (g := (mkF m 35 #[.val (.double r0), .second, .val (.long r0.toInt64), .second, .val (.long ((r0.toInt64 &&& (9218868437227405312 : Int64)) >>> ((52 : Int32) &&& 0x3f).toInt64)), .second, .val (.long sh), .second, .unset, .unset] [(.long r0.toInt64)])) rfl (hb hby d5_35) _ ?_
    show Steps p.tables e below ((s₁.setVm vm1).setTop (mkF m 38 #[.val (.double r0), .second, .val (.long r0.toInt64), .second, .val (.long ((r0.toInt64 &&& (9218868437227405312 : Int64)) >>> ((52 : Int32) &&& 0x3f).toInt64)), .second, .val (.long sh), .second, .unset, .unset] [(.long (4503599627370495 : Int64)), (.long r0.toInt64)])) _
    refine XS.land X1.here hx rfl (hb hby d5_38) rfl ?_
    show Steps p.tables e below ((s₁.setVm vm1).setTop (mkF m 39 #[.val (.double r0), .second, .val (.long r0.toInt64), .second, .val (.long ((r0.toInt64 &&& (9218868437227405312 : Int64)) >>> ((52 : Int32) &&& 0x3f).toInt64)), .second, .val (.long sh), .second, .unset, .unset] [(.long (r0.toInt64 &&& (4503599627370495 : Int64)))])) _
    refine X1.ldc2Long hx hown (mvT hZ (hw _ (List.mem_of_getElem? (i := 47) rfl))) (g := (mkF m 39 #[.val (.double r0), .second, .val (.long r0.toInt64), .second, .val (.long ((r0.toInt64 &&& (9218868437227405312 : Int64)) >>> ((52 : Int32) &&& 0x3f).toInt64)), .second, .val (.long sh), .second, .unset, .unset] [(.long (r0.toInt64 &&& (4503599627370495 : Int64)))])) rfl (hb hby d5_39) _ ?_
    show Steps p.tables e below ((s₁.setVm vm1).setTop (mkF m 42 #[.val (.double r0), .second, .val (.long r0.toInt64), .second, .val (.long ((r0.toInt64 &&& (9218868437227405312 : Int64)) >>> ((52 : Int32) &&& 0x3f).toInt64)), .second, .val (.long sh), .second, .unset, .unset] [(.long (4503599627370496 : Int64)), (.long (r0.toInt64 &&& (4503599627370495 : Int64)))])) _
    refine XS.lor X1.here hx rfl (hb hby d5_42) rfl ?_
    show Steps p.tables e below ((s₁.setVm vm1).setTop (mkF m 43 #[.val (.double r0), .second, .val (.long r0.toInt64), .second, .val (.long ((r0.toInt64 &&& (9218868437227405312 : Int64)) >>> ((52 : Int32) &&& 0x3f).toInt64)), .second, .val (.long sh), .second, .unset, .unset] [(.long ((r0.toInt64 &&& (4503599627370495 : Int64)) ||| (4503599627370496 : Int64)))])) _
    refine XS.lstore X1.here hx rfl (hb hby d5_43) rfl (l' := #[.val (.double r0), .second, .val (.long r0.toInt64), .second, .val (.long ((r0.toInt64 &&& (9218868437227405312 : Int64)) >>> ((52 : Int32) &&& 0x3f).toInt64)), .second, .val (.long sh), .second, .val (.long ((r0.toInt64 &&& (4503599627370495 : Int64)) ||| (4503599627370496 : Int64))), .second]) rfl ?_
    show Steps p.tables e below ((s₁.setVm vm1).setTop (mkF m 45 #[.val (.double r0), .second, .val (.long r0.toInt64), .second, .val (.long ((r0.toInt64 &&& (9218868437227405312 : Int64)) >>> ((52 : Int32) &&& 0x3f).toInt64)), .second, .val (.long sh), .second, .val (.long ((r0.toInt64 &&& (4503599627370495 : Int64)) ||| (4503599627370496 : Int64))), .second] [])) _
    refine XS.lloadN X1.here hx rfl (hb hby d5_45) rfl ?_
    show Steps p.tables e below ((s₁.setVm vm1).setTop (mkF m 46 #[.val (.double r0), .second, .val (.long r0.toInt64), .second, .val (.long ((r0.toInt64 &&& (9218868437227405312 : Int64)) >>> ((52 : Int32) &&& 0x3f).toInt64)), .second, .val (.long sh), .second, .val (.long ((r0.toInt64 &&& (4503599627370495 : Int64)) ||| (4503599627370496 : Int64))), .second] [(.long r0.toInt64)])) _
    refine XS.lconst X1.here hx rfl (hb hby d5_46) ?_
    show Steps p.tables e below ((s₁.setVm vm1).setTop (mkF m 47 #[.val (.double r0), .second, .val (.long r0.toInt64), .second, .val (.long ((r0.toInt64 &&& (9218868437227405312 : Int64)) >>> ((52 : Int32) &&& 0x3f).toInt64)), .second, .val (.long sh), .second, .val (.long ((r0.toInt64 &&& (4503599627370495 : Int64)) ||| (4503599627370496 : Int64))), .second] [(.long (0 : Int64)), (.long r0.toInt64)])) _
    refine XS.lcmp X1.here hx rfl (hb hby d5_47) rfl ?_
    show Steps p.tables e below ((s₁.setVm vm1).setTop (mkF m 48 #[.val (.double r0), .second, .val (.long r0.toInt64), .second, .val (.long ((r0.toInt64 &&& (9218868437227405312 : Int64)) >>> ((52 : Int32) &&& 0x3f).toInt64)), .second, .val (.long sh), .second, .val (.long ((r0.toInt64 &&& (4503599627370495 : Int64)) ||| (4503599627370496 : Int64))), .second] [(.int (if r0.toInt64 > (0 : Int64) then 1 else if r0.toInt64 = (0 : Int64) then 0 else -1))])) _
    refine XS.ifNo X1.here hx rfl (hb hby d5_48) rfl b48 ?_
    show Steps p.tables e below ((s₁.setVm vm1).setTop (mkF m 51 #[.val (.double r0), .second, .val (.long r0.toInt64), .second, .val (.long ((r0.toInt64 &&& (9218868437227405312 : Int64)) >>> ((52 : Int32) &&& 0x3f).toInt64)), .second, .val (.long sh), .second, .val (.long ((r0.toInt64 &&& (4503599627370495 : Int64)) ||| (4503599627370496 : Int64))), .second] [])) _
    refine XS.lload X1.here hx rfl (hb hby d5_51) rfl ?_
    show Steps p.tables e below ((s₁.setVm vm1).setTop (mkF m 53 #[.val (.double r0), .second, .val (.long r0.toInt64), .second, .val (.long ((r0.toInt64 &&& (9218868437227405312 : Int64)) >>> ((52 : Int32) &&& 0x3f).toInt64)), .second, .val (.long sh), .second, .val (.long ((r0.toInt64 &&& (4503599627370495 : Int64)) ||| (4503599627370496 : Int64))), .second] [(.long ((r0.toInt64 &&& (4503599627370495 : Int64)) ||| (4503599627370496 : Int64)))])) _
    refine XS.lneg X1.here hx rfl (hb hby d5_53) rfl ?_
    show Steps p.tables e below ((s₁.setVm vm1).setTop (mkF m 54 #[.val (.double r0), .second, .val (.long r0.toInt64), .second, .val (.long ((r0.toInt64 &&& (9218868437227405312 : Int64)) >>> ((52 : Int32) &&& 0x3f).toInt64)), .second, .val (.long sh), .second, .val (.long ((r0.toInt64 &&& (4503599627370495 : Int64)) ||| (4503599627370496 : Int64))), .second] [(.long (-((r0.toInt64 &&& (4503599627370495 : Int64)) ||| (4503599627370496 : Int64))))])) _
    refine XS.lstore X1.here hx rfl (hb hby d5_54) rfl (l' := #[.val (.double r0), .second, .val (.long r0.toInt64), .second, .val (.long ((r0.toInt64 &&& (9218868437227405312 : Int64)) >>> ((52 : Int32) &&& 0x3f).toInt64)), .second, .val (.long sh), .second, .val (.long (-((r0.toInt64 &&& (4503599627370495 : Int64)) ||| (4503599627370496 : Int64)))), .second]) rfl ?_
    show Steps p.tables e below ((s₁.setVm vm1).setTop (mkF m 56 #[.val (.double r0), .second, .val (.long r0.toInt64), .second, .val (.long ((r0.toInt64 &&& (9218868437227405312 : Int64)) >>> ((52 : Int32) &&& 0x3f).toInt64)), .second, .val (.long sh), .second, .val (.long (-((r0.toInt64 &&& (4503599627370495 : Int64)) ||| (4503599627370496 : Int64)))), .second] [])) _
    refine XS.lload X1.here hx rfl (hb hby d5_56) rfl ?_
    show Steps p.tables e below ((s₁.setVm vm1).setTop (mkF m 58 #[.val (.double r0), .second, .val (.long r0.toInt64), .second, .val (.long ((r0.toInt64 &&& (9218868437227405312 : Int64)) >>> ((52 : Int32) &&& 0x3f).toInt64)), .second, .val (.long sh), .second, .val (.long (-((r0.toInt64 &&& (4503599627370495 : Int64)) ||| (4503599627370496 : Int64)))), .second] [(.long (-((r0.toInt64 &&& (4503599627370495 : Int64)) ||| (4503599627370496 : Int64))))])) _
    refine XS.lload X1.here hx rfl (hb hby d5_58) rfl ?_
    show Steps p.tables e below ((s₁.setVm vm1).setTop (mkF m 60 #[.val (.double r0), .second, .val (.long r0.toInt64), .second, .val (.long ((r0.toInt64 &&& (9218868437227405312 : Int64)) >>> ((52 : Int32) &&& 0x3f).toInt64)), .second, .val (.long sh), .second, .val (.long (-((r0.toInt64 &&& (4503599627370495 : Int64)) ||| (4503599627370496 : Int64)))), .second] [(.long sh), (.long (-((r0.toInt64 &&& (4503599627370495 : Int64)) ||| (4503599627370496 : Int64))))])) _
    refine XS.l2i X1.here hx rfl (hb hby d5_60) rfl ?_
    show Steps p.tables e below ((s₁.setVm vm1).setTop (mkF m 61 #[.val (.double r0), .second, .val (.long r0.toInt64), .second, .val (.long ((r0.toInt64 &&& (9218868437227405312 : Int64)) >>> ((52 : Int32) &&& 0x3f).toInt64)), .second, .val (.long sh), .second, .val (.long (-((r0.toInt64 &&& (4503599627370495 : Int64)) ||| (4503599627370496 : Int64)))), .second] [(.int sh.toInt32), (.long (-((r0.toInt64 &&& (4503599627370495 : Int64)) ||| (4503599627370496 : Int64))))])) _
    refine XS.lshr X1.here hx rfl (hb hby d5_61) rfl ?_
    show Steps p.tables e below ((s₁.setVm vm1).setTop (mkF m 62 #[.val (.double r0), .second, .val (.long r0.toInt64), .second, .val (.long ((r0.toInt64 &&& (9218868437227405312 : Int64)) >>> ((52 : Int32) &&& 0x3f).toInt64)), .second, .val (.long sh), .second, .val (.long (-((r0.toInt64 &&& (4503599627370495 : Int64)) ||| (4503599627370496 : Int64)))), .second] [(.long ((-((r0.toInt64 &&& (4503599627370495 : Int64)) ||| (4503599627370496 : Int64))) >>> (sh.toInt32 &&& 0x3f).toInt64))])) _
    refine XS.lconst X1.here hx rfl (hb hby d5_62) ?_
    show Steps p.tables e below ((s₁.setVm vm1).setTop (mkF m 63 #[.val (.double r0), .second, .val (.long r0.toInt64), .second, .val (.long ((r0.toInt64 &&& (9218868437227405312 : Int64)) >>> ((52 : Int32) &&& 0x3f).toInt64)), .second, .val (.long sh), .second, .val (.long (-((r0.toInt64 &&& (4503599627370495 : Int64)) ||| (4503599627370496 : Int64)))), .second] [(.long (1 : Int64)), (.long ((-((r0.toInt64 &&& (4503599627370495 : Int64)) ||| (4503599627370496 : Int64))) >>> (sh.toInt32 &&& 0x3f).toInt64))])) _
    refine XS.ladd X1.here hx rfl (hb hby d5_63) rfl ?_
    show Steps p.tables e below ((s₁.setVm vm1).setTop (mkF m 64 #[.val (.double r0), .second, .val (.long r0.toInt64), .second, .val (.long ((r0.toInt64 &&& (9218868437227405312 : Int64)) >>> ((52 : Int32) &&& 0x3f).toInt64)), .second, .val (.long sh), .second, .val (.long (-((r0.toInt64 &&& (4503599627370495 : Int64)) ||| (4503599627370496 : Int64)))), .second] [(.long (((-((r0.toInt64 &&& (4503599627370495 : Int64)) ||| (4503599627370496 : Int64))) >>> (sh.toInt32 &&& 0x3f).toInt64) + (1 : Int64)))])) _
    refine XS.iconst X1.here hx rfl (hb hby d5_64) ?_
    show Steps p.tables e below ((s₁.setVm vm1).setTop (mkF m 65 #[.val (.double r0), .second, .val (.long r0.toInt64), .second, .val (.long ((r0.toInt64 &&& (9218868437227405312 : Int64)) >>> ((52 : Int32) &&& 0x3f).toInt64)), .second, .val (.long sh), .second, .val (.long (-((r0.toInt64 &&& (4503599627370495 : Int64)) ||| (4503599627370496 : Int64)))), .second] [(.int (1 : Int32)), (.long (((-((r0.toInt64 &&& (4503599627370495 : Int64)) ||| (4503599627370496 : Int64))) >>> (sh.toInt32 &&& 0x3f).toInt64) + (1 : Int64)))])) _
    refine XS.lshr X1.here hx rfl (hb hby d5_65) rfl ?_
    show Steps p.tables e below ((s₁.setVm vm1).setTop (mkF m 66 #[.val (.double r0), .second, .val (.long r0.toInt64), .second, .val (.long ((r0.toInt64 &&& (9218868437227405312 : Int64)) >>> ((52 : Int32) &&& 0x3f).toInt64)), .second, .val (.long sh), .second, .val (.long (-((r0.toInt64 &&& (4503599627370495 : Int64)) ||| (4503599627370496 : Int64)))), .second] [(.long ((((-((r0.toInt64 &&& (4503599627370495 : Int64)) ||| (4503599627370496 : Int64))) >>> (sh.toInt32 &&& 0x3f).toInt64) + (1 : Int64)) >>> ((1 : Int32) &&& 0x3f).toInt64))])) _
    exact OwnF.retJ X1 hx Bd.returns (hb hby d5_66) hr
  · show QP (some (.long ((((-((r0.toInt64 &&& (4503599627370495 : Int64)) ||| (4503599627370496 : Int64))) >>> (sh.toInt32 &&& 0x3f).toInt64) + (1 : Int64)) >>> ((1 : Int32) &&& 0x3f).toInt64))) h0 n0 _ (s₁.setVm vm1).heap _
    rw [e1]
    exact ⟨rfl, N0, rfl⟩
theorem d5_67 : decode jdk_29_method_22_code 67 = .ok (.dload_n 0, 1) := by decide +kernel
theorem d5_68 : decode jdk_29_method_22_code 68 = .ok (.d2l, 1) := by decide +kernel
theorem d5_69 : decode jdk_29_method_22_code 69 = .ok (.lreturn, 1) := by decide +kernel
theorem ef_rmMd (m : MethodId) (x0 : UInt64) : entryFrame m #[(.double x0)] 10 = mkF m 0 #[.val (.double x0), .second, .unset, .unset, .unset, .unset, .unset, .unset, .unset, .unset] [] := by first | (simp [entryFrame, mkF, argsToLocals, Value.category]; done) | rfl
set_option maxRecDepth 65536 in
set_option maxHeartbeats 40000000 in
theorem rmMd (l : Launch) (Z : State) (a0 : Array Value) (hw : ∀ d ∈ tables_1, d.before a0 Z = true) (ws : List Jvm.Cond)  (r0 : UInt64) (sh : Int64) (h0 : Heap) (n0 : Nat) (Z0 : n0 ≤ h0.size) 
    (hsh : sh = ((1074 : Int64) - ((r0.toInt64 &&& (9218868437227405312 : Int64)) >>> ((52 : Int32) &&& 0x3f).toInt64)))
    (b31 : ifCond.holds .ne (if (sh &&& (-64 : Int64)) > (0 : Int64) then 1 else if (sh &&& (-64 : Int64)) = (0 : Int64) then 0 else -1) = true) :
    MetFree l (⟨"java/lang/Math", "round", "(D)J"⟩ : MethodName) (head1 (Jvm.Cond.code (⟨"java/lang/Math", "round", "(D)J"⟩ : MethodName) jdk_29_method_22_code 10 (some .long) :: ws) ({ frames := 1, cells := 0, slots := 0, locals := 40 } : Room)) (fun a U => a = #[(.double r0)] ∧ Z.Warmed39 U.vm ∧ U.heap = h0) (fun _ _ _ _ _ => True) (fun _ U o U' => ∃ v L, o = .returned v ∧ QP (some (.long (FP.d2l r0))) h0 n0 v U'.heap L ∧ FrameEnd U o U' L ({ frames := 1, cells := 0, slots := 0, locals := 40 } : Room).cells ({ frames := 1, cells := 0, slots := 0, locals := 40 } : Room).slots) := by
  refine MetFree.of_bodySF (by decide +kernel) hisR ?_
  intro p e s m args below meth c s₁ Bd hml0 hP hK
  obtain ⟨rfl, hZ, hh⟩ := hP
  have hx := Bd.exec
  have hby := Bd.bytes
  have hml : c.maxLocals = 10 := hml0
  have hown : s.vm.findClass "java/lang/Math" = some m.cls := findClass_of_methodNamed Bd.named
  have hnm := (name_of_methodNamed Bd.named Bd.method).1
  have X0 : Stand p l e ({ frames := 1, cells := 0, slots := 0, locals := 40 } : Room) s m #[(.double r0)] below meth c s₁ [] 0 0 := Stand.of_body Bd
  have e0 : s₁.heap = h0 := by rw [← hh, Bd.state]; rfl
  have N0 := Fr.nil n0
  have pre0 : ∀ t, Steps p.tables e below (s₁.setTop (mkF m 0 #[.val (.double r0), .second, .unset, .unset, .unset, .unset, .unset, .unset, .unset, .unset] [])) t → Steps p.tables e below (s₁.setTop (entryFrame m #[(.double r0)] 10)) t := fun t k => castTop (ef_rmMd m r0) k
  obtain ⟨vm1, X1, st1⟩ := X0.doubleToRawLongBits hx hown (mvT hZ (hw _ (List.mem_of_getElem? (i := 39) rfl))) (mvT hZ (hw _ (List.mem_of_getElem? (i := 42) rfl))) (mvT hZ (hw _ (List.mem_of_getElem? (i := 40) rfl))) (mvT hZ (hw _ (List.mem_of_getElem? (i := 41) rfl))) (g := (mkF m 1 #[.val (.double r0), .second, .unset, .unset, .unset, .unset, .unset, .unset, .unset, .unset] [(.double r0)])) rfl (by rw [hml]; rfl) (rest := []) (b := r0) rfl (hb hby d5_1) (by decide) (by show 2 * 0 + 0 + (nativeFrameWords "java/lang/Double" "doubleToRawLongBits" 2 + 11) ≤ 40; decide +kernel)
  have e1 : (s₁.setVm vm1).heap = h0 := e0
  obtain ⟨fs, hr, hrun, hended, hW, hsame⟩ := X1.leave (v := some (.long (FP.d2l r0))) (fun h => by rw [Bd.returns] at h; cases h)
  refine ⟨_, _, pre0 _ ?_, hrun, hended, _, _, rfl, ?_, ⟨_, rfl⟩, hW, hsame.mono (Nat.le_of_ble_eq_true rfl) (Nat.le_of_ble_eq_true rfl)⟩
  · show Steps p.tables e below (s₁.setTop (mkF m 0 #[.val (.double r0), .second, .unset, .unset, .unset, .unset, .unset, .unset, .unset, .unset] [])) _
    refine XS.dloadN X0.here hx rfl (hb hby d5_0) rfl ?_
    show Steps p.tables e below (s₁.setTop (mkF m 1 #[.val (.double r0), .second, .unset, .unset, .unset, .unset, .unset, .unset, .unset, .unset] [(.double r0)])) _
    refine st1 _ ?_
    show Steps p.tables e below ((s₁.setVm vm1).setTop (mkF m 4 #[.val (.double r0), .second, .unset, .unset, .unset, .unset, .unset, .unset, .unset, .unset] [(.long r0.toInt64)])) _
    refine XS.lstoreN X1.here hx rfl (hb hby d5_4) rfl (l' := #[.val (.double r0), .second, .val (.long r0.toInt64), .second, .unset, .unset, .unset, .unset, .unset, .unset]) rfl ?_
    show Steps p.tables e below ((s₁.setVm vm1).setTop (mkF m 5 #[.val (.double r0), .second, .val (.long r0.toInt64), .second, .unset, .unset, .unset, .unset, .unset, .unset] [])) _
    refine XS.lloadN X1.here hx rfl (hb hby d5_5) rfl ?_
    show Steps p.tables e below ((s₁.setVm vm1).setTop (mkF m 6 #[.val (.double r0), .second, .val (.long r0.toInt64), .second, .unset, .unset, .unset, .unset, .unset, .unset] [(.long r0.toInt64)])) _
    refine X1.ldc2Long hx hown (mvT hZ (hw _ (List.mem_of_getElem? (i := 43) rfl))) (g := (mkF m 6 #[.val (.double r0), .second, .val (.long r0.toInt64), .second, .unset, .unset, .unset, .unset, .unset, .unset] [(.long r0.toInt64)])) rfl (hb hby d5_6) _ ?_
    show Steps p.tables e below ((s₁.setVm vm1).setTop (mkF m 9 #[.val (.double r0), .second, .val (.long r0.toInt64), .second, .unset, .unset, .unset, .unset, .unset, .unset] [(.long (9218868437227405312 : Int64)), (.long r0.toInt64)])) _
    refine XS.land X1.here hx rfl (hb hby d5_9) rfl ?_
    show Steps p.tables e below ((s₁.setVm vm1).setTop (mkF m 10 #[.val (.double r0), .second, .val (.long r0.toInt64), .second, .unset, .unset, .unset, .unset, .unset, .unset] [(.long (r0.toInt64 &&& (9218868437227405312 : Int64)))])) _
    refine XS.bipush X1.here hx rfl (hb hby d5_10) ?_
    show Steps p.tables e below ((s₁.setVm vm1).setTop (mkF m 12 #[.val (.double r0), .second, .val (.long r0.toInt64), .second, .unset, .unset, .unset, .unset, .unset, .unset] [(.int (52 : Int32)), (.long (r0.toInt64 &&& (9218868437227405312 : Int64)))])) _
    refine XS.lshr X1.here hx rfl (hb hby d5_12) rfl ?_
    show Steps p.tables e below ((s₁.setVm vm1).setTop (mkF m 13 #[.val (.double r0), .second, .val (.long r0.toInt64), .second, .unset, .unset, .unset, .unset, .unset, .unset] [(.long ((r0.toInt64 &&& (9218868437227405312 : Int64)) >>> ((52 : Int32) &&& 0x3f).toInt64))])) _
    refine XS.lstore X1.here hx rfl (hb hby d5_13) rfl (l' := #[.val (.double r0), .second, .val (.long r0.toInt64), .second, .val (.long ((r0.toInt64 &&& (9218868437227405312 : Int64)) >>> ((52 : Int32) &&& 0x3f).toInt64)), .second, .unset, .unset, .unset, .unset]) rfl ?_
    show Steps p.tables e below ((s₁.setVm vm1).setTop (mkF m 15 #[.val (.double r0), .second, .val (.long r0.toInt64), .second, .val (.long ((r0.toInt64 &&& (9218868437227405312 : Int64)) >>> ((52 : Int32) &&& 0x3f).toInt64)), .second, .unset, .unset, .unset, .unset] [])) _
    refine X1.ldc2Long hx hown (mvT hZ (hw _ (List.mem_of_getElem? (i := 44) rfl))) (g := (mkF m 15 #[.val (.double r0), .second, .val (.long r0.toInt64), .second, .val (.long ((r0.toInt64 &&& (9218868437227405312 : Int64)) >>> ((52 : Int32) &&& 0x3f).toInt64)), .second, .unset, .unset, .unset, .unset] [])) rfl (hb hby d5_15) _ ?_
    show Steps p.tables e below ((s₁.setVm vm1).setTop (mkF m 18 #[.val (.double r0), .second, .val (.long r0.toInt64), .second, .val (.long ((r0.toInt64 &&& (9218868437227405312 : Int64)) >>> ((52 : Int32) &&& 0x3f).toInt64)), .second, .unset, .unset, .unset, .unset] [(.long (1074 : Int64))])) _
    refine XS.lload X1.here hx rfl (hb hby d5_18) rfl ?_
    show Steps p.tables e below ((s₁.setVm vm1).setTop (mkF m 20 #[.val (.double r0), .second, .val (.long r0.toInt64), .second, .val (.long ((r0.toInt64 &&& (9218868437227405312 : Int64)) >>> ((52 : Int32) &&& 0x3f).toInt64)), .second, .unset, .unset, .unset, .unset] [(.long ((r0.toInt64 &&& (9218868437227405312 : Int64)) >>> ((52 : Int32) &&& 0x3f).toInt64)), (.long (1074 : Int64))])) _
    refine XS.lsub X1.here hx rfl (hb hby d5_20) rfl ?_
    show Steps p.tables e below ((s₁.setVm vm1).setTop (mkF m 21 #[.val (.double r0), .second, .val (.long r0.toInt64), .second, .val (.long ((r0.toInt64 &&& (9218868437227405312 : Int64)) >>> ((52 : Int32) &&& 0x3f).toInt64)), .second, .unset, .unset, .unset, .unset] [(.long ((1074 : Int64) - ((r0.toInt64 &&& (9218868437227405312 : Int64)) >>> ((52 : Int32) &&& 0x3f).toInt64)))])) _
    rw [← hsh]
    show Steps p.tables e below ((s₁.setVm vm1).setTop (mkF m 21 #[.val (.double r0), .second, .val (.long r0.toInt64), .second, .val (.long ((r0.toInt64 &&& (9218868437227405312 : Int64)) >>> ((52 : Int32) &&& 0x3f).toInt64)), .second, .unset, .unset, .unset, .unset] [(.long sh)])) _
    refine XS.lstore X1.here hx rfl (hb hby d5_21) rfl (l' := #[.val (.double r0), .second, .val (.long r0.toInt64), .second, .val (.long ((r0.toInt64 &&& (9218868437227405312 : Int64)) >>> ((52 : Int32) &&& 0x3f).toInt64)), .second, .val (.long sh), .second, .unset, .unset]) rfl ?_
    show Steps p.tables e below ((s₁.setVm vm1).setTop (mkF m 23 #[.val (.double r0), .second, .val (.long r0.toInt64), .second, .val (.long ((r0.toInt64 &&& (9218868437227405312 : Int64)) >>> ((52 : Int32) &&& 0x3f).toInt64)), .second, .val (.long sh), .second, .unset, .unset] [])) _
    refine XS.lload X1.here hx rfl (hb hby d5_23) rfl ?_
    show Steps p.tables e below ((s₁.setVm vm1).setTop (mkF m 25 #[.val (.double r0), .second, .val (.long r0.toInt64), .second, .val (.long ((r0.toInt64 &&& (9218868437227405312 : Int64)) >>> ((52 : Int32) &&& 0x3f).toInt64)), .second, .val (.long sh), .second, .unset, .unset] [(.long sh)])) _
    refine X1.ldc2Long hx hown (mvT hZ (hw _ (List.mem_of_getElem? (i := 45) rfl))) (g := (mkF m 25 #[.val (.double r0), .second, .val (.long r0.toInt64), .second, .val (.long ((r0.toInt64 &&& (9218868437227405312 : Int64)) >>> ((52 : Int32) &&& 0x3f).toInt64)), .second, .val (.long sh), .second, .unset, .unset] [(.long sh)])) rfl (hb hby d5_25) _ ?_
    show Steps p.tables e below ((s₁.setVm vm1).setTop (mkF m 28 #[.val (.double r0), .second, .val (.long r0.toInt64), .second, .val (.long ((r0.toInt64 &&& (9218868437227405312 : Int64)) >>> ((52 : Int32) &&& 0x3f).toInt64)), .second, .val (.long sh), .second, .unset, .unset] [(.long (-64 : Int64)), (.long sh)])) _
    refine XS.land X1.here hx rfl (hb hby d5_28) rfl ?_
    show Steps p.tables e below ((s₁.setVm vm1).setTop (mkF m 29 #[.val (.double r0), .second, .val (.long r0.toInt64), .second, .val (.long ((r0.toInt64 &&& (9218868437227405312 : Int64)) >>> ((52 : Int32) &&& 0x3f).toInt64)), .second, .val (.long sh), .second, .unset, .unset] [(.long (sh &&& (-64 : Int64)))])) _
    refine XS.lconst X1.here hx rfl (hb hby d5_29) ?_
    show Steps p.tables e below ((s₁.setVm vm1).setTop (mkF m 30 #[.val (.double r0), .second, .val (.long r0.toInt64), .second, .val (.long ((r0.toInt64 &&& (9218868437227405312 : Int64)) >>> ((52 : Int32) &&& 0x3f).toInt64)), .second, .val (.long sh), .second, .unset, .unset] [(.long (0 : Int64)), (.long (sh &&& (-64 : Int64)))])) _
    refine XS.lcmp X1.here hx rfl (hb hby d5_30) rfl ?_
    show Steps p.tables e below ((s₁.setVm vm1).setTop (mkF m 31 #[.val (.double r0), .second, .val (.long r0.toInt64), .second, .val (.long ((r0.toInt64 &&& (9218868437227405312 : Int64)) >>> ((52 : Int32) &&& 0x3f).toInt64)), .second, .val (.long sh), .second, .unset, .unset] [(.int (if (sh &&& (-64 : Int64)) > (0 : Int64) then 1 else if (sh &&& (-64 : Int64)) = (0 : Int64) then 0 else -1))])) _
    refine XS.ifYes X1.here hx rfl (pc0 := 31) (pc' := 67) rfl (hb hby d5_31) rfl b31 (by decide) (by decide) ?_
    show Steps p.tables e below ((s₁.setVm vm1).setTop (mkF m 67 #[.val (.double r0), .second, .val (.long r0.toInt64), .second, .val (.long ((r0.toInt64 &&& (9218868437227405312 : Int64)) >>> ((52 : Int32) &&& 0x3f).toInt64)), .second, .val (.long sh), .second, .unset, .unset] [])) _
    refine XS.dloadN X1.here hx rfl (hb hby d5_67) rfl ?_
    show Steps p.tables e below ((s₁.setVm vm1).setTop (mkF m 68 #[.val (.double r0), .second, .val (.long r0.toInt64), .second, .val (.long ((r0.toInt64 &&& (9218868437227405312 : Int64)) >>> ((52 : Int32) &&& 0x3f).toInt64)), .second, .val (.long sh), .second, .unset, .unset] [(.double r0)])) _
    refine XS.d2lS X1.here hx rfl (hb hby d5_68) rfl rfl ?_
    show Steps p.tables e below ((s₁.setVm vm1).setTop (mkF m 69 #[.val (.double r0), .second, .val (.long r0.toInt64), .second, .val (.long ((r0.toInt64 &&& (9218868437227405312 : Int64)) >>> ((52 : Int32) &&& 0x3f).toInt64)), .second, .val (.long sh), .second, .unset, .unset] [(.long (FP.d2l r0))])) _
    exact OwnF.retJ X1 hx Bd.returns (hb hby d5_69) hr
  · show QP (some (.long (FP.d2l r0))) h0 n0 _ (s₁.setVm vm1).heap _
    rw [e1]
    exact ⟨rfl, N0, rfl⟩
def own_sh (r0 : UInt64) : Int64 := ((1074 : Int64) - ((r0.toInt64 &&& (9218868437227405312 : Int64)) >>> ((52 : Int32) &&& 0x3f).toInt64))
def own_round (r0 : UInt64) : Int64 := if ifCond.holds .ne (if ((own_sh r0) &&& (-64 : Int64)) > (0 : Int64) then 1 else if ((own_sh r0) &&& (-64 : Int64)) = (0 : Int64) then 0 else -1) = true then (FP.d2l r0) else if ifCond.holds .ge (if r0.toInt64 > (0 : Int64) then 1 else if r0.toInt64 = (0 : Int64) then 0 else -1) = true then (((((r0.toInt64 &&& (4503599627370495 : Int64)) ||| (4503599627370496 : Int64)) >>> ((own_sh r0).toInt32 &&& 0x3f).toInt64) + (1 : Int64)) >>> ((1 : Int32) &&& 0x3f).toInt64) else ((((-((r0.toInt64 &&& (4503599627370495 : Int64)) ||| (4503599627370496 : Int64))) >>> ((own_sh r0).toInt32 &&& 0x3f).toInt64) + (1 : Int64)) >>> ((1 : Int32) &&& 0x3f).toInt64)
theorem rmM (l : Launch) (Z : State) (a0 : Array Value) (hw : ∀ d ∈ tables_1, d.before a0 Z = true) (ws : List Jvm.Cond) (r0 : UInt64) (h0 : Heap) (n0 : Nat) (Z0 : n0 ≤ h0.size) :
    MetFree l (⟨"java/lang/Math", "round", "(D)J"⟩ : MethodName) (head1 (Jvm.Cond.code (⟨"java/lang/Math", "round", "(D)J"⟩ : MethodName) jdk_29_method_22_code 10 (some .long) :: ws) ({ frames := 1, cells := 0, slots := 0, locals := 40 } : Room)) (fun a U => a = #[(.double r0)] ∧ Z.Warmed39 U.vm ∧ U.heap = h0) (fun _ _ _ _ _ => True) (fun _ U o U' => ∃ v L, o = .returned v ∧ QP (some (.long (own_round r0))) h0 n0 v U'.heap L ∧ FrameEnd U o U' L ({ frames := 1, cells := 0, slots := 0, locals := 40 } : Room).cells ({ frames := 1, cells := 0, slots := 0, locals := 40 } : Room).slots) := by
  unfold own_round
  by_cases h1 : ifCond.holds .ne (if ((own_sh r0) &&& (-64 : Int64)) > (0 : Int64) then 1 else if ((own_sh r0) &&& (-64 : Int64)) = (0 : Int64) then 0 else -1) = true
  · rw [if_pos h1]; exact rmMd l Z a0 hw ws r0 (own_sh r0) h0 n0 Z0 rfl h1
  · rw [if_neg h1]
    have h1' := Bool.eq_false_iff.mpr h1
    by_cases h2 : ifCond.holds .ge (if r0.toInt64 > (0 : Int64) then 1 else if r0.toInt64 = (0 : Int64) then 0 else -1) = true
    · rw [if_pos h2]; exact rmMp l Z a0 hw ws r0 (own_sh r0) h0 n0 Z0 rfl h1' h2
    · rw [if_neg h2]; exact rmMn l Z a0 hw ws r0 (own_sh r0) h0 n0 Z0 rfl h1' (Bool.eq_false_iff.mpr h2)
theorem d4_0 : decode prog_8_method_2_code 0 = .ok (.aload_n 0, 1) := by decide +kernel
theorem d4_1 : decode prog_8_method_2_code 1 = .ok (.getfield 13, 3) := by decide +kernel
theorem d4_4 : decode prog_8_method_2_code 4 = .ok (.ldc2_w 17, 3) := by decide +kernel
theorem d4_7 : decode prog_8_method_2_code 7 = .ok (.dmul, 1) := by decide +kernel
theorem pd_1 : parseMethodDescriptor "(D)J" = some ⟨[.double], some .long⟩ := by decide +kernel
theorem d4_8 : decode prog_8_method_2_code 8 = .ok (.invokestatic 19, 3) := by decide +kernel
theorem d4_11 : decode prog_8_method_2_code 11 = .ok (.l2d, 1) := by decide +kernel
theorem d4_12 : decode prog_8_method_2_code 12 = .ok (.ldc2_w 17, 3) := by decide +kernel
theorem d4_15 : decode prog_8_method_2_code 15 = .ok (.ddiv, 1) := by decide +kernel
theorem d4_16 : decode prog_8_method_2_code 16 = .ok (.dreturn, 1) := by decide +kernel
def own_rs (r2 : UInt64) : UInt64 := (FP.ddiv (FP.l2d (own_round (FP.dmul r2 (4696837146684686336 : UInt64)))) (4696837146684686336 : UInt64))
theorem ef_rmS (m : MethodId) (x0 : Addr) : entryFrame m #[(.ref x0)] 1 = mkF m 0 #[.val (.ref x0)] [] := by first | (simp [entryFrame, mkF, argsToLocals, Value.category]; done) | rfl
set_option maxRecDepth 65536 in
set_option maxHeartbeats 40000000 in
theorem rmS (l : Launch) (Z : State) (a0 : Array Value) (hw : ∀ d ∈ tables_1, d.before a0 Z = true) (ws : List Jvm.Cond) (r2 : UInt64) (ob : Addr) (h0 : Heap) (n0 : Nat) (Z0 : n0 ≤ h0.size) (F2 : Fld Z h0 ob "com/example/ample_prior/ampleprior/ScoredDocument" "score" "D" (.double r2))
    (n7 : NoNaN64 (FP.dmul r2 (4696837146684686336 : UInt64)))
    (n15 : NoNaN64 (FP.ddiv (FP.l2d (own_round (FP.dmul r2 (4696837146684686336 : UInt64)))) (4696837146684686336 : UInt64))) :
    MetFree l (⟨"com/example/ample_prior/ampleprior/ScoredDocument", "roundedScore", "()D"⟩ : MethodName) (head1 (Jvm.Cond.code (⟨"com/example/ample_prior/ampleprior/ScoredDocument", "roundedScore", "()D"⟩ : MethodName) prog_8_method_2_code 1 (some .double) :: ws) ({ frames := 2, cells := 0, slots := 0, locals := 61 } : Room)) (fun a U => a = #[(.ref ob)] ∧ Z.Warmed39 U.vm ∧ U.heap = h0) (fun _ _ _ _ _ => True) (fun _ U o U' => ∃ v L, o = .returned v ∧ QP (some (.double (own_rs r2))) h0 n0 v U'.heap L ∧ FrameEnd U o U' L ({ frames := 2, cells := 0, slots := 0, locals := 61 } : Room).cells ({ frames := 2, cells := 0, slots := 0, locals := 61 } : Room).slots) := by
  refine MetFree.of_bodySF (plainFor_of_name pn_1) hisR ?_
  intro p e s m args below meth c s₁ Bd hml0 hP hK
  obtain ⟨rfl, hZ, hh⟩ := hP
  have hx := Bd.exec
  have hby := Bd.bytes
  have hml : c.maxLocals = 1 := hml0
  have hown : s.vm.findClass "com/example/ample_prior/ampleprior/ScoredDocument" = some m.cls := findClass_of_methodNamed Bd.named
  have hnm := (name_of_methodNamed Bd.named Bd.method).1
  have X0 : Stand p l e ({ frames := 2, cells := 0, slots := 0, locals := 61 } : Room) s m #[(.ref ob)] below meth c s₁ [] 0 0 := Stand.of_body Bd
  have e0 : s₁.heap = h0 := by rw [← hh, Bd.state]; rfl
  have N0 := Fr.nil n0
  have pre0 : ∀ t, Steps p.tables e below (s₁.setTop (mkF m 0 #[.val (.ref ob)] [])) t → Steps p.tables e below (s₁.setTop (entryFrame m #[(.ref ob)] 1)) t := fun t k => castTop (ef_rmS m ob) k
  obtain ⟨T1, X1, e1, st1⟩ := getF X0 hx hZ hown (host := "") (Or.inl (hw _ (List.mem_of_getElem? (i := 25) rfl))) Via.refl e0 F2 (g := (mkF m 1 #[.val (.ref ob)] [(.ref ob)])) rfl rfl (hb hby d4_1)
  obtain ⟨_, _, ⟨T2, L2, k2, n2⟩, -, X2, ⟨Lc2, hQ2, l2, y2, z2⟩, st2⟩ := Jvm.LawKit.callS X1 hx (y := (⟨"java/lang/Math", "round", "(D)J"⟩ : MethodName)) hown (mvT hZ (hw _ (List.mem_of_getElem? (i := 35) rfl))) (mvT hZ (hw _ (List.mem_of_getElem? (i := 36) rfl))) (mvT hZ (hw _ (List.mem_of_getElem? (i := 37) rfl))) (mvT hZ (hw _ (List.mem_of_getElem? (i := 38) rfl))) (by decide) (backOf (W := 0) (rmM l Z a0 hw [] (FP.dmul r2 (4696837146684686336 : UInt64)) h0 n0 Z0) hZ (hw _ (List.mem_of_getElem? (i := 38) rfl)) (hw _ (List.mem_of_getElem? (i := 37) rfl)) (by decide) (by decide)) (g := (mkF m 8 #[.val (.ref ob)] [(.double (FP.dmul r2 (4696837146684686336 : UInt64)))])) rfl (by rw [hml]; rfl) (argsL := [(.double (FP.dmul r2 (4696837146684686336 : UInt64)))]) (rest := []) (lenOf pd_1 rfl) rfl (by show 2 * 0 + _ ≤ _; exact Nat.le_of_eq rfl) (hb hby d4_8) (fun _ _ => ⟨rfl, e1, (by decide : 0 + 0 ≤ _), (by decide : 0 + 0 ≤ _)⟩)
  dsimp only [Pt.U, Pt.locs, Pt.cells, Pt.slots] at X2 l2 y2 z2 st2 hQ2
  subst l2 y2 z2
  obtain ⟨rfl, N2a, e2⟩ := hQ2
  have N2 := Fr.app N0 N2a
  obtain ⟨fs, hr, hrun, hended, hW, hsame⟩ := X2.leave (v := some (.double (FP.ddiv (FP.l2d (own_round (FP.dmul r2 (4696837146684686336 : UInt64)))) (4696837146684686336 : UInt64)))) (fun h => by rw [Bd.returns] at h; cases h)
  refine ⟨_, _, pre0 _ ?_, hrun, hended, _, _, rfl, ?_, ⟨_, rfl⟩, hW, hsame.mono (Nat.le_of_ble_eq_true rfl) (Nat.le_of_ble_eq_true rfl)⟩
  · show Steps p.tables e below (s₁.setTop (mkF m 0 #[.val (.ref ob)] [])) _
    refine XS.aloadN X0.here hx rfl (hb hby d4_0) rfl rfl ?_
    show Steps p.tables e below (s₁.setTop (mkF m 1 #[.val (.ref ob)] [(.ref ob)])) _
    refine st1 _ ?_
    show Steps p.tables e below (T1.setTop (mkF m 4 #[.val (.ref ob)] [(.double r2)])) _
    refine X1.ldc2DoubleC hx hown (mvT hZ (hw _ (List.mem_of_getElem? (i := 34) rfl))) (g := (mkF m 4 #[.val (.ref ob)] [(.double r2)])) rfl (hb hby d4_4) _ ?_
    show Steps p.tables e below (T1.setTop (mkF m 7 #[.val (.ref ob)] [(.double (4696837146684686336 : UInt64)), (.double r2)])) _
    refine XS.dmulS X1.here hx rfl (hb hby d4_7) rfl n7 rfl ?_
    show Steps p.tables e below (T1.setTop (mkF m 8 #[.val (.ref ob)] [(.double (FP.dmul r2 (4696837146684686336 : UInt64)))])) _
    refine st2 _ ?_
    show Steps p.tables e below (T2.setTop (mkF m 11 #[.val (.ref ob)] [(.long (own_round (FP.dmul r2 (4696837146684686336 : UInt64))))])) _
    refine XS.l2dS X2.here hx rfl (hb hby d4_11) rfl rfl ?_
    show Steps p.tables e below (T2.setTop (mkF m 12 #[.val (.ref ob)] [(.double (FP.l2d (own_round (FP.dmul r2 (4696837146684686336 : UInt64)))))])) _
    refine X2.ldc2DoubleC hx hown (mvT hZ (hw _ (List.mem_of_getElem? (i := 34) rfl))) (g := (mkF m 12 #[.val (.ref ob)] [(.double (FP.l2d (own_round (FP.dmul r2 (4696837146684686336 : UInt64)))))])) rfl (hb hby d4_12) _ ?_
    show Steps p.tables e below (T2.setTop (mkF m 15 #[.val (.ref ob)] [(.double (4696837146684686336 : UInt64)), (.double (FP.l2d (own_round (FP.dmul r2 (4696837146684686336 : UInt64)))))])) _
    refine XS.ddivS X2.here hx rfl (hb hby d4_15) rfl n15 rfl ?_
    show Steps p.tables e below (T2.setTop (mkF m 16 #[.val (.ref ob)] [(.double (FP.ddiv (FP.l2d (own_round (FP.dmul r2 (4696837146684686336 : UInt64)))) (4696837146684686336 : UInt64)))])) _
    exact OwnF.retD X2 hx Bd.returns (hb hby d4_16) hr
  · show QP (some (.double (own_rs r2))) h0 n0 _ T2.heap _
    rw [e2]
    exact ⟨rfl, N2, rfl⟩
theorem pd_2 : parseMethodDescriptor "(Ljava/lang/String;D)V" = some ⟨[(.object "java/lang/String"), .double], none⟩ := by decide +kernel
theorem pd_3 : parseMethodDescriptor "()D" = some ⟨[], some .double⟩ := by decide +kernel
theorem pn_2 : plainName "com/example/ample_prior/ampleprior/ScoredDocumentRoundedScorePinLaw" = true := by first | (simp [plainName, overriddenIn]; done) | decide +kernel
theorem ef_rm0a (m : MethodId) (x0 : Int64) (x1 : Int32) : entryFrame m #[(.long x0), (.int x1)] maxLocals = mkF m 0 #[.val (.long x0), .second, .val (.int x1), .unset, .unset, .unset, .unset, .unset, .unset, .unset, .unset, .unset, .unset, .unset, .unset] [] := by first | (simp [entryFrame, mkF, argsToLocals, Value.category, maxLocals]; done) | rfl
set_option maxRecDepth 65536 in
set_option maxHeartbeats 40000000 in
theorem rm0a (l : Launch) (Z : State) (a0 : Array Value) (hw : ∀ d ∈ tables_1, d.before a0 Z = true) (ws : List Jvm.Cond)  (q0 : Int64) (p1 : Int32) (av : Int64) (sv : Int32) (sc : UInt64) (mv0 : Int64) (h0 : Heap) (n0 : Nat) (Z0 : n0 ≤ h0.size) 
    (hav : av = (q0 >>> ((25 : Int32) &&& 0x3f).toInt64))
    (hsv : sv = ((p1 &&& (2147483647 : Int32)) - ((p1 &&& (2147483647 : Int32)) / (60 : Int32)) * (60 : Int32)))
    (n21 : NoNaN64 (FP.ddiv (FP.l2d av) (FP.l2d ((1 : Int64) <<< (sv &&& 0x3f).toInt64))))
    (hsc : sc = (FP.ddiv (FP.l2d av) (FP.l2d ((1 : Int64) <<< (sv &&& 0x3f).toInt64))))
    (b48 : if_icmp.holds .gt sv (6 : Int32) = false)
    (hmv : mv0 = ((av * (15625 : Int64)) <<< (((6 : Int32) - sv) &&& 0x3f).toInt64))
    (n88 : NoNaN64 (FP.ddiv (FP.l2d mv0) (4696837146684686336 : UInt64)))
    (c_n7 : NoNaN64 (FP.dmul sc (4696837146684686336 : UInt64)))
    (c_n15 : NoNaN64 (FP.ddiv (FP.l2d (own_round (FP.dmul sc (4696837146684686336 : UInt64)))) (4696837146684686336 : UInt64)))
    (b99 : ifCond.holds .ne (FP.cmpInt (-1) (FP.dcmp (own_rs sc) (FP.ddiv (FP.l2d mv0) (4696837146684686336 : UInt64)))) = false) :
    MetFree l x (head1 (Jvm.Cond.code x code maxLocals ret :: ws) room_1) (fun a U => a = #[(.long q0), (.int p1)] ∧ Z.Warmed39 U.vm ∧ U.heap = h0) (fun _ _ _ _ _ => True) (fun _ U o U' => ∃ v L, o = .returned v ∧ QL n0 v U'.heap L ∧ ReturnedEndW U o U' L 3 10) := by
  refine MetFree.of_bodySF (plainFor_of_name pn_2) hisR ?_
  intro p e s m args below meth c s₁ Bd hml0 hP hK
  obtain ⟨rfl, hZ, hh⟩ := hP
  have hx := Bd.exec
  have hby := Bd.bytes
  have hml : c.maxLocals = 15 := hml0
  have hown : s.vm.findClass "com/example/ample_prior/ampleprior/ScoredDocumentRoundedScorePinLaw" = some m.cls := findClass_of_methodNamed Bd.named
  have hnm := (name_of_methodNamed Bd.named Bd.method).1
  have X0 : Stand p l e room_1 s m #[(.long q0), (.int p1)] below meth c s₁ [] 0 0 := Stand.of_body Bd
  have e0 : s₁.heap = h0 := by rw [← hh, Bd.state]; rfl
  have N0 := Fr.nil n0
  have pre0 : ∀ t, Steps p.tables e below (s₁.setTop (mkF m 0 #[.val (.long q0), .second, .val (.int p1), .unset, .unset, .unset, .unset, .unset, .unset, .unset, .unset, .unset, .unset, .unset, .unset] [])) t → Steps p.tables e below (s₁.setTop (entryFrame m #[(.long q0), (.int p1)] maxLocals)) t := fun t k => castTop (ef_rm0a m q0 p1) k
  obtain ⟨T1, h1, X1, e1, E1, A1, D1, -, st1⟩ := newO X0 hx hZ hown (hw _ (List.mem_of_getElem? (i := 1) rfl)) (hw _ (List.mem_of_getElem? (i := 2) rfl)) (hw _ (List.mem_of_getElem? (i := 3) rfl)) e0 (g := (mkF m 24 #[.val (.long q0), .second, .val (.int p1), .val (.long av), .second, .val (.int sv), .val (.double sc), .second, .unset, .unset, .unset, .unset, .unset, .unset, .unset] [])) rfl (hb hby at_24) (by decide) (by decide)
  obtain ⟨b1, g1⟩ : ∃ z, z = h0.size := ⟨_, rfl⟩
  have g_b1 : n0 ≤ b1 := Nat.le_trans Z0 (Nat.le_of_eq g1.symm)
  rw [← g1] at A1 D1 st1
  have F1_docno : Fld Z h1 b1 "com/example/ample_prior/ampleprior/ScoredDocument" "docno" "Ljava/lang/String;" .null := D1 (Or.inr (hw _ (List.mem_of_getElem? (i := 24) rfl))) (ty := (.object "java/lang/String")) (by decide)
  have F1_score : Fld Z h1 b1 "com/example/ample_prior/ampleprior/ScoredDocument" "score" "D" (.double (0 : UInt64)) := D1 (Or.inr (hw _ (List.mem_of_getElem? (i := 26) rfl))) (ty := .double) (by decide)
  have wS : ∀ d ∈ Bundle.stringAtoms, d.before a0 Z = true := fun d hd => hw d ((by decide +kernel : ∀ d ∈ Bundle.stringAtoms, d ∈ tables_1) d hd)
  obtain ⟨b2, T2, h2, n2, X2, e2, E2, hS2, hk2, hZ_2, hown_2, st2⟩ := ldcS (OwnF.toSelf X1) hx hZ hown (hw _ (List.mem_of_getElem? (i := 4) rfl)) wS e1 (k0 := 0) ((State.WarmedH.refl s).since 0) (Nat.zero_le _) (g := (mkF m 28 #[.val (.long q0), .second, .val (.int p1), .val (.long av), .second, .val (.int sv), .val (.double sc), .second, .unset, .unset, .unset, .unset, .unset, .unset, .unset] [(.ref b1), (.ref b1)])) rfl (hb hby at_28) (n := 4) (by decide +kernel) (by decide) (by decide) (by decide)
  obtain ⟨_, _, ⟨T3, L3, k3, n3⟩, -, X3, ⟨Lc3, hQ3, l3, y3, z3⟩, st3⟩ := X2.specialBack hx (y := (⟨"com/example/ample_prior/ampleprior/ScoredDocument", "<init>", "(Ljava/lang/String;D)V"⟩ : MethodName)) rfl hown_2 (mvT hZ_2 (hw _ (List.mem_of_getElem? (i := 12) rfl))) (mvT hZ_2 (hw _ (List.mem_of_getElem? (i := 13) rfl))) (mvT hZ_2 (hw _ (List.mem_of_getElem? (i := 14) rfl))) (by decide) (backOf (W := 1) (rmI l Z a0 hw [] _ _ b1 b2 sc h2 n0 (Nat.le_trans (Nat.le_trans Z0 E1.1) E2.1) (A1.ext E2) g_b1 (F1_docno.ext E2) (F1_score.ext E2)) hZ_2 (hw _ (List.mem_of_getElem? (i := 14) rfl)) (hw _ (List.mem_of_getElem? (i := 3) rfl)) (by decide) (by decide)) (g := (mkF m 32 #[.val (.long q0), .second, .val (.int p1), .val (.long av), .second, .val (.int sv), .val (.double sc), .second, .unset, .unset, .unset, .unset, .unset, .unset, .unset] [(.double sc), (.ref b2), (.ref b1), (.ref b1)])) rfl (by rw [hml]; rfl) (Steps.refl _) (a := b1) (argsL := [(.ref b2), (.double sc)]) (rest := [(.ref b1)]) (lenOf pd_2 rfl) rfl (by show 2 * 0 + _ ≤ _; exact Nat.le_of_eq rfl) (hb hby at_32) (fun _ _ => ⟨rfl, e2, (by decide : 3 + 0 ≤ _), (by decide : 10 + 0 ≤ _)⟩)
  dsimp only [Pt.U, Pt.locs, Pt.cells, Pt.slots] at X3 l3 y3 z3 st3 hQ3
  subst l3 y3 z3
  obtain ⟨rfl, N3a, K3a, E3a, F3a⟩ := hQ3
  have N3 := Fr.app N0 N3a
  obtain ⟨cq4, kq4, q4a, q4b, q4c⟩ := isOf hZ_2 rfl E3a
  obtain ⟨_, _, ⟨T4, L4, k4, n4⟩, -, X4, ⟨Lc4, hQ4, l4, y4, z4⟩, st4⟩ := X3.virtualBack hx (y := (⟨"com/example/ample_prior/ampleprior/ScoredDocument", "roundedScore", "()D"⟩ : MethodName)) (z := (⟨"com/example/ample_prior/ampleprior/ScoredDocument", "roundedScore", "()D"⟩ : MethodName)) hown_2 (mvT hZ_2 (hw _ (List.mem_of_getElem? (i := 29) rfl))) (mvT hZ_2 (hw _ (List.mem_of_getElem? (i := 30) rfl))) (notFace_of_selects (args := #[]) (mvT hZ_2 (hw _ (List.mem_of_getElem? (i := 32) rfl)))) (mvT hZ_2 (hw _ (List.mem_of_getElem? (i := 32) rfl))) (mvT hZ_2 (hw _ (List.mem_of_getElem? (i := 31) rfl))) (by decide) (backOf (W := 0) (rmS l Z a0 hw [] sc b1 T3.heap n0 (Nat.le_trans (Nat.le_trans (Nat.le_trans Z0 E1.1) E2.1) K3a.1) F3a c_n7 c_n15) hZ_2 (hw _ (List.mem_of_getElem? (i := 33) rfl)) (hw _ (List.mem_of_getElem? (i := 3) rfl)) (by decide) (by decide)) q4a q4c (g := (mkF m 93 #[.val (.long q0), .second, .val (.int p1), .val (.long av), .second, .val (.int sv), .val (.double sc), .second, .val (.ref b1), .val (.long (av * (15625 : Int64))), .second, .val (.long mv0), .second, .val (.double (FP.ddiv (FP.l2d mv0) (4696837146684686336 : UInt64))), .second] [(.ref b1)])) rfl (by rw [hml]; rfl) (Steps.refl _) (argsL := []) (rest := []) (lenOf pd_3 rfl) rfl (by show 2 * 0 + _ ≤ _; exact Nat.le_of_eq rfl) (hb hby at_93) (fun _ _ => ⟨rfl, rfl, (by decide : 3 + 0 ≤ _), (by decide : 10 + 0 ≤ _)⟩)
  dsimp only [Pt.U, Pt.locs, Pt.cells, Pt.slots] at X4 l4 y4 z4 st4 hQ4
  subst l4 y4 z4
  obtain ⟨rfl, N4a, e4⟩ := hQ4
  have N4 := Fr.app N3 N4a
  obtain ⟨fs, hr, hrun, hended, hEnd⟩ := X4.leaveW hS2 (by rw [e4]; exact (Nat.le_trans hk2 K3a.1)) (v := some (.int (1 : Int32))) (fun h => by rw [Bd.returns] at h; cases h)
  refine ⟨_, _, pre0 _ ?_, hrun, hended, _, _, rfl, ?_, hEnd⟩
  · show Steps p.tables e below (s₁.setTop (mkF m 0 #[.val (.long q0), .second, .val (.int p1), .unset, .unset, .unset, .unset, .unset, .unset, .unset, .unset, .unset, .unset, .unset, .unset] [])) _
    refine XS.lloadN X0.here hx rfl (hb hby at_0) rfl ?_
    show Steps p.tables e below (s₁.setTop (mkF m 1 #[.val (.long q0), .second, .val (.int p1), .unset, .unset, .unset, .unset, .unset, .unset, .unset, .unset, .unset, .unset, .unset, .unset] [(.long q0)])) _
    refine XS.bipush X0.here hx rfl (hb hby at_1) ?_
    show Steps p.tables e below (s₁.setTop (mkF m 3 #[.val (.long q0), .second, .val (.int p1), .unset, .unset, .unset, .unset, .unset, .unset, .unset, .unset, .unset, .unset, .unset, .unset] [(.int (25 : Int32)), (.long q0)])) _
    refine XS.lshr X0.here hx rfl (hb hby at_3) rfl ?_
    show Steps p.tables e below (s₁.setTop (mkF m 4 #[.val (.long q0), .second, .val (.int p1), .unset, .unset, .unset, .unset, .unset, .unset, .unset, .unset, .unset, .unset, .unset, .unset] [(.long (q0 >>> ((25 : Int32) &&& 0x3f).toInt64))])) _
    rw [← hav]
    show Steps p.tables e below (s₁.setTop (mkF m 4 #[.val (.long q0), .second, .val (.int p1), .unset, .unset, .unset, .unset, .unset, .unset, .unset, .unset, .unset, .unset, .unset, .unset] [(.long av)])) _
    refine XS.lstoreN X0.here hx rfl (hb hby at_4) rfl (l' := #[.val (.long q0), .second, .val (.int p1), .val (.long av), .second, .unset, .unset, .unset, .unset, .unset, .unset, .unset, .unset, .unset, .unset]) rfl ?_
    show Steps p.tables e below (s₁.setTop (mkF m 5 #[.val (.long q0), .second, .val (.int p1), .val (.long av), .second, .unset, .unset, .unset, .unset, .unset, .unset, .unset, .unset, .unset, .unset] [])) _
    refine XS.iloadN X0.here hx rfl (hb hby at_5) rfl ?_
    show Steps p.tables e below (s₁.setTop (mkF m 6 #[.val (.long q0), .second, .val (.int p1), .val (.long av), .second, .unset, .unset, .unset, .unset, .unset, .unset, .unset, .unset, .unset, .unset] [(.int p1)])) _
    refine X0.ldcInt hx hown (mvT hZ (hw _ (List.mem_of_getElem? (i := 0) rfl))) (g := (mkF m 6 #[.val (.long q0), .second, .val (.int p1), .val (.long av), .second, .unset, .unset, .unset, .unset, .unset, .unset, .unset, .unset, .unset, .unset] [(.int p1)])) rfl (hb hby at_6) _ ?_
    show Steps p.tables e below (s₁.setTop (mkF m 8 #[.val (.long q0), .second, .val (.int p1), .val (.long av), .second, .unset, .unset, .unset, .unset, .unset, .unset, .unset, .unset, .unset, .unset] [(.int (2147483647 : Int32)), (.int p1)])) _
    refine XS.iand X0.here hx rfl (hb hby at_8) rfl ?_
    show Steps p.tables e below (s₁.setTop (mkF m 9 #[.val (.long q0), .second, .val (.int p1), .val (.long av), .second, .unset, .unset, .unset, .unset, .unset, .unset, .unset, .unset, .unset, .unset] [(.int (p1 &&& (2147483647 : Int32)))])) _
    refine XS.bipush X0.here hx rfl (hb hby at_9) ?_
    show Steps p.tables e below (s₁.setTop (mkF m 11 #[.val (.long q0), .second, .val (.int p1), .val (.long av), .second, .unset, .unset, .unset, .unset, .unset, .unset, .unset, .unset, .unset, .unset] [(.int (60 : Int32)), (.int (p1 &&& (2147483647 : Int32)))])) _
    refine XS.irem X0.here hx rfl (hb hby at_11) rfl (by decide) ?_
    show Steps p.tables e below (s₁.setTop (mkF m 12 #[.val (.long q0), .second, .val (.int p1), .val (.long av), .second, .unset, .unset, .unset, .unset, .unset, .unset, .unset, .unset, .unset, .unset] [(.int ((p1 &&& (2147483647 : Int32)) - ((p1 &&& (2147483647 : Int32)) / (60 : Int32)) * (60 : Int32)))])) _
    rw [← hsv]
    show Steps p.tables e below (s₁.setTop (mkF m 12 #[.val (.long q0), .second, .val (.int p1), .val (.long av), .second, .unset, .unset, .unset, .unset, .unset, .unset, .unset, .unset, .unset, .unset] [(.int sv)])) _
    refine XS.istore X0.here hx rfl (hb hby at_12) rfl (l' := #[.val (.long q0), .second, .val (.int p1), .val (.long av), .second, .val (.int sv), .unset, .unset, .unset, .unset, .unset, .unset, .unset, .unset, .unset]) rfl ?_
    show Steps p.tables e below (s₁.setTop (mkF m 14 #[.val (.long q0), .second, .val (.int p1), .val (.long av), .second, .val (.int sv), .unset, .unset, .unset, .unset, .unset, .unset, .unset, .unset, .unset] [])) _
    refine XS.lloadN X0.here hx rfl (hb hby at_14) rfl ?_
    show Steps p.tables e below (s₁.setTop (mkF m 15 #[.val (.long q0), .second, .val (.int p1), .val (.long av), .second, .val (.int sv), .unset, .unset, .unset, .unset, .unset, .unset, .unset, .unset, .unset] [(.long av)])) _
    refine XS.l2dS X0.here hx rfl (hb hby at_15) rfl rfl ?_
    show Steps p.tables e below (s₁.setTop (mkF m 16 #[.val (.long q0), .second, .val (.int p1), .val (.long av), .second, .val (.int sv), .unset, .unset, .unset, .unset, .unset, .unset, .unset, .unset, .unset] [(.double (FP.l2d av))])) _
    refine XS.lconst X0.here hx rfl (hb hby at_16) ?_
    show Steps p.tables e below (s₁.setTop (mkF m 17 #[.val (.long q0), .second, .val (.int p1), .val (.long av), .second, .val (.int sv), .unset, .unset, .unset, .unset, .unset, .unset, .unset, .unset, .unset] [(.long (1 : Int64)), (.double (FP.l2d av))])) _
    refine XS.iload X0.here hx rfl (hb hby at_17) rfl ?_
    show Steps p.tables e below (s₁.setTop (mkF m 19 #[.val (.long q0), .second, .val (.int p1), .val (.long av), .second, .val (.int sv), .unset, .unset, .unset, .unset, .unset, .unset, .unset, .unset, .unset] [(.int sv), (.long (1 : Int64)), (.double (FP.l2d av))])) _
    refine XS.lshl X0.here hx rfl (hb hby at_19) rfl ?_
    show Steps p.tables e below (s₁.setTop (mkF m 20 #[.val (.long q0), .second, .val (.int p1), .val (.long av), .second, .val (.int sv), .unset, .unset, .unset, .unset, .unset, .unset, .unset, .unset, .unset] [(.long ((1 : Int64) <<< (sv &&& 0x3f).toInt64)), (.double (FP.l2d av))])) _
    refine XS.l2dS X0.here hx rfl (hb hby at_20) rfl rfl ?_
    show Steps p.tables e below (s₁.setTop (mkF m 21 #[.val (.long q0), .second, .val (.int p1), .val (.long av), .second, .val (.int sv), .unset, .unset, .unset, .unset, .unset, .unset, .unset, .unset, .unset] [(.double (FP.l2d ((1 : Int64) <<< (sv &&& 0x3f).toInt64))), (.double (FP.l2d av))])) _
    refine XS.ddivS X0.here hx rfl (hb hby at_21) rfl n21 rfl ?_
    show Steps p.tables e below (s₁.setTop (mkF m 22 #[.val (.long q0), .second, .val (.int p1), .val (.long av), .second, .val (.int sv), .unset, .unset, .unset, .unset, .unset, .unset, .unset, .unset, .unset] [(.double (FP.ddiv (FP.l2d av) (FP.l2d ((1 : Int64) <<< (sv &&& 0x3f).toInt64))))])) _
    rw [← hsc]
    show Steps p.tables e below (s₁.setTop (mkF m 22 #[.val (.long q0), .second, .val (.int p1), .val (.long av), .second, .val (.int sv), .unset, .unset, .unset, .unset, .unset, .unset, .unset, .unset, .unset] [(.double sc)])) _
    refine XS.dstore X0.here hx rfl (hb hby at_22) rfl (l' := #[.val (.long q0), .second, .val (.int p1), .val (.long av), .second, .val (.int sv), .val (.double sc), .second, .unset, .unset, .unset, .unset, .unset, .unset, .unset]) rfl ?_
    show Steps p.tables e below (s₁.setTop (mkF m 24 #[.val (.long q0), .second, .val (.int p1), .val (.long av), .second, .val (.int sv), .val (.double sc), .second, .unset, .unset, .unset, .unset, .unset, .unset, .unset] [])) _
    refine st1 _ ?_
    show Steps p.tables e below (T1.setTop (mkF m 27 #[.val (.long q0), .second, .val (.int p1), .val (.long av), .second, .val (.int sv), .val (.double sc), .second, .unset, .unset, .unset, .unset, .unset, .unset, .unset] [(.ref b1)])) _
    refine XS.dup X1.here hx rfl (hb hby at_27) rfl rfl ?_
    show Steps p.tables e below (T1.setTop (mkF m 28 #[.val (.long q0), .second, .val (.int p1), .val (.long av), .second, .val (.int sv), .val (.double sc), .second, .unset, .unset, .unset, .unset, .unset, .unset, .unset] [(.ref b1), (.ref b1)])) _
    refine st2 _ ?_
    show Steps p.tables e below (T2.setTop (mkF m 30 #[.val (.long q0), .second, .val (.int p1), .val (.long av), .second, .val (.int sv), .val (.double sc), .second, .unset, .unset, .unset, .unset, .unset, .unset, .unset] [(.ref b2), (.ref b1), (.ref b1)])) _
    refine XS.dload X2.here hx rfl (hb hby at_30) rfl ?_
    show Steps p.tables e below (T2.setTop (mkF m 32 #[.val (.long q0), .second, .val (.int p1), .val (.long av), .second, .val (.int sv), .val (.double sc), .second, .unset, .unset, .unset, .unset, .unset, .unset, .unset] [(.double sc), (.ref b2), (.ref b1), (.ref b1)])) _
    refine st3.trans ?_
    show Steps p.tables e below (T3.setTop (mkF m 35 #[.val (.long q0), .second, .val (.int p1), .val (.long av), .second, .val (.int sv), .val (.double sc), .second, .unset, .unset, .unset, .unset, .unset, .unset, .unset] [(.ref b1)])) _
    refine XS.astore X3.here hx rfl (hb hby at_35) rfl rfl (l' := #[.val (.long q0), .second, .val (.int p1), .val (.long av), .second, .val (.int sv), .val (.double sc), .second, .val (.ref b1), .unset, .unset, .unset, .unset, .unset, .unset]) rfl ?_
    show Steps p.tables e below (T3.setTop (mkF m 37 #[.val (.long q0), .second, .val (.int p1), .val (.long av), .second, .val (.int sv), .val (.double sc), .second, .val (.ref b1), .unset, .unset, .unset, .unset, .unset, .unset] [])) _
    refine XS.lloadN X3.here hx rfl (hb hby at_37) rfl ?_
    show Steps p.tables e below (T3.setTop (mkF m 38 #[.val (.long q0), .second, .val (.int p1), .val (.long av), .second, .val (.int sv), .val (.double sc), .second, .val (.ref b1), .unset, .unset, .unset, .unset, .unset, .unset] [(.long av)])) _
    refine X3.ldc2Long hx hown_2 (mvT hZ_2 (hw _ (List.mem_of_getElem? (i := 27) rfl))) (g := (mkF m 38 #[.val (.long q0), .second, .val (.int p1), .val (.long av), .second, .val (.int sv), .val (.double sc), .second, .val (.ref b1), .unset, .unset, .unset, .unset, .unset, .unset] [(.long av)])) rfl (hb hby at_38) _ ?_
    show Steps p.tables e below (T3.setTop (mkF m 41 #[.val (.long q0), .second, .val (.int p1), .val (.long av), .second, .val (.int sv), .val (.double sc), .second, .val (.ref b1), .unset, .unset, .unset, .unset, .unset, .unset] [(.long (15625 : Int64)), (.long av)])) _
    refine XS.lmul X3.here hx rfl (hb hby at_41) rfl ?_
    show Steps p.tables e below (T3.setTop (mkF m 42 #[.val (.long q0), .second, .val (.int p1), .val (.long av), .second, .val (.int sv), .val (.double sc), .second, .val (.ref b1), .unset, .unset, .unset, .unset, .unset, .unset] [(.long (av * (15625 : Int64)))])) _
    refine XS.lstore X3.here hx rfl (hb hby at_42) rfl (l' := #[.val (.long q0), .second, .val (.int p1), .val (.long av), .second, .val (.int sv), .val (.double sc), .second, .val (.ref b1), .val (.long (av * (15625 : Int64))), .second, .unset, .unset, .unset, .unset]) rfl ?_
    show Steps p.tables e below (T3.setTop (mkF m 44 #[.val (.long q0), .second, .val (.int p1), .val (.long av), .second, .val (.int sv), .val (.double sc), .second, .val (.ref b1), .val (.long (av * (15625 : Int64))), .second, .unset, .unset, .unset, .unset] [])) _
    refine XS.iload X3.here hx rfl (hb hby at_44) rfl ?_
    show Steps p.tables e below (T3.setTop (mkF m 46 #[.val (.long q0), .second, .val (.int p1), .val (.long av), .second, .val (.int sv), .val (.double sc), .second, .val (.ref b1), .val (.long (av * (15625 : Int64))), .second, .unset, .unset, .unset, .unset] [(.int sv)])) _
    refine XS.bipush X3.here hx rfl (hb hby at_46) ?_
    show Steps p.tables e below (T3.setTop (mkF m 48 #[.val (.long q0), .second, .val (.int p1), .val (.long av), .second, .val (.int sv), .val (.double sc), .second, .val (.ref b1), .val (.long (av * (15625 : Int64))), .second, .unset, .unset, .unset, .unset] [(.int (6 : Int32)), (.int sv)])) _
    refine XS.icmpNo X3.here hx rfl (hb hby at_48) rfl b48 ?_
    show Steps p.tables e below (T3.setTop (mkF m 51 #[.val (.long q0), .second, .val (.int p1), .val (.long av), .second, .val (.int sv), .val (.double sc), .second, .val (.ref b1), .val (.long (av * (15625 : Int64))), .second, .unset, .unset, .unset, .unset] [])) _
    refine XS.lload X3.here hx rfl (hb hby at_51) rfl ?_
    show Steps p.tables e below (T3.setTop (mkF m 53 #[.val (.long q0), .second, .val (.int p1), .val (.long av), .second, .val (.int sv), .val (.double sc), .second, .val (.ref b1), .val (.long (av * (15625 : Int64))), .second, .unset, .unset, .unset, .unset] [(.long (av * (15625 : Int64)))])) _
    refine XS.bipush X3.here hx rfl (hb hby at_53) ?_
    show Steps p.tables e below (T3.setTop (mkF m 55 #[.val (.long q0), .second, .val (.int p1), .val (.long av), .second, .val (.int sv), .val (.double sc), .second, .val (.ref b1), .val (.long (av * (15625 : Int64))), .second, .unset, .unset, .unset, .unset] [(.int (6 : Int32)), (.long (av * (15625 : Int64)))])) _
    refine XS.iload X3.here hx rfl (hb hby at_55) rfl ?_
    show Steps p.tables e below (T3.setTop (mkF m 57 #[.val (.long q0), .second, .val (.int p1), .val (.long av), .second, .val (.int sv), .val (.double sc), .second, .val (.ref b1), .val (.long (av * (15625 : Int64))), .second, .unset, .unset, .unset, .unset] [(.int sv), (.int (6 : Int32)), (.long (av * (15625 : Int64)))])) _
    refine XS.isub X3.here hx rfl (hb hby at_57) rfl ?_
    show Steps p.tables e below (T3.setTop (mkF m 58 #[.val (.long q0), .second, .val (.int p1), .val (.long av), .second, .val (.int sv), .val (.double sc), .second, .val (.ref b1), .val (.long (av * (15625 : Int64))), .second, .unset, .unset, .unset, .unset] [(.int ((6 : Int32) - sv)), (.long (av * (15625 : Int64)))])) _
    refine XS.lshl X3.here hx rfl (hb hby at_58) rfl ?_
    show Steps p.tables e below (T3.setTop (mkF m 59 #[.val (.long q0), .second, .val (.int p1), .val (.long av), .second, .val (.int sv), .val (.double sc), .second, .val (.ref b1), .val (.long (av * (15625 : Int64))), .second, .unset, .unset, .unset, .unset] [(.long ((av * (15625 : Int64)) <<< (((6 : Int32) - sv) &&& 0x3f).toInt64))])) _
    rw [← hmv]
    show Steps p.tables e below (T3.setTop (mkF m 59 #[.val (.long q0), .second, .val (.int p1), .val (.long av), .second, .val (.int sv), .val (.double sc), .second, .val (.ref b1), .val (.long (av * (15625 : Int64))), .second, .unset, .unset, .unset, .unset] [(.long mv0)])) _
    refine XS.lstore X3.here hx rfl (hb hby at_59) rfl (l' := #[.val (.long q0), .second, .val (.int p1), .val (.long av), .second, .val (.int sv), .val (.double sc), .second, .val (.ref b1), .val (.long (av * (15625 : Int64))), .second, .val (.long mv0), .second, .unset, .unset]) rfl ?_
    show Steps p.tables e below (T3.setTop (mkF m 61 #[.val (.long q0), .second, .val (.int p1), .val (.long av), .second, .val (.int sv), .val (.double sc), .second, .val (.ref b1), .val (.long (av * (15625 : Int64))), .second, .val (.long mv0), .second, .unset, .unset] [])) _
    refine XS.goto X3.here hx rfl (pc0 := 61) (pc' := 82) rfl (hb hby at_61) (by decide) (by decide) ?_
    show Steps p.tables e below (T3.setTop (mkF m 82 #[.val (.long q0), .second, .val (.int p1), .val (.long av), .second, .val (.int sv), .val (.double sc), .second, .val (.ref b1), .val (.long (av * (15625 : Int64))), .second, .val (.long mv0), .second, .unset, .unset] [])) _
    refine XS.lload X3.here hx rfl (hb hby at_82) rfl ?_
    show Steps p.tables e below (T3.setTop (mkF m 84 #[.val (.long q0), .second, .val (.int p1), .val (.long av), .second, .val (.int sv), .val (.double sc), .second, .val (.ref b1), .val (.long (av * (15625 : Int64))), .second, .val (.long mv0), .second, .unset, .unset] [(.long mv0)])) _
    refine XS.l2dS X3.here hx rfl (hb hby at_84) rfl rfl ?_
    show Steps p.tables e below (T3.setTop (mkF m 85 #[.val (.long q0), .second, .val (.int p1), .val (.long av), .second, .val (.int sv), .val (.double sc), .second, .val (.ref b1), .val (.long (av * (15625 : Int64))), .second, .val (.long mv0), .second, .unset, .unset] [(.double (FP.l2d mv0))])) _
    refine X3.ldc2DoubleC hx hown_2 (mvT hZ_2 (hw _ (List.mem_of_getElem? (i := 28) rfl))) (g := (mkF m 85 #[.val (.long q0), .second, .val (.int p1), .val (.long av), .second, .val (.int sv), .val (.double sc), .second, .val (.ref b1), .val (.long (av * (15625 : Int64))), .second, .val (.long mv0), .second, .unset, .unset] [(.double (FP.l2d mv0))])) rfl (hb hby at_85) _ ?_
    show Steps p.tables e below (T3.setTop (mkF m 88 #[.val (.long q0), .second, .val (.int p1), .val (.long av), .second, .val (.int sv), .val (.double sc), .second, .val (.ref b1), .val (.long (av * (15625 : Int64))), .second, .val (.long mv0), .second, .unset, .unset] [(.double (4696837146684686336 : UInt64)), (.double (FP.l2d mv0))])) _
    refine XS.ddivS X3.here hx rfl (hb hby at_88) rfl n88 rfl ?_
    show Steps p.tables e below (T3.setTop (mkF m 89 #[.val (.long q0), .second, .val (.int p1), .val (.long av), .second, .val (.int sv), .val (.double sc), .second, .val (.ref b1), .val (.long (av * (15625 : Int64))), .second, .val (.long mv0), .second, .unset, .unset] [(.double (FP.ddiv (FP.l2d mv0) (4696837146684686336 : UInt64)))])) _
    refine XS.dstore X3.here hx rfl (hb hby at_89) rfl (l' := #[.val (.long q0), .second, .val (.int p1), .val (.long av), .second, .val (.int sv), .val (.double sc), .second, .val (.ref b1), .val (.long (av * (15625 : Int64))), .second, .val (.long mv0), .second, .val (.double (FP.ddiv (FP.l2d mv0) (4696837146684686336 : UInt64))), .second]) rfl ?_
    show Steps p.tables e below (T3.setTop (mkF m 91 #[.val (.long q0), .second, .val (.int p1), .val (.long av), .second, .val (.int sv), .val (.double sc), .second, .val (.ref b1), .val (.long (av * (15625 : Int64))), .second, .val (.long mv0), .second, .val (.double (FP.ddiv (FP.l2d mv0) (4696837146684686336 : UInt64))), .second] [])) _
    refine XS.aload X3.here hx rfl (hb hby at_91) rfl rfl ?_
    show Steps p.tables e below (T3.setTop (mkF m 93 #[.val (.long q0), .second, .val (.int p1), .val (.long av), .second, .val (.int sv), .val (.double sc), .second, .val (.ref b1), .val (.long (av * (15625 : Int64))), .second, .val (.long mv0), .second, .val (.double (FP.ddiv (FP.l2d mv0) (4696837146684686336 : UInt64))), .second] [(.ref b1)])) _
    refine st4.trans ?_
    show Steps p.tables e below (T4.setTop (mkF m 96 #[.val (.long q0), .second, .val (.int p1), .val (.long av), .second, .val (.int sv), .val (.double sc), .second, .val (.ref b1), .val (.long (av * (15625 : Int64))), .second, .val (.long mv0), .second, .val (.double (FP.ddiv (FP.l2d mv0) (4696837146684686336 : UInt64))), .second] [(.double (own_rs sc))])) _
    refine XS.dload X4.here hx rfl (hb hby at_96) rfl ?_
    show Steps p.tables e below (T4.setTop (mkF m 98 #[.val (.long q0), .second, .val (.int p1), .val (.long av), .second, .val (.int sv), .val (.double sc), .second, .val (.ref b1), .val (.long (av * (15625 : Int64))), .second, .val (.long mv0), .second, .val (.double (FP.ddiv (FP.l2d mv0) (4696837146684686336 : UInt64))), .second] [(.double (FP.ddiv (FP.l2d mv0) (4696837146684686336 : UInt64))), (.double (own_rs sc))])) _
    refine XS.dcmpS X4.here hx rfl (hb hby at_98) rfl (cmpV_l _) ?_
    show Steps p.tables e below (T4.setTop (mkF m 99 #[.val (.long q0), .second, .val (.int p1), .val (.long av), .second, .val (.int sv), .val (.double sc), .second, .val (.ref b1), .val (.long (av * (15625 : Int64))), .second, .val (.long mv0), .second, .val (.double (FP.ddiv (FP.l2d mv0) (4696837146684686336 : UInt64))), .second] [(.int (FP.cmpInt (-1) (FP.dcmp (own_rs sc) (FP.ddiv (FP.l2d mv0) (4696837146684686336 : UInt64)))))])) _
    refine XS.ifNo X4.here hx rfl (hb hby at_99) rfl b99 ?_
    show Steps p.tables e below (T4.setTop (mkF m 102 #[.val (.long q0), .second, .val (.int p1), .val (.long av), .second, .val (.int sv), .val (.double sc), .second, .val (.ref b1), .val (.long (av * (15625 : Int64))), .second, .val (.long mv0), .second, .val (.double (FP.ddiv (FP.l2d mv0) (4696837146684686336 : UInt64))), .second] [])) _
    refine XS.iconst X4.here hx rfl (hb hby at_102) ?_
    show Steps p.tables e below (T4.setTop (mkF m 103 #[.val (.long q0), .second, .val (.int p1), .val (.long av), .second, .val (.int sv), .val (.double sc), .second, .val (.ref b1), .val (.long (av * (15625 : Int64))), .second, .val (.long mv0), .second, .val (.double (FP.ddiv (FP.l2d mv0) (4696837146684686336 : UInt64))), .second] [(.int (1 : Int32))])) _
    refine XS.goto X4.here hx rfl (pc0 := 103) (pc' := 107) rfl (hb hby at_103) (by decide) (by decide) ?_
    show Steps p.tables e below (T4.setTop (mkF m 107 #[.val (.long q0), .second, .val (.int p1), .val (.long av), .second, .val (.int sv), .val (.double sc), .second, .val (.ref b1), .val (.long (av * (15625 : Int64))), .second, .val (.long mv0), .second, .val (.double (FP.ddiv (FP.l2d mv0) (4696837146684686336 : UInt64))), .second] [(.int (1 : Int32))])) _
    exact retN X4 hx (t := .boolean) Bd.returns (by simp) (hb hby at_107) hr
  · show QL n0 _ T4.heap _
    exact ⟨rfl, N4⟩
theorem ef_rm0b (m : MethodId) (x0 : Int64) (x1 : Int32) : entryFrame m #[(.long x0), (.int x1)] maxLocals = mkF m 0 #[.val (.long x0), .second, .val (.int x1), .unset, .unset, .unset, .unset, .unset, .unset, .unset, .unset, .unset, .unset, .unset, .unset] [] := by first | (simp [entryFrame, mkF, argsToLocals, Value.category, maxLocals]; done) | rfl
set_option maxRecDepth 65536 in
set_option maxHeartbeats 40000000 in
theorem rm0b (l : Launch) (Z : State) (a0 : Array Value) (hw : ∀ d ∈ tables_1, d.before a0 Z = true) (ws : List Jvm.Cond)  (q0 : Int64) (p1 : Int32) (av : Int64) (sv : Int32) (sc : UInt64) (mv0 : Int64) (h0 : Heap) (n0 : Nat) (Z0 : n0 ≤ h0.size) 
    (hav : av = (q0 >>> ((25 : Int32) &&& 0x3f).toInt64))
    (hsv : sv = ((p1 &&& (2147483647 : Int32)) - ((p1 &&& (2147483647 : Int32)) / (60 : Int32)) * (60 : Int32)))
    (n21 : NoNaN64 (FP.ddiv (FP.l2d av) (FP.l2d ((1 : Int64) <<< (sv &&& 0x3f).toInt64))))
    (hsc : sc = (FP.ddiv (FP.l2d av) (FP.l2d ((1 : Int64) <<< (sv &&& 0x3f).toInt64))))
    (b48 : if_icmp.holds .gt sv (6 : Int32) = true)
    (hmv : mv0 = (((av * (15625 : Int64)) + ((1 : Int64) <<< ((sv - (7 : Int32)) &&& 0x3f).toInt64)) >>> ((sv - (6 : Int32)) &&& 0x3f).toInt64))
    (n88 : NoNaN64 (FP.ddiv (FP.l2d mv0) (4696837146684686336 : UInt64)))
    (c_n7 : NoNaN64 (FP.dmul sc (4696837146684686336 : UInt64)))
    (c_n15 : NoNaN64 (FP.ddiv (FP.l2d (own_round (FP.dmul sc (4696837146684686336 : UInt64)))) (4696837146684686336 : UInt64)))
    (b99 : ifCond.holds .ne (FP.cmpInt (-1) (FP.dcmp (own_rs sc) (FP.ddiv (FP.l2d mv0) (4696837146684686336 : UInt64)))) = false) :
    MetFree l x (head1 (Jvm.Cond.code x code maxLocals ret :: ws) room_1) (fun a U => a = #[(.long q0), (.int p1)] ∧ Z.Warmed39 U.vm ∧ U.heap = h0) (fun _ _ _ _ _ => True) (fun _ U o U' => ∃ v L, o = .returned v ∧ QL n0 v U'.heap L ∧ ReturnedEndW U o U' L 3 10) := by
  refine MetFree.of_bodySF (plainFor_of_name pn_2) hisR ?_
  intro p e s m args below meth c s₁ Bd hml0 hP hK
  obtain ⟨rfl, hZ, hh⟩ := hP
  have hx := Bd.exec
  have hby := Bd.bytes
  have hml : c.maxLocals = 15 := hml0
  have hown : s.vm.findClass "com/example/ample_prior/ampleprior/ScoredDocumentRoundedScorePinLaw" = some m.cls := findClass_of_methodNamed Bd.named
  have hnm := (name_of_methodNamed Bd.named Bd.method).1
  have X0 : Stand p l e room_1 s m #[(.long q0), (.int p1)] below meth c s₁ [] 0 0 := Stand.of_body Bd
  have e0 : s₁.heap = h0 := by rw [← hh, Bd.state]; rfl
  have N0 := Fr.nil n0
  have pre0 : ∀ t, Steps p.tables e below (s₁.setTop (mkF m 0 #[.val (.long q0), .second, .val (.int p1), .unset, .unset, .unset, .unset, .unset, .unset, .unset, .unset, .unset, .unset, .unset, .unset] [])) t → Steps p.tables e below (s₁.setTop (entryFrame m #[(.long q0), (.int p1)] maxLocals)) t := fun t k => castTop (ef_rm0b m q0 p1) k
  obtain ⟨T1, h1, X1, e1, E1, A1, D1, -, st1⟩ := newO X0 hx hZ hown (hw _ (List.mem_of_getElem? (i := 1) rfl)) (hw _ (List.mem_of_getElem? (i := 2) rfl)) (hw _ (List.mem_of_getElem? (i := 3) rfl)) e0 (g := (mkF m 24 #[.val (.long q0), .second, .val (.int p1), .val (.long av), .second, .val (.int sv), .val (.double sc), .second, .unset, .unset, .unset, .unset, .unset, .unset, .unset] [])) rfl (hb hby at_24) (by decide) (by decide)
  obtain ⟨b1, g1⟩ : ∃ z, z = h0.size := ⟨_, rfl⟩
  have g_b1 : n0 ≤ b1 := Nat.le_trans Z0 (Nat.le_of_eq g1.symm)
  rw [← g1] at A1 D1 st1
  have F1_docno : Fld Z h1 b1 "com/example/ample_prior/ampleprior/ScoredDocument" "docno" "Ljava/lang/String;" .null := D1 (Or.inr (hw _ (List.mem_of_getElem? (i := 24) rfl))) (ty := (.object "java/lang/String")) (by decide)
  have F1_score : Fld Z h1 b1 "com/example/ample_prior/ampleprior/ScoredDocument" "score" "D" (.double (0 : UInt64)) := D1 (Or.inr (hw _ (List.mem_of_getElem? (i := 26) rfl))) (ty := .double) (by decide)
  have wS : ∀ d ∈ Bundle.stringAtoms, d.before a0 Z = true := fun d hd => hw d ((by decide +kernel : ∀ d ∈ Bundle.stringAtoms, d ∈ tables_1) d hd)
  obtain ⟨b2, T2, h2, n2, X2, e2, E2, hS2, hk2, hZ_2, hown_2, st2⟩ := ldcS (OwnF.toSelf X1) hx hZ hown (hw _ (List.mem_of_getElem? (i := 4) rfl)) wS e1 (k0 := 0) ((State.WarmedH.refl s).since 0) (Nat.zero_le _) (g := (mkF m 28 #[.val (.long q0), .second, .val (.int p1), .val (.long av), .second, .val (.int sv), .val (.double sc), .second, .unset, .unset, .unset, .unset, .unset, .unset, .unset] [(.ref b1), (.ref b1)])) rfl (hb hby at_28) (n := 4) (by decide +kernel) (by decide) (by decide) (by decide)
  obtain ⟨_, _, ⟨T3, L3, k3, n3⟩, -, X3, ⟨Lc3, hQ3, l3, y3, z3⟩, st3⟩ := X2.specialBack hx (y := (⟨"com/example/ample_prior/ampleprior/ScoredDocument", "<init>", "(Ljava/lang/String;D)V"⟩ : MethodName)) rfl hown_2 (mvT hZ_2 (hw _ (List.mem_of_getElem? (i := 12) rfl))) (mvT hZ_2 (hw _ (List.mem_of_getElem? (i := 13) rfl))) (mvT hZ_2 (hw _ (List.mem_of_getElem? (i := 14) rfl))) (by decide) (backOf (W := 1) (rmI l Z a0 hw [] _ _ b1 b2 sc h2 n0 (Nat.le_trans (Nat.le_trans Z0 E1.1) E2.1) (A1.ext E2) g_b1 (F1_docno.ext E2) (F1_score.ext E2)) hZ_2 (hw _ (List.mem_of_getElem? (i := 14) rfl)) (hw _ (List.mem_of_getElem? (i := 3) rfl)) (by decide) (by decide)) (g := (mkF m 32 #[.val (.long q0), .second, .val (.int p1), .val (.long av), .second, .val (.int sv), .val (.double sc), .second, .unset, .unset, .unset, .unset, .unset, .unset, .unset] [(.double sc), (.ref b2), (.ref b1), (.ref b1)])) rfl (by rw [hml]; rfl) (Steps.refl _) (a := b1) (argsL := [(.ref b2), (.double sc)]) (rest := [(.ref b1)]) (lenOf pd_2 rfl) rfl (by show 2 * 0 + _ ≤ _; exact Nat.le_of_eq rfl) (hb hby at_32) (fun _ _ => ⟨rfl, e2, (by decide : 3 + 0 ≤ _), (by decide : 10 + 0 ≤ _)⟩)
  dsimp only [Pt.U, Pt.locs, Pt.cells, Pt.slots] at X3 l3 y3 z3 st3 hQ3
  subst l3 y3 z3
  obtain ⟨rfl, N3a, K3a, E3a, F3a⟩ := hQ3
  have N3 := Fr.app N0 N3a
  obtain ⟨cq4, kq4, q4a, q4b, q4c⟩ := isOf hZ_2 rfl E3a
  obtain ⟨_, _, ⟨T4, L4, k4, n4⟩, -, X4, ⟨Lc4, hQ4, l4, y4, z4⟩, st4⟩ := X3.virtualBack hx (y := (⟨"com/example/ample_prior/ampleprior/ScoredDocument", "roundedScore", "()D"⟩ : MethodName)) (z := (⟨"com/example/ample_prior/ampleprior/ScoredDocument", "roundedScore", "()D"⟩ : MethodName)) hown_2 (mvT hZ_2 (hw _ (List.mem_of_getElem? (i := 29) rfl))) (mvT hZ_2 (hw _ (List.mem_of_getElem? (i := 30) rfl))) (notFace_of_selects (args := #[]) (mvT hZ_2 (hw _ (List.mem_of_getElem? (i := 32) rfl)))) (mvT hZ_2 (hw _ (List.mem_of_getElem? (i := 32) rfl))) (mvT hZ_2 (hw _ (List.mem_of_getElem? (i := 31) rfl))) (by decide) (backOf (W := 0) (rmS l Z a0 hw [] sc b1 T3.heap n0 (Nat.le_trans (Nat.le_trans (Nat.le_trans Z0 E1.1) E2.1) K3a.1) F3a c_n7 c_n15) hZ_2 (hw _ (List.mem_of_getElem? (i := 33) rfl)) (hw _ (List.mem_of_getElem? (i := 3) rfl)) (by decide) (by decide)) q4a q4c (g := (mkF m 93 #[.val (.long q0), .second, .val (.int p1), .val (.long av), .second, .val (.int sv), .val (.double sc), .second, .val (.ref b1), .val (.long (av * (15625 : Int64))), .second, .val (.long mv0), .second, .val (.double (FP.ddiv (FP.l2d mv0) (4696837146684686336 : UInt64))), .second] [(.ref b1)])) rfl (by rw [hml]; rfl) (Steps.refl _) (argsL := []) (rest := []) (lenOf pd_3 rfl) rfl (by show 2 * 0 + _ ≤ _; exact Nat.le_of_eq rfl) (hb hby at_93) (fun _ _ => ⟨rfl, rfl, (by decide : 3 + 0 ≤ _), (by decide : 10 + 0 ≤ _)⟩)
  dsimp only [Pt.U, Pt.locs, Pt.cells, Pt.slots] at X4 l4 y4 z4 st4 hQ4
  subst l4 y4 z4
  obtain ⟨rfl, N4a, e4⟩ := hQ4
  have N4 := Fr.app N3 N4a
  obtain ⟨fs, hr, hrun, hended, hEnd⟩ := X4.leaveW hS2 (by rw [e4]; exact (Nat.le_trans hk2 K3a.1)) (v := some (.int (1 : Int32))) (fun h => by rw [Bd.returns] at h; cases h)
  refine ⟨_, _, pre0 _ ?_, hrun, hended, _, _, rfl, ?_, hEnd⟩
  · show Steps p.tables e below (s₁.setTop (mkF m 0 #[.val (.long q0), .second, .val (.int p1), .unset, .unset, .unset, .unset, .unset, .unset, .unset, .unset, .unset, .unset, .unset, .unset] [])) _
    refine XS.lloadN X0.here hx rfl (hb hby at_0) rfl ?_
    show Steps p.tables e below (s₁.setTop (mkF m 1 #[.val (.long q0), .second, .val (.int p1), .unset, .unset, .unset, .unset, .unset, .unset, .unset, .unset, .unset, .unset, .unset, .unset] [(.long q0)])) _
    refine XS.bipush X0.here hx rfl (hb hby at_1) ?_
    show Steps p.tables e below (s₁.setTop (mkF m 3 #[.val (.long q0), .second, .val (.int p1), .unset, .unset, .unset, .unset, .unset, .unset, .unset, .unset, .unset, .unset, .unset, .unset] [(.int (25 : Int32)), (.long q0)])) _
    refine XS.lshr X0.here hx rfl (hb hby at_3) rfl ?_
    show Steps p.tables e below (s₁.setTop (mkF m 4 #[.val (.long q0), .second, .val (.int p1), .unset, .unset, .unset, .unset, .unset, .unset, .unset, .unset, .unset, .unset, .unset, .unset] [(.long (q0 >>> ((25 : Int32) &&& 0x3f).toInt64))])) _
    rw [← hav]
    show Steps p.tables e below (s₁.setTop (mkF m 4 #[.val (.long q0), .second, .val (.int p1), .unset, .unset, .unset, .unset, .unset, .unset, .unset, .unset, .unset, .unset, .unset, .unset] [(.long av)])) _
    refine XS.lstoreN X0.here hx rfl (hb hby at_4) rfl (l' := #[.val (.long q0), .second, .val (.int p1), .val (.long av), .second, .unset, .unset, .unset, .unset, .unset, .unset, .unset, .unset, .unset, .unset]) rfl ?_
    show Steps p.tables e below (s₁.setTop (mkF m 5 #[.val (.long q0), .second, .val (.int p1), .val (.long av), .second, .unset, .unset, .unset, .unset, .unset, .unset, .unset, .unset, .unset, .unset] [])) _
    refine XS.iloadN X0.here hx rfl (hb hby at_5) rfl ?_
    show Steps p.tables e below (s₁.setTop (mkF m 6 #[.val (.long q0), .second, .val (.int p1), .val (.long av), .second, .unset, .unset, .unset, .unset, .unset, .unset, .unset, .unset, .unset, .unset] [(.int p1)])) _
    refine X0.ldcInt hx hown (mvT hZ (hw _ (List.mem_of_getElem? (i := 0) rfl))) (g := (mkF m 6 #[.val (.long q0), .second, .val (.int p1), .val (.long av), .second, .unset, .unset, .unset, .unset, .unset, .unset, .unset, .unset, .unset, .unset] [(.int p1)])) rfl (hb hby at_6) _ ?_
    show Steps p.tables e below (s₁.setTop (mkF m 8 #[.val (.long q0), .second, .val (.int p1), .val (.long av), .second, .unset, .unset, .unset, .unset, .unset, .unset, .unset, .unset, .unset, .unset] [(.int (2147483647 : Int32)), (.int p1)])) _
    refine XS.iand X0.here hx rfl (hb hby at_8) rfl ?_
    show Steps p.tables e below (s₁.setTop (mkF m 9 #[.val (.long q0), .second, .val (.int p1), .val (.long av), .second, .unset, .unset, .unset, .unset, .unset, .unset, .unset, .unset, .unset, .unset] [(.int (p1 &&& (2147483647 : Int32)))])) _
    refine XS.bipush X0.here hx rfl (hb hby at_9) ?_
    show Steps p.tables e below (s₁.setTop (mkF m 11 #[.val (.long q0), .second, .val (.int p1), .val (.long av), .second, .unset, .unset, .unset, .unset, .unset, .unset, .unset, .unset, .unset, .unset] [(.int (60 : Int32)), (.int (p1 &&& (2147483647 : Int32)))])) _
    refine XS.irem X0.here hx rfl (hb hby at_11) rfl (by decide) ?_
    show Steps p.tables e below (s₁.setTop (mkF m 12 #[.val (.long q0), .second, .val (.int p1), .val (.long av), .second, .unset, .unset, .unset, .unset, .unset, .unset, .unset, .unset, .unset, .unset] [(.int ((p1 &&& (2147483647 : Int32)) - ((p1 &&& (2147483647 : Int32)) / (60 : Int32)) * (60 : Int32)))])) _
    rw [← hsv]
    show Steps p.tables e below (s₁.setTop (mkF m 12 #[.val (.long q0), .second, .val (.int p1), .val (.long av), .second, .unset, .unset, .unset, .unset, .unset, .unset, .unset, .unset, .unset, .unset] [(.int sv)])) _
    refine XS.istore X0.here hx rfl (hb hby at_12) rfl (l' := #[.val (.long q0), .second, .val (.int p1), .val (.long av), .second, .val (.int sv), .unset, .unset, .unset, .unset, .unset, .unset, .unset, .unset, .unset]) rfl ?_
    show Steps p.tables e below (s₁.setTop (mkF m 14 #[.val (.long q0), .second, .val (.int p1), .val (.long av), .second, .val (.int sv), .unset, .unset, .unset, .unset, .unset, .unset, .unset, .unset, .unset] [])) _
    refine XS.lloadN X0.here hx rfl (hb hby at_14) rfl ?_
    show Steps p.tables e below (s₁.setTop (mkF m 15 #[.val (.long q0), .second, .val (.int p1), .val (.long av), .second, .val (.int sv), .unset, .unset, .unset, .unset, .unset, .unset, .unset, .unset, .unset] [(.long av)])) _
    refine XS.l2dS X0.here hx rfl (hb hby at_15) rfl rfl ?_
    show Steps p.tables e below (s₁.setTop (mkF m 16 #[.val (.long q0), .second, .val (.int p1), .val (.long av), .second, .val (.int sv), .unset, .unset, .unset, .unset, .unset, .unset, .unset, .unset, .unset] [(.double (FP.l2d av))])) _
    refine XS.lconst X0.here hx rfl (hb hby at_16) ?_
    show Steps p.tables e below (s₁.setTop (mkF m 17 #[.val (.long q0), .second, .val (.int p1), .val (.long av), .second, .val (.int sv), .unset, .unset, .unset, .unset, .unset, .unset, .unset, .unset, .unset] [(.long (1 : Int64)), (.double (FP.l2d av))])) _
    refine XS.iload X0.here hx rfl (hb hby at_17) rfl ?_
    show Steps p.tables e below (s₁.setTop (mkF m 19 #[.val (.long q0), .second, .val (.int p1), .val (.long av), .second, .val (.int sv), .unset, .unset, .unset, .unset, .unset, .unset, .unset, .unset, .unset] [(.int sv), (.long (1 : Int64)), (.double (FP.l2d av))])) _
    refine XS.lshl X0.here hx rfl (hb hby at_19) rfl ?_
    show Steps p.tables e below (s₁.setTop (mkF m 20 #[.val (.long q0), .second, .val (.int p1), .val (.long av), .second, .val (.int sv), .unset, .unset, .unset, .unset, .unset, .unset, .unset, .unset, .unset] [(.long ((1 : Int64) <<< (sv &&& 0x3f).toInt64)), (.double (FP.l2d av))])) _
    refine XS.l2dS X0.here hx rfl (hb hby at_20) rfl rfl ?_
    show Steps p.tables e below (s₁.setTop (mkF m 21 #[.val (.long q0), .second, .val (.int p1), .val (.long av), .second, .val (.int sv), .unset, .unset, .unset, .unset, .unset, .unset, .unset, .unset, .unset] [(.double (FP.l2d ((1 : Int64) <<< (sv &&& 0x3f).toInt64))), (.double (FP.l2d av))])) _
    refine XS.ddivS X0.here hx rfl (hb hby at_21) rfl n21 rfl ?_
    show Steps p.tables e below (s₁.setTop (mkF m 22 #[.val (.long q0), .second, .val (.int p1), .val (.long av), .second, .val (.int sv), .unset, .unset, .unset, .unset, .unset, .unset, .unset, .unset, .unset] [(.double (FP.ddiv (FP.l2d av) (FP.l2d ((1 : Int64) <<< (sv &&& 0x3f).toInt64))))])) _
    rw [← hsc]
    show Steps p.tables e below (s₁.setTop (mkF m 22 #[.val (.long q0), .second, .val (.int p1), .val (.long av), .second, .val (.int sv), .unset, .unset, .unset, .unset, .unset, .unset, .unset, .unset, .unset] [(.double sc)])) _
    refine XS.dstore X0.here hx rfl (hb hby at_22) rfl (l' := #[.val (.long q0), .second, .val (.int p1), .val (.long av), .second, .val (.int sv), .val (.double sc), .second, .unset, .unset, .unset, .unset, .unset, .unset, .unset]) rfl ?_
    show Steps p.tables e below (s₁.setTop (mkF m 24 #[.val (.long q0), .second, .val (.int p1), .val (.long av), .second, .val (.int sv), .val (.double sc), .second, .unset, .unset, .unset, .unset, .unset, .unset, .unset] [])) _
    refine st1 _ ?_
    show Steps p.tables e below (T1.setTop (mkF m 27 #[.val (.long q0), .second, .val (.int p1), .val (.long av), .second, .val (.int sv), .val (.double sc), .second, .unset, .unset, .unset, .unset, .unset, .unset, .unset] [(.ref b1)])) _
    refine XS.dup X1.here hx rfl (hb hby at_27) rfl rfl ?_
    show Steps p.tables e below (T1.setTop (mkF m 28 #[.val (.long q0), .second, .val (.int p1), .val (.long av), .second, .val (.int sv), .val (.double sc), .second, .unset, .unset, .unset, .unset, .unset, .unset, .unset] [(.ref b1), (.ref b1)])) _
    refine st2 _ ?_
    show Steps p.tables e below (T2.setTop (mkF m 30 #[.val (.long q0), .second, .val (.int p1), .val (.long av), .second, .val (.int sv), .val (.double sc), .second, .unset, .unset, .unset, .unset, .unset, .unset, .unset] [(.ref b2), (.ref b1), (.ref b1)])) _
    refine XS.dload X2.here hx rfl (hb hby at_30) rfl ?_
    show Steps p.tables e below (T2.setTop (mkF m 32 #[.val (.long q0), .second, .val (.int p1), .val (.long av), .second, .val (.int sv), .val (.double sc), .second, .unset, .unset, .unset, .unset, .unset, .unset, .unset] [(.double sc), (.ref b2), (.ref b1), (.ref b1)])) _
    refine st3.trans ?_
    show Steps p.tables e below (T3.setTop (mkF m 35 #[.val (.long q0), .second, .val (.int p1), .val (.long av), .second, .val (.int sv), .val (.double sc), .second, .unset, .unset, .unset, .unset, .unset, .unset, .unset] [(.ref b1)])) _
    refine XS.astore X3.here hx rfl (hb hby at_35) rfl rfl (l' := #[.val (.long q0), .second, .val (.int p1), .val (.long av), .second, .val (.int sv), .val (.double sc), .second, .val (.ref b1), .unset, .unset, .unset, .unset, .unset, .unset]) rfl ?_
    show Steps p.tables e below (T3.setTop (mkF m 37 #[.val (.long q0), .second, .val (.int p1), .val (.long av), .second, .val (.int sv), .val (.double sc), .second, .val (.ref b1), .unset, .unset, .unset, .unset, .unset, .unset] [])) _
    refine XS.lloadN X3.here hx rfl (hb hby at_37) rfl ?_
    show Steps p.tables e below (T3.setTop (mkF m 38 #[.val (.long q0), .second, .val (.int p1), .val (.long av), .second, .val (.int sv), .val (.double sc), .second, .val (.ref b1), .unset, .unset, .unset, .unset, .unset, .unset] [(.long av)])) _
    refine X3.ldc2Long hx hown_2 (mvT hZ_2 (hw _ (List.mem_of_getElem? (i := 27) rfl))) (g := (mkF m 38 #[.val (.long q0), .second, .val (.int p1), .val (.long av), .second, .val (.int sv), .val (.double sc), .second, .val (.ref b1), .unset, .unset, .unset, .unset, .unset, .unset] [(.long av)])) rfl (hb hby at_38) _ ?_
    show Steps p.tables e below (T3.setTop (mkF m 41 #[.val (.long q0), .second, .val (.int p1), .val (.long av), .second, .val (.int sv), .val (.double sc), .second, .val (.ref b1), .unset, .unset, .unset, .unset, .unset, .unset] [(.long (15625 : Int64)), (.long av)])) _
    refine XS.lmul X3.here hx rfl (hb hby at_41) rfl ?_
    show Steps p.tables e below (T3.setTop (mkF m 42 #[.val (.long q0), .second, .val (.int p1), .val (.long av), .second, .val (.int sv), .val (.double sc), .second, .val (.ref b1), .unset, .unset, .unset, .unset, .unset, .unset] [(.long (av * (15625 : Int64)))])) _
    refine XS.lstore X3.here hx rfl (hb hby at_42) rfl (l' := #[.val (.long q0), .second, .val (.int p1), .val (.long av), .second, .val (.int sv), .val (.double sc), .second, .val (.ref b1), .val (.long (av * (15625 : Int64))), .second, .unset, .unset, .unset, .unset]) rfl ?_
    show Steps p.tables e below (T3.setTop (mkF m 44 #[.val (.long q0), .second, .val (.int p1), .val (.long av), .second, .val (.int sv), .val (.double sc), .second, .val (.ref b1), .val (.long (av * (15625 : Int64))), .second, .unset, .unset, .unset, .unset] [])) _
    refine XS.iload X3.here hx rfl (hb hby at_44) rfl ?_
    show Steps p.tables e below (T3.setTop (mkF m 46 #[.val (.long q0), .second, .val (.int p1), .val (.long av), .second, .val (.int sv), .val (.double sc), .second, .val (.ref b1), .val (.long (av * (15625 : Int64))), .second, .unset, .unset, .unset, .unset] [(.int sv)])) _
    refine XS.bipush X3.here hx rfl (hb hby at_46) ?_
    show Steps p.tables e below (T3.setTop (mkF m 48 #[.val (.long q0), .second, .val (.int p1), .val (.long av), .second, .val (.int sv), .val (.double sc), .second, .val (.ref b1), .val (.long (av * (15625 : Int64))), .second, .unset, .unset, .unset, .unset] [(.int (6 : Int32)), (.int sv)])) _
    refine XS.icmpYes X3.here hx rfl (pc0 := 48) (pc' := 64) rfl (hb hby at_48) rfl b48 (by decide) (by decide) ?_
    show Steps p.tables e below (T3.setTop (mkF m 64 #[.val (.long q0), .second, .val (.int p1), .val (.long av), .second, .val (.int sv), .val (.double sc), .second, .val (.ref b1), .val (.long (av * (15625 : Int64))), .second, .unset, .unset, .unset, .unset] [])) _
    refine XS.lload X3.here hx rfl (hb hby at_64) rfl ?_
    show Steps p.tables e below (T3.setTop (mkF m 66 #[.val (.long q0), .second, .val (.int p1), .val (.long av), .second, .val (.int sv), .val (.double sc), .second, .val (.ref b1), .val (.long (av * (15625 : Int64))), .second, .unset, .unset, .unset, .unset] [(.long (av * (15625 : Int64)))])) _
    refine XS.lconst X3.here hx rfl (hb hby at_66) ?_
    show Steps p.tables e below (T3.setTop (mkF m 67 #[.val (.long q0), .second, .val (.int p1), .val (.long av), .second, .val (.int sv), .val (.double sc), .second, .val (.ref b1), .val (.long (av * (15625 : Int64))), .second, .unset, .unset, .unset, .unset] [(.long (1 : Int64)), (.long (av * (15625 : Int64)))])) _
    refine XS.iload X3.here hx rfl (hb hby at_67) rfl ?_
    show Steps p.tables e below (T3.setTop (mkF m 69 #[.val (.long q0), .second, .val (.int p1), .val (.long av), .second, .val (.int sv), .val (.double sc), .second, .val (.ref b1), .val (.long (av * (15625 : Int64))), .second, .unset, .unset, .unset, .unset] [(.int sv), (.long (1 : Int64)), (.long (av * (15625 : Int64)))])) _
    refine XS.bipush X3.here hx rfl (hb hby at_69) ?_
    show Steps p.tables e below (T3.setTop (mkF m 71 #[.val (.long q0), .second, .val (.int p1), .val (.long av), .second, .val (.int sv), .val (.double sc), .second, .val (.ref b1), .val (.long (av * (15625 : Int64))), .second, .unset, .unset, .unset, .unset] [(.int (7 : Int32)), (.int sv), (.long (1 : Int64)), (.long (av * (15625 : Int64)))])) _
    refine XS.isub X3.here hx rfl (hb hby at_71) rfl ?_
    show Steps p.tables e below (T3.setTop (mkF m 72 #[.val (.long q0), .second, .val (.int p1), .val (.long av), .second, .val (.int sv), .val (.double sc), .second, .val (.ref b1), .val (.long (av * (15625 : Int64))), .second, .unset, .unset, .unset, .unset] [(.int (sv - (7 : Int32))), (.long (1 : Int64)), (.long (av * (15625 : Int64)))])) _
    refine XS.lshl X3.here hx rfl (hb hby at_72) rfl ?_
    show Steps p.tables e below (T3.setTop (mkF m 73 #[.val (.long q0), .second, .val (.int p1), .val (.long av), .second, .val (.int sv), .val (.double sc), .second, .val (.ref b1), .val (.long (av * (15625 : Int64))), .second, .unset, .unset, .unset, .unset] [(.long ((1 : Int64) <<< ((sv - (7 : Int32)) &&& 0x3f).toInt64)), (.long (av * (15625 : Int64)))])) _
    refine XS.ladd X3.here hx rfl (hb hby at_73) rfl ?_
    show Steps p.tables e below (T3.setTop (mkF m 74 #[.val (.long q0), .second, .val (.int p1), .val (.long av), .second, .val (.int sv), .val (.double sc), .second, .val (.ref b1), .val (.long (av * (15625 : Int64))), .second, .unset, .unset, .unset, .unset] [(.long ((av * (15625 : Int64)) + ((1 : Int64) <<< ((sv - (7 : Int32)) &&& 0x3f).toInt64)))])) _
    refine XS.iload X3.here hx rfl (hb hby at_74) rfl ?_
    show Steps p.tables e below (T3.setTop (mkF m 76 #[.val (.long q0), .second, .val (.int p1), .val (.long av), .second, .val (.int sv), .val (.double sc), .second, .val (.ref b1), .val (.long (av * (15625 : Int64))), .second, .unset, .unset, .unset, .unset] [(.int sv), (.long ((av * (15625 : Int64)) + ((1 : Int64) <<< ((sv - (7 : Int32)) &&& 0x3f).toInt64)))])) _
    refine XS.bipush X3.here hx rfl (hb hby at_76) ?_
    show Steps p.tables e below (T3.setTop (mkF m 78 #[.val (.long q0), .second, .val (.int p1), .val (.long av), .second, .val (.int sv), .val (.double sc), .second, .val (.ref b1), .val (.long (av * (15625 : Int64))), .second, .unset, .unset, .unset, .unset] [(.int (6 : Int32)), (.int sv), (.long ((av * (15625 : Int64)) + ((1 : Int64) <<< ((sv - (7 : Int32)) &&& 0x3f).toInt64)))])) _
    refine XS.isub X3.here hx rfl (hb hby at_78) rfl ?_
    show Steps p.tables e below (T3.setTop (mkF m 79 #[.val (.long q0), .second, .val (.int p1), .val (.long av), .second, .val (.int sv), .val (.double sc), .second, .val (.ref b1), .val (.long (av * (15625 : Int64))), .second, .unset, .unset, .unset, .unset] [(.int (sv - (6 : Int32))), (.long ((av * (15625 : Int64)) + ((1 : Int64) <<< ((sv - (7 : Int32)) &&& 0x3f).toInt64)))])) _
    refine XS.lshr X3.here hx rfl (hb hby at_79) rfl ?_
    show Steps p.tables e below (T3.setTop (mkF m 80 #[.val (.long q0), .second, .val (.int p1), .val (.long av), .second, .val (.int sv), .val (.double sc), .second, .val (.ref b1), .val (.long (av * (15625 : Int64))), .second, .unset, .unset, .unset, .unset] [(.long (((av * (15625 : Int64)) + ((1 : Int64) <<< ((sv - (7 : Int32)) &&& 0x3f).toInt64)) >>> ((sv - (6 : Int32)) &&& 0x3f).toInt64))])) _
    rw [← hmv]
    show Steps p.tables e below (T3.setTop (mkF m 80 #[.val (.long q0), .second, .val (.int p1), .val (.long av), .second, .val (.int sv), .val (.double sc), .second, .val (.ref b1), .val (.long (av * (15625 : Int64))), .second, .unset, .unset, .unset, .unset] [(.long mv0)])) _
    refine XS.lstore X3.here hx rfl (hb hby at_80) rfl (l' := #[.val (.long q0), .second, .val (.int p1), .val (.long av), .second, .val (.int sv), .val (.double sc), .second, .val (.ref b1), .val (.long (av * (15625 : Int64))), .second, .val (.long mv0), .second, .unset, .unset]) rfl ?_
    show Steps p.tables e below (T3.setTop (mkF m 82 #[.val (.long q0), .second, .val (.int p1), .val (.long av), .second, .val (.int sv), .val (.double sc), .second, .val (.ref b1), .val (.long (av * (15625 : Int64))), .second, .val (.long mv0), .second, .unset, .unset] [])) _
    refine XS.lload X3.here hx rfl (hb hby at_82) rfl ?_
    show Steps p.tables e below (T3.setTop (mkF m 84 #[.val (.long q0), .second, .val (.int p1), .val (.long av), .second, .val (.int sv), .val (.double sc), .second, .val (.ref b1), .val (.long (av * (15625 : Int64))), .second, .val (.long mv0), .second, .unset, .unset] [(.long mv0)])) _
    refine XS.l2dS X3.here hx rfl (hb hby at_84) rfl rfl ?_
    show Steps p.tables e below (T3.setTop (mkF m 85 #[.val (.long q0), .second, .val (.int p1), .val (.long av), .second, .val (.int sv), .val (.double sc), .second, .val (.ref b1), .val (.long (av * (15625 : Int64))), .second, .val (.long mv0), .second, .unset, .unset] [(.double (FP.l2d mv0))])) _
    refine X3.ldc2DoubleC hx hown_2 (mvT hZ_2 (hw _ (List.mem_of_getElem? (i := 28) rfl))) (g := (mkF m 85 #[.val (.long q0), .second, .val (.int p1), .val (.long av), .second, .val (.int sv), .val (.double sc), .second, .val (.ref b1), .val (.long (av * (15625 : Int64))), .second, .val (.long mv0), .second, .unset, .unset] [(.double (FP.l2d mv0))])) rfl (hb hby at_85) _ ?_
    show Steps p.tables e below (T3.setTop (mkF m 88 #[.val (.long q0), .second, .val (.int p1), .val (.long av), .second, .val (.int sv), .val (.double sc), .second, .val (.ref b1), .val (.long (av * (15625 : Int64))), .second, .val (.long mv0), .second, .unset, .unset] [(.double (4696837146684686336 : UInt64)), (.double (FP.l2d mv0))])) _
    refine XS.ddivS X3.here hx rfl (hb hby at_88) rfl n88 rfl ?_
    show Steps p.tables e below (T3.setTop (mkF m 89 #[.val (.long q0), .second, .val (.int p1), .val (.long av), .second, .val (.int sv), .val (.double sc), .second, .val (.ref b1), .val (.long (av * (15625 : Int64))), .second, .val (.long mv0), .second, .unset, .unset] [(.double (FP.ddiv (FP.l2d mv0) (4696837146684686336 : UInt64)))])) _
    refine XS.dstore X3.here hx rfl (hb hby at_89) rfl (l' := #[.val (.long q0), .second, .val (.int p1), .val (.long av), .second, .val (.int sv), .val (.double sc), .second, .val (.ref b1), .val (.long (av * (15625 : Int64))), .second, .val (.long mv0), .second, .val (.double (FP.ddiv (FP.l2d mv0) (4696837146684686336 : UInt64))), .second]) rfl ?_
    show Steps p.tables e below (T3.setTop (mkF m 91 #[.val (.long q0), .second, .val (.int p1), .val (.long av), .second, .val (.int sv), .val (.double sc), .second, .val (.ref b1), .val (.long (av * (15625 : Int64))), .second, .val (.long mv0), .second, .val (.double (FP.ddiv (FP.l2d mv0) (4696837146684686336 : UInt64))), .second] [])) _
    refine XS.aload X3.here hx rfl (hb hby at_91) rfl rfl ?_
    show Steps p.tables e below (T3.setTop (mkF m 93 #[.val (.long q0), .second, .val (.int p1), .val (.long av), .second, .val (.int sv), .val (.double sc), .second, .val (.ref b1), .val (.long (av * (15625 : Int64))), .second, .val (.long mv0), .second, .val (.double (FP.ddiv (FP.l2d mv0) (4696837146684686336 : UInt64))), .second] [(.ref b1)])) _
    refine st4.trans ?_
    show Steps p.tables e below (T4.setTop (mkF m 96 #[.val (.long q0), .second, .val (.int p1), .val (.long av), .second, .val (.int sv), .val (.double sc), .second, .val (.ref b1), .val (.long (av * (15625 : Int64))), .second, .val (.long mv0), .second, .val (.double (FP.ddiv (FP.l2d mv0) (4696837146684686336 : UInt64))), .second] [(.double (own_rs sc))])) _
    refine XS.dload X4.here hx rfl (hb hby at_96) rfl ?_
    show Steps p.tables e below (T4.setTop (mkF m 98 #[.val (.long q0), .second, .val (.int p1), .val (.long av), .second, .val (.int sv), .val (.double sc), .second, .val (.ref b1), .val (.long (av * (15625 : Int64))), .second, .val (.long mv0), .second, .val (.double (FP.ddiv (FP.l2d mv0) (4696837146684686336 : UInt64))), .second] [(.double (FP.ddiv (FP.l2d mv0) (4696837146684686336 : UInt64))), (.double (own_rs sc))])) _
    refine XS.dcmpS X4.here hx rfl (hb hby at_98) rfl (cmpV_l _) ?_
    show Steps p.tables e below (T4.setTop (mkF m 99 #[.val (.long q0), .second, .val (.int p1), .val (.long av), .second, .val (.int sv), .val (.double sc), .second, .val (.ref b1), .val (.long (av * (15625 : Int64))), .second, .val (.long mv0), .second, .val (.double (FP.ddiv (FP.l2d mv0) (4696837146684686336 : UInt64))), .second] [(.int (FP.cmpInt (-1) (FP.dcmp (own_rs sc) (FP.ddiv (FP.l2d mv0) (4696837146684686336 : UInt64)))))])) _
    refine XS.ifNo X4.here hx rfl (hb hby at_99) rfl b99 ?_
    show Steps p.tables e below (T4.setTop (mkF m 102 #[.val (.long q0), .second, .val (.int p1), .val (.long av), .second, .val (.int sv), .val (.double sc), .second, .val (.ref b1), .val (.long (av * (15625 : Int64))), .second, .val (.long mv0), .second, .val (.double (FP.ddiv (FP.l2d mv0) (4696837146684686336 : UInt64))), .second] [])) _
    refine XS.iconst X4.here hx rfl (hb hby at_102) ?_
    show Steps p.tables e below (T4.setTop (mkF m 103 #[.val (.long q0), .second, .val (.int p1), .val (.long av), .second, .val (.int sv), .val (.double sc), .second, .val (.ref b1), .val (.long (av * (15625 : Int64))), .second, .val (.long mv0), .second, .val (.double (FP.ddiv (FP.l2d mv0) (4696837146684686336 : UInt64))), .second] [(.int (1 : Int32))])) _
    refine XS.goto X4.here hx rfl (pc0 := 103) (pc' := 107) rfl (hb hby at_103) (by decide) (by decide) ?_
    show Steps p.tables e below (T4.setTop (mkF m 107 #[.val (.long q0), .second, .val (.int p1), .val (.long av), .second, .val (.int sv), .val (.double sc), .second, .val (.ref b1), .val (.long (av * (15625 : Int64))), .second, .val (.long mv0), .second, .val (.double (FP.ddiv (FP.l2d mv0) (4696837146684686336 : UInt64))), .second] [(.int (1 : Int32))])) _
    exact retN X4 hx (t := .boolean) Bd.returns (by simp) (hb hby at_107) hr
  · show QL n0 _ T4.heap _
    exact ⟨rfl, N4⟩
section Law
open Jvm.FP.Core Jvm.OwnF Jvm.Kit
/-- the exponent's field, the fraction, the sign of a double's bits -/
def own_E (v : UInt64) : Nat := v.toNat % 2 ^ 63 / 2 ^ 52
def own_f (v : UInt64) : Nat := v.toNat % 2 ^ 52
theorem own_int (v : UInt64) : v.toInt64.toInt = if v.toNat < 2 ^ 63 then (v.toNat : Int) else (v.toNat : Int) - 2 ^ 64 := by
  show v.toBitVec.toInt = _
  rw [BitVec.toInt_eq_toNat_cond, show v.toBitVec.toNat = v.toNat from rfl]
  by_cases h : v.toNat < 2 ^ 63
  · rw [if_pos (by omega), if_pos h]
  · rw [if_neg (by omega), if_neg h]; rfl
theorem own_frac (v : UInt64) : (v.toInt64 &&& (4503599627370495 : Int64)).toInt = own_f v := by
  have h := i64_mask v.toInt64 4503599627370495 (k := 52) (by decide) (by decide)
  rw [own_int] at h
  have hl := v.toNat_lt
  unfold own_f
  split at h <;> omega
theorem own_or {f : Int64} (h0 : 0 ≤ f.toInt) (hf : f.toInt < 2 ^ 52) : (f ||| (4503599627370496 : Int64)).toInt = 2 ^ 52 + f.toInt := by
  have hn : f.toBitVec.toNat = f.toInt.toNat := by
    have h : f.toInt = f.toBitVec.toInt := rfl
    rw [BitVec.toInt_eq_toNat_cond] at h
    split at h <;> omega
  rw [Int64.or_comm]
  have h1 : ((4503599627370496 : Int64) ||| f).toInt = ((4503599627370496#64) ||| f.toBitVec).toInt := rfl
  have h2 : ((4503599627370496#64) ||| f.toBitVec).toNat = 2 ^ 52 + f.toInt.toNat := by
    rw [BitVec.toNat_or, hn]
    have := Nat.two_pow_add_eq_or_of_lt (i := 52) (b := f.toInt.toNat) (by omega) 1
    rw [Nat.mul_one] at this
    exact this.symm
  rw [h1, BitVec.toInt_eq_toNat_cond, h2, if_pos (by omega)]
  omega
theorem own_sig (v : UInt64) : ((v.toInt64 &&& (4503599627370495 : Int64)) ||| (4503599627370496 : Int64)).toInt = 2 ^ 52 + own_f v := by
  have h := own_frac v
  have hf : own_f v < 2 ^ 52 := Nat.mod_lt _ (by decide)
  rw [own_or (by omega) (by omega), h]
theorem own_exp (v : UInt64) : ((v.toInt64 &&& (9218868437227405312 : Int64)) >>> ((52 : Int32) &&& 0x3f).toInt64).toInt = own_E v := by
  have hl := v.toNat_lt
  have h1 : (v.toInt64 &&& (9218868437227405312 : Int64)).toInt = ((v.toNat &&& 9218868437227405312 : Nat) : Int) := by
    have e1 : (v.toInt64 &&& (9218868437227405312 : Int64)).toInt = (v.toBitVec &&& 9218868437227405312#64).toInt := rfl
    rw [e1, BitVec.toInt_eq_toNat_cond, BitVec.toNat_and]
    have e2 : (9218868437227405312#64).toNat = 9218868437227405312 := rfl
    rw [e2, show v.toBitVec.toNat = v.toNat from rfl]
    have := Nat.and_le_right (n := v.toNat) (m := 9218868437227405312)
    rw [if_pos (by omega)]
  rw [i64_shr _ _ (k := 52) (by decide), h1]
  have h2 : (v.toNat &&& 9218868437227405312) / 2 ^ 52 = v.toNat / 2 ^ 52 % 2 ^ 11 := by
    rw [← Nat.shiftRight_eq_div_pow, Nat.shiftRight_and_distrib, show (9218868437227405312 : Nat) >>> 52 = 2 ^ 11 - 1 by decide, Nat.and_two_pow_sub_one_eq_mod, Nat.shiftRight_eq_div_pow]
  unfold own_E
  rw [show ((v.toNat &&& 9218868437227405312 : Nat) : Int) / 2 ^ 52 = (((v.toNat &&& 9218868437227405312) / 2 ^ 52 : Nat) : Int) from rfl, h2]
  omega
theorem own_sh_int {v : UInt64} (hf : DFin v) : own_E v ≤ 2046 ∧ own_sh v = Int64.ofInt (1074 - (own_E v : Int)) := by
  have hE : own_E v ≤ 2046 := by
    rw [fin_bits] at hf; unfold own_E; omega
  refine ⟨hE, Int64.toInt_inj.mp ?_⟩
  unfold own_sh
  have h1 := own_exp v
  have h2 : (1074 : Int64).toInt = 1074 := by decide
  rw [i64_sub (by omega) (by omega), h1, h2, Int64.toInt_ofInt_of_le (by omega) (by omega)]
theorem own_road : ∀ E : Fin 2047, ifCond.holds .ne (if (Int64.ofInt (1074 - (E.val : Int)) &&& (-64 : Int64)) > (0 : Int64) then 1 else if (Int64.ofInt (1074 - (E.val : Int)) &&& (-64 : Int64)) = (0 : Int64) then 0 else -1) = !(decide (1011 ≤ E.val ∧ E.val ≤ 1074)) := by decide +kernel
theorem own_amount : ∀ t : Fin 64, (((Int64.ofInt (1074 - ((1074 - t.val : Nat) : Int))).toInt32 &&& 0x3f).toInt64.toBitVec.smod 64).toNat = t.val := by decide +kernel
theorem own_Zm {v : UInt64} (hf : DFin v) : Zm v = if v.toNat % 2 ^ 63 < 2 ^ 52 then v.toNat % 2 ^ 63 else (2 ^ 52 + own_f v) * 2 ^ (own_E v - 1) := by
  unfold Zm
  rw [zmag_bits hf.ne_nan]
  unfold Jvm.FP.Core.unitsOf
  rw [tails_b64]
  have : v.toNat % 2 ^ 63 % 2 ^ 52 = own_f v := by unfold own_f; omega
  rw [this]; rfl
theorem own_sgn {v : UInt64} (hf : DFin v) : sgn (val64 v) = decide (2 ^ 63 ≤ v.toNat) := sgn_bits hf.ne_nan
/-- the value plus a half, floored -/
def own_F (v : UInt64) : Int := (2 * Zv v + one64) / (2 * one64)
theorem own_pow_pred {E : Nat} (h : 1 ≤ E) : (2 : Int) ^ E = 2 ^ (E - 1) * 2 := by
  obtain ⟨e, rfl⟩ : ∃ e, E = e + 1 := ⟨E - 1, by omega⟩
  exact Int.pow_succ 2 e
theorem own_one_int : ((one64 : Nat) : Int) = (2 : Int) ^ 1074 := by rw [one64_pow]; exact Int.natCast_pow 2 1074
theorem own_cast (A n : Nat) : ((A * 2 ^ n : Nat) : Int) = (A : Int) * 2 ^ n := by rw [Int.natCast_mul, Int.natCast_pow]; rfl
theorem own_div2 (R : Int) (t : Nat) : (R / 2 ^ t + 1) / 2 = (R + 2 ^ t) / 2 ^ (t + 1) := by
  have hp : (0 : Int) < 2 ^ t := Int.pow_pos (by decide)
  rw [Int.pow_succ, ← Int.ediv_ediv_of_nonneg (Int.le_of_lt hp)]
  congr 1
  have := Int.add_mul_ediv_right R 1 (Int.ne_of_gt hp)
  rw [Int.one_mul] at this
  exact this.symm
theorem own_Fnear {v : UInt64} {R : Int} {E : Nat} (h1 : 1 ≤ E) (hE : E ≤ 1074) (hz : Zv v = R * 2 ^ (E - 1)) : own_F v = (R + 2 ^ (1074 - E)) / 2 ^ (1074 - E + 1) := by
  unfold own_F
  have ho : ((one64 : Nat) : Int) = 2 ^ (1074 - E) * 2 ^ E := by
    rw [← Int.pow_add, show 1074 - E + E = 1074 by omega]; exact own_one_int
  have hp : (0 : Int) < 2 ^ E := Int.pow_pos (by decide)
  have h2 : 2 * Zv v = R * 2 ^ E := by
    rw [hz, own_pow_pred h1, Int.mul_comm 2, Int.mul_assoc]
  have h3 : 2 * (one64 : Int) = 2 ^ (1074 - E + 1) * 2 ^ E := by
    rw [ho, Int.pow_succ, Int.mul_comm 2, Int.mul_right_comm]
  rw [h2, h3, ho, ← Int.add_mul, Int.mul_ediv_mul_of_pos_left _ _ hp]
theorem own_round_F {v : UInt64} (hf : DFin v) (hb : Zm v < 2 ^ 62 * one64) : (own_round v).toInt = own_F v := by
  obtain ⟨hE, hsh⟩ := own_sh_int hf
  have hroad := own_road ⟨own_E v, by omega⟩
  have hfl : own_f v < 2 ^ 52 := Nat.mod_lt _ (by decide)
  have hz := own_Zm hf
  have hs := own_sgn hf
  have hl := v.toNat_lt
  have hp := one64_pos
  rw [← hsh] at hroad
  unfold own_round
  by_cases hr : 1011 ≤ own_E v ∧ own_E v ≤ 1074
  · rw [hroad, decide_eq_true hr, if_neg (by decide)]
    obtain ⟨t, ht, het⟩ : ∃ t : Nat, t < 64 ∧ own_E v = 1074 - t := ⟨1074 - own_E v, by omega, by omega⟩
    have ham : (((Int64.ofInt (1074 - ((1074 - t : Nat) : Int))).toInt32 &&& 0x3f).toInt64.toBitVec.smod 64).toNat = t := own_amount ⟨t, ht⟩
    rw [show ((1074 - t : Nat) : Int) = (own_E v : Int) by omega, ← hsh] at ham
    have hne : ¬ v.toNat % 2 ^ 63 < 2 ^ 52 := fun h => by
      have : own_E v = 0 := Nat.div_eq_of_lt h
      omega
    rw [if_neg hne] at hz
    have hsig := own_sig v
    have h1 : (1 : Int64).toInt = 1 := by decide
    have hb1 : ∀ R : Int, R.natAbs ≤ 2 ^ 53 → -2 ^ 53 ≤ R / 2 ^ t ∧ R / 2 ^ t ≤ 2 ^ 53 := fun R hR => by
      have hpt : (0 : Int) < 2 ^ t := Int.pow_pos (by decide)
      have hge : (1 : Int) ≤ 2 ^ t := by omega
      constructor
      · refine Int.le_ediv_of_mul_le hpt ?_
        have : (2 : Int) ^ 53 * 1 ≤ 2 ^ 53 * 2 ^ t := Int.mul_le_mul_of_nonneg_left hge (by decide)
        rw [Int.neg_mul]; omega
      · refine Int.ediv_le_of_le_mul hpt ?_
        have : (2 : Int) ^ 53 * 1 ≤ 2 ^ 53 * 2 ^ t := Int.mul_le_mul_of_nonneg_left hge (by decide)
        omega
    by_cases hneg : v.toNat < 2 ^ 63
    · have hs' : sgn (val64 v) = false := by rw [hs]; simp; omega
      have hZ : Zv v = (2 ^ 52 + own_f v : Nat) * 2 ^ (own_E v - 1) := by rw [Zv_pos hs', hz, own_cast]
      have hc : ifCond.holds .ge (if v.toInt64 > (0 : Int64) then 1 else if v.toInt64 = (0 : Int64) then 0 else -1) = true := by
        have hi := own_int v
        rw [if_pos hneg] at hi
        by_cases g1 : v.toInt64 > 0
        · rw [if_pos g1]; decide
        · have : v.toInt64 = 0 := Int64.toInt_inj.mp (by
            rw [gt_iff_lt, Int64.lt_iff_toInt_lt, Int64.toInt_zero] at g1
            rw [Int64.toInt_zero]; omega)
          rw [if_neg g1, if_pos this]; decide
      rw [if_pos hc, own_Fnear (by omega) hr.2 hZ, i64_shr _ _ (k := 1) (by decide)]
      have hq := i64_shr ((v.toInt64 &&& (4503599627370495 : Int64)) ||| (4503599627370496 : Int64)) _ ham
      obtain ⟨b1, b2⟩ := hb1 (2 ^ 52 + own_f v) (by omega)
      rw [hsig] at hq
      rw [i64_add (by rw [hq, h1]; omega) (by rw [hq, h1]; omega), hq, h1, show 1074 - own_E v = t by omega, Int.pow_one, own_div2]
      rfl
    · have hs' : sgn (val64 v) = true := by rw [hs]; simp; omega
      have hZ : Zv v = (-(2 ^ 52 + own_f v : Nat) : Int) * 2 ^ (own_E v - 1) := by rw [Zv_neg hs', hz, Int.neg_mul, own_cast]
      have hc : ¬ ifCond.holds .ge (if v.toInt64 > (0 : Int64) then 1 else if v.toInt64 = (0 : Int64) then 0 else -1) = true := by
        have hi := own_int v
        rw [if_neg hneg] at hi
        have g1 : ¬ v.toInt64 > 0 := fun g => by rw [gt_iff_lt, Int64.lt_iff_toInt_lt, Int64.toInt_zero] at g; omega
        have g2 : ¬ v.toInt64 = 0 := fun g => by rw [g, Int64.toInt_zero] at hi; omega
        rw [if_neg g1, if_neg g2]; decide
      rw [if_neg hc, own_Fnear (by omega) hr.2 hZ, i64_shr _ _ (k := 1) (by decide)]
      have hneg' : (-((v.toInt64 &&& (4503599627370495 : Int64)) ||| (4503599627370496 : Int64))).toInt = -(2 ^ 52 + own_f v : Int) := by rw [i64_neg (by omega), hsig]
      have hq := i64_shr (-((v.toInt64 &&& (4503599627370495 : Int64)) ||| (4503599627370496 : Int64))) _ ham
      obtain ⟨b1, b2⟩ := hb1 (-(2 ^ 52 + own_f v)) (by omega)
      rw [hneg'] at hq
      rw [i64_add (by rw [hq, h1]; omega) (by rw [hq, h1]; omega), hq, h1, show 1074 - own_E v = t by omega, Int.pow_one, own_div2]
      rfl
  · rw [hroad, decide_eq_false hr, if_pos (by decide)]
    have hd := d2l_val hf.ne_nan
    have hq : Zm v / one64 < 2 ^ 62 := Nat.div_lt_of_lt_mul (by rw [Nat.mul_comm]; exact hb)
    have hd' : (d2l v).toInt = signed (sgn (val64 v)) (Zm v / one64) := by
      refine hd.trans ?_
      show max _ (min _ (signed (sgn (val64 v)) (Zm v / one64))) = _
      generalize Zm v / one64 = D at hq ⊢
      unfold signed; split <;> omega
    show (d2l v).toInt = _
    rw [hd']
    by_cases hlow : own_E v < 1011
    · have hsm : 2 * Zm v < one64 := by
        have h62 : one64 = 2 * 2 ^ 1073 := by rw [one64_pow, show 1074 = 1 + 1073 by rfl, Nat.pow_add]
        have : Zm v < 2 ^ 1073 := by
          rw [hz]; split
          · exact Nat.lt_of_lt_of_le (by assumption) (Nat.pow_le_pow_right (by decide) (by decide))
          · calc (2 ^ 52 + own_f v) * 2 ^ (own_E v - 1) < 2 ^ 53 * 2 ^ (own_E v - 1) := Nat.mul_lt_mul_of_pos_right (by omega) (Nat.two_pow_pos _)
              _ = 2 ^ (53 + (own_E v - 1)) := (Nat.pow_add 2 53 _).symm
              _ ≤ 2 ^ 1073 := Nat.pow_le_pow_right (by decide) (by omega)
        omega
      rw [Nat.div_eq_of_lt (by omega), signed_zero]
      unfold own_F
      refine (Int.ediv_eq_zero_of_lt ?_ ?_).symm
      · have : Zv v = (Zm v : Int) ∨ Zv v = -(Zm v : Int) := by
          unfold Zv zval signed Zm; split
          · exact Or.inr rfl
          · exact Or.inl rfl
        omega
      · have : Zv v = (Zm v : Int) ∨ Zv v = -(Zm v : Int) := by
          unfold Zv zval signed Zm; split
          · exact Or.inr rfl
          · exact Or.inl rfl
        omega
    · have hhigh : 1075 ≤ own_E v := by omega
      have hne : ¬ v.toNat % 2 ^ 63 < 2 ^ 52 := fun h => by
        have : own_E v = 0 := Nat.div_eq_of_lt h
        omega
      rw [if_neg hne] at hz
      obtain ⟨K, hK⟩ : ∃ K, Zm v = K * one64 := ⟨(2 ^ 52 + own_f v) * 2 ^ (own_E v - 1075), by rw [hz, one64_pow, Nat.mul_assoc, ← Nat.pow_add, show own_E v - 1075 + 1074 = own_E v - 1 by omega]⟩
      rw [hK, Nat.mul_div_cancel _ hp]
      have hZ : Zv v = signed (sgn (val64 v)) K * one64 := by
        show signed (sgn (val64 v)) (Zm v) = _
        rw [hK, signed_mul]
      unfold own_F
      rw [hZ, show 2 * (signed (sgn (val64 v)) K * (one64 : Int)) + one64 = one64 + signed (sgn (val64 v)) K * (2 * one64) by rw [Int.mul_left_comm, Int.add_comm], Int.add_mul_ediv_right _ _ (by omega), Int.ediv_eq_zero_of_lt (by omega) (by omega), Int.zero_add]
/-- what a rounded whole significand is: exact -/
theorem own_exact {x : UInt64} {s : Bool} {A : Nat} {q : Int} (h : val64 x = roundRatio b64 s A 1 q) (hA : A < 2 ^ 53) (h1 : -1074 ≤ q) (h2 : q ≤ 971) : DFin x ∧ sgn (val64 x) = s ∧ Zm x = A * 2 ^ (q + 1074).toNat := by
  obtain ⟨c', q', e, hu⟩ := round_exact good_b64 s (c := A) (q := q) hA (by rw [qmin_b64]; exact h1) (by exact h2)
  have e' : val64 x = .fin s c' q' := h.trans e
  refine ⟨⟨_, _, _, e'⟩, by rw [e']; rfl, ?_⟩
  unfold Zm
  rw [e']
  show inUnits c' q' b64.qmin = _
  rw [hu]
  show A * 2 ^ (q - b64.qmin).toNat = _
  rw [qmin_b64, show q - -1074 = q + 1074 by omega]
theorem own_mZ : Zm 4696837146684686336 = 1000000 * one64 := by unfold Zm; decide +kernel
theorem own_mF : DFin 4696837146684686336 := ⟨false, 8589934592000000, -33, by decide +kernel⟩
theorem own_mS : sgn (val64 4696837146684686336) = false := by decide +kernel
theorem own_mz : Zm (4696837146684686336 : UInt64) ≠ 0 := Zm_ne own_mZ (by decide)
theorem own_nn (d : Int64) : val64 (ddiv (l2d d) 4696837146684686336) ≠ .nan := ddiv_ne_nan (Jvm.FP.Core.l2d_fin d) own_mF own_mz
def own_av (q : Int64) : Int64 := q >>> ((25 : Int32) &&& 0x3f).toInt64
theorem own_av_range (q : Int64) : -2 ^ 38 ≤ (own_av q).toInt ∧ (own_av q).toInt < 2 ^ 38 := by
  unfold own_av
  rw [i64_shr q _ (k := 25) (by decide)]
  have h1 := q.toInt_lt
  have h2 := q.le_toInt
  omega
def own_sc (a : Int64) (k : Nat) : UInt64 := FP.ddiv (FP.l2d a) (FP.l2d ((1 : Int64) <<< (Int32.ofNat k &&& 0x3f).toInt64))
theorem own_l2d_sgn (d : Int64) : sgn (val64 (l2d d)) = decide (d.toInt < 0) := by
  obtain ⟨c, q, e⟩ := l2d_shape d
  rw [e]; rfl
theorem own_scX {a : Int64} {k : Nat} (ha : a.toInt.natAbs ≤ 2 ^ 38) (hk : k < 60) : DFin (own_sc a k) ∧ sgn (val64 (own_sc a k)) = decide (a.toInt < 0) ∧ Zm (own_sc a k) = a.toInt.natAbs * 2 ^ (1074 - k) := by
  have DA : DInt a.toInt (l2d a) := l2d_int (by omega)
  have ZA := Zm_DInt DA
  have FA := DInt_fin DA
  have hki : (Int32.ofNat k).toInt = k := Int32.toInt_ofNat_of_lt (by omega)
  obtain ⟨k', hk', hkk, FB, SB, ZB⟩ := shl_l2d (x := Int32.ofNat k) (by omega) (by omega)
  obtain rfl : k' = k := by omega
  have zb : Zm (l2d ((1 : Int64) <<< (Int32.ofNat k' &&& 0x3f).toInt64)) ≠ 0 := Zm_ne ZB (Nat.pos_iff_ne_zero.mp (Nat.two_pow_pos _))
  have hform := ddiv_form FA FB zb
  rw [own_l2d_sgn, SB, ZA, ZB] at hform
  have hc : roundRatio b64 (decide (a.toInt < 0) != false) (a.toInt.natAbs * one64) (2 ^ k' * one64) 0 = roundRatio b64 (decide (a.toInt < 0)) a.toInt.natAbs 1 (-(k' : Int)) := by
    rw [Bool.bne_false]
    refine roundRatio_congr (Nat.mul_pos (Nat.two_pow_pos _) one64_pos) (by decide) ?_
    rw [show (0 - -(k' : Int)).toNat = k' by omega, show (-(k' : Int) - 0).toNat = 0 by omega, Nat.pow_zero, Nat.mul_one, Nat.mul_one]
    rw [Nat.mul_assoc, Nat.mul_comm one64]
  have := own_exact (hform.trans hc) (by omega) (by omega) (by omega)
  rw [show (-(k' : Int) + 1074).toNat = 1074 - k' by omega] at this
  exact this
theorem own_prX {a : Int64} {k : Nat} (ha : a.toInt.natAbs ≤ 2 ^ 38) (hk : k < 60) : DFin (dmul (own_sc a k) 4696837146684686336) ∧ sgn (val64 (dmul (own_sc a k) 4696837146684686336)) = decide (a.toInt < 0) ∧ Zm (dmul (own_sc a k) 4696837146684686336) = a.toInt.natAbs * 15625 * 2 ^ (1080 - k) := by
  obtain ⟨FS, SS, ZS⟩ := own_scX ha hk
  have hform := dmul_form FS own_mF
  rw [SS, own_mS, ZS, own_mZ, Bool.bne_false] at hform
  have hc : roundRatio b64 (decide (a.toInt < 0)) (a.toInt.natAbs * 2 ^ (1074 - k) * (1000000 * one64)) 1 (-2148) = roundRatio b64 (decide (a.toInt < 0)) (a.toInt.natAbs * 15625) 1 (6 - (k : Int)) := by
    refine roundRatio_congr (by decide) (by decide) ?_
    rw [show (-2148 - (6 - (k : Int))).toNat = 0 by omega, show (6 - (k : Int) - -2148).toNat = (1074 - k) + 6 + 1074 by omega, Nat.pow_zero, Nat.mul_one, Nat.mul_one, Nat.mul_one, Nat.pow_add, Nat.pow_add, ← one64_pow, show (1000000 : Nat) = 15625 * 2 ^ 6 by decide]
    simp only [Nat.mul_assoc, Nat.mul_left_comm, Nat.mul_comm]
  have := own_exact (hform.trans hc) (by omega) (by omega) (by omega)
  rw [show (6 - (k : Int) + 1074).toNat = 1080 - k by omega] at this
  exact this
theorem own_Zv_pr {a : Int64} {k : Nat} (ha : a.toInt.natAbs ≤ 2 ^ 38) (hk : k < 60) : Zv (dmul (own_sc a k) 4696837146684686336) = a.toInt * 15625 * 2 ^ (1080 - k) := by
  obtain ⟨-, S, Zq⟩ := own_prX ha hk
  by_cases h : a.toInt < 0
  · rw [Zv_neg (by rw [S]; exact decide_eq_true h), Zq]
    have : ((a.toInt.natAbs * 15625 : Nat) : Int) = -(a.toInt * 15625) := by omega
    rw [own_cast, this, Int.neg_mul, Int.neg_neg]
  · rw [Zv_pos (by rw [S]; exact decide_eq_false h), Zq]
    have : ((a.toInt.natAbs * 15625 : Nat) : Int) = a.toInt * 15625 := by omega
    rw [own_cast, this]
theorem own_bound {a : Int64} {k : Nat} (ha : a.toInt.natAbs ≤ 2 ^ 38) (hk : k < 60) : Zm (dmul (own_sc a k) 4696837146684686336) < 2 ^ 62 * one64 := by
  obtain ⟨-, -, Zq⟩ := own_prX ha hk
  rw [Zq, one64_pow, ← Nat.pow_add]
  calc a.toInt.natAbs * 15625 * 2 ^ (1080 - k) < 2 ^ 53 * 2 ^ (1080 - k) := Nat.mul_lt_mul_of_pos_right (by omega) (Nat.two_pow_pos _)
    _ = 2 ^ (53 + (1080 - k)) := (Nat.pow_add 2 53 _).symm
    _ ≤ 2 ^ (62 + 1074) := Nat.pow_le_pow_right (by decide) (by omega)
theorem own_N {a : Int64} (ha : a.toInt.natAbs ≤ 2 ^ 38) : (a * (15625 : Int64)).toInt = a.toInt * 15625 := by
  have h : (15625 : Int64).toInt = 15625 := by decide
  rw [i64_mul (by rw [h]; omega) (by rw [h]; omega), h]
theorem own_sh6 : ∀ k : Fin 7, ((((6 : Int32) - Int32.ofNat k.val) &&& 0x3f).toInt64.toBitVec.smod 64).toNat = 6 - k.val ∧ if_icmp.holds .gt (Int32.ofNat k.val) (6 : Int32) = false := by decide +kernel
theorem own_sh7 : ∀ j : Fin 53, (((Int32.ofNat (j.val + 7) - (7 : Int32)) &&& 0x3f).toInt64.toBitVec.smod 64).toNat = j.val ∧ (((Int32.ofNat (j.val + 7) - (6 : Int32)) &&& 0x3f).toInt64.toBitVec.smod 64).toNat = j.val + 1 ∧ if_icmp.holds .gt (Int32.ofNat (j.val + 7)) (6 : Int32) = true := by decide +kernel
theorem own_small {a : Int64} {k : Nat} (ha : a.toInt.natAbs ≤ 2 ^ 38) (hk : k < 7) : own_round (dmul (own_sc a k) 4696837146684686336) = (a * (15625 : Int64)) <<< (((6 : Int32) - Int32.ofNat k) &&& 0x3f).toInt64 := by
  have hN := own_N ha
  refine Int64.toInt_inj.mp ?_
  have hpow : (2 : Int) ^ (6 - k) ≤ 64 ∧ (1 : Int) ≤ 2 ^ (6 - k) := by
    have : k = 0 ∨ k = 1 ∨ k = 2 ∨ k = 3 ∨ k = 4 ∨ k = 5 ∨ k = 6 := by omega
    rcases this with rfl | rfl | rfl | rfl | rfl | rfl | rfl <;> decide
  have hr : -2 ^ 63 ≤ a.toInt * 15625 * 2 ^ (6 - k) ∧ a.toInt * 15625 * 2 ^ (6 - k) < 2 ^ 63 := by
    generalize (2 : Int) ^ (6 - k) = P at hpow
    have h1 : (a.toInt * 15625 * P).natAbs = (a.toInt * 15625).natAbs * P.natAbs := Int.natAbs_mul _ _
    have h2 : (a.toInt * 15625).natAbs * P.natAbs ≤ 2 ^ 52 * 64 := Nat.mul_le_mul (by omega) (by omega)
    omega
  rw [own_round_F (own_prX ha (by omega)).1 (own_bound ha (by omega)), i64_shl _ _ (own_sh6 ⟨k, hk⟩).1 (by rw [hN]; exact hr.1) (by rw [hN]; exact hr.2), hN]
  unfold own_F
  rw [own_Zv_pr ha (by omega)]
  have hp := one64_pos
  have e1 : (2 : Int) ^ (1080 - k) = 2 ^ (6 - k) * (one64 : Int) := by
    rw [own_one_int, ← Int.pow_add, show 6 - k + 1074 = 1080 - k by omega]
  rw [e1, show 2 * (a.toInt * 15625 * (2 ^ (6 - k) * (one64 : Int))) + one64 = one64 + (a.toInt * 15625 * 2 ^ (6 - k)) * (2 * one64) by rw [Int.add_comm, ← Int.mul_assoc (a.toInt * 15625), Int.mul_left_comm 2], Int.add_mul_ediv_right _ _ (by omega), Int.ediv_eq_zero_of_lt (by omega) (by omega), Int.zero_add]
theorem own_big {a : Int64} {j : Nat} (ha : a.toInt.natAbs ≤ 2 ^ 38) (hj : j < 53) : own_round (dmul (own_sc a (j + 7)) 4696837146684686336) = ((a * (15625 : Int64)) + ((1 : Int64) <<< ((Int32.ofNat (j + 7) - (7 : Int32)) &&& 0x3f).toInt64)) >>> ((Int32.ofNat (j + 7) - (6 : Int32)) &&& 0x3f).toInt64 := by
  have hN := own_N ha
  have s7 : (((Int32.ofNat (j + 7) - (7 : Int32)) &&& 0x3f).toInt64.toBitVec.smod 64).toNat = j := (own_sh7 ⟨j, hj⟩).1
  have s6 : (((Int32.ofNat (j + 7) - (6 : Int32)) &&& 0x3f).toInt64.toBitVec.smod 64).toNat = j + 1 := (own_sh7 ⟨j, hj⟩).2.1
  have hone : (1 : Int64).toInt = 1 := by decide
  have hpj : (1 : Int) ≤ 2 ^ j ∧ (2 : Int) ^ j ≤ 2 ^ 52 := by
    constructor
    · have : (0 : Int) < 2 ^ j := Int.pow_pos (by decide)
      omega
    · have h := Nat.pow_le_pow_right (n := 2) (by decide) (show j ≤ 52 by omega)
      have h2 : ((2 ^ j : Nat) : Int) ≤ ((2 ^ 52 : Nat) : Int) := Int.ofNat_le.mpr h
      rw [Int.natCast_pow] at h2; exact h2
  have hsh : ((1 : Int64) <<< ((Int32.ofNat (j + 7) - (7 : Int32)) &&& 0x3f).toInt64).toInt = 2 ^ j := by
    rw [i64_shl _ _ s7 (by rw [hone, Int.one_mul]; omega) (by rw [hone, Int.one_mul]; omega), hone, Int.one_mul]
  refine Int64.toInt_inj.mp ?_
  have hr : -2 ^ 63 ≤ a.toInt * 15625 + 2 ^ j ∧ a.toInt * 15625 + 2 ^ j < 2 ^ 63 := by
    generalize (2 : Int) ^ j = P at hpj
    omega
  rw [own_round_F (own_prX ha (by omega)).1 (own_bound ha (by omega)), i64_shr _ _ s6, i64_add (by rw [hN, hsh]; exact hr.1) (by rw [hN, hsh]; exact hr.2), hN, hsh]
  have hz : Zv (dmul (own_sc a (j + 7)) 4696837146684686336) = a.toInt * 15625 * 2 ^ (1074 - j - 1) := by
    rw [own_Zv_pr ha (by omega), show 1080 - (j + 7) = 1074 - j - 1 by omega]
  rw [own_Fnear (E := 1074 - j) (by omega) (by omega) hz, show 1074 - (1074 - j) = j by omega]
theorem own_sv (p : Int32) : ∃ k : Nat, k < 60 ∧ (p &&& (2147483647 : Int32)) - ((p &&& (2147483647 : Int32)) / (60 : Int32)) * (60 : Int32) = Int32.ofNat k := by
  obtain ⟨h1, h2⟩ := irem_range (x := p &&& 2147483647) (n := 60) and_range (by decide)
  exact i32_of_lt (n := 60) h1 h2
theorem own_b99 {v : UInt64} {m : Int64} (h : own_round (FP.dmul v (4696837146684686336 : UInt64)) = m) : ifCond.holds .ne (FP.cmpInt (-1) (FP.dcmp (own_rs v) (FP.ddiv (FP.l2d m) (4696837146684686336 : UInt64)))) = false := by
  unfold own_rs
  rw [h]
  exact if_l_eq (dcmp_self (own_nn _)) (by decide)
end Law
theorem own_rm0 (l : Launch) (Z : State) (a0 : Array Value) (hw : ∀ d ∈ tables_1, d.before a0 Z = true) (ws : List Jvm.Cond) (q0 : Int64) (p1 : Int32) (h0 : Heap) (n0 : Nat) (Z0 : n0 ≤ h0.size) :
    MetFree l x (head1 (Jvm.Cond.code x code maxLocals ret :: ws) room_1) (fun a U => a = #[(.long q0), (.int p1)] ∧ Z.Warmed39 U.vm ∧ U.heap = h0) (fun _ _ _ _ _ => True) (fun _ U o U' => ∃ v L, o = .returned v ∧ QL n0 v U'.heap L ∧ ReturnedEndW U o U' L 3 10) := by
  obtain ⟨a1, a2⟩ := own_av_range q0
  have ha : (own_av q0).toInt.natAbs ≤ 2 ^ 38 := by omega
  obtain ⟨k, hk, hs⟩ := own_sv p1
  have n21 : NoNaN64 (own_sc (own_av q0) k) := OwnF.noNaN (own_scX ha hk).1.ne_nan
  have n7 : NoNaN64 (FP.dmul (own_sc (own_av q0) k) (4696837146684686336 : UInt64)) := OwnF.noNaN (own_prX ha hk).1.ne_nan
  by_cases h7 : k < 7
  · have hm := own_small ha h7
    exact rm0a l Z a0 hw ws q0 p1 (own_av q0) (Int32.ofNat k) (own_sc (own_av q0) k) _ h0 n0 Z0 rfl hs.symm n21 rfl (own_sh6 ⟨k, h7⟩).2 rfl (OwnF.noNaN (own_nn _)) n7 (OwnF.noNaN (own_nn _)) (own_b99 hm)
  · obtain ⟨j, rfl⟩ : ∃ j, k = j + 7 := ⟨k - 7, by omega⟩
    have hm := own_big ha (j := j) (by omega)
    exact rm0b l Z a0 hw ws q0 p1 (own_av q0) (Int32.ofNat (j + 7)) (own_sc (own_av q0) (j + 7)) _ h0 n0 Z0 rfl hs.symm n21 rfl (own_sh7 ⟨j, by omega⟩).2.2 rfl (OwnF.noNaN (own_nn _)) n7 (OwnF.noNaN (own_nn _)) (own_b99 hm)

set_option maxRecDepth 65536 in
set_option maxHeartbeats 40000000 in
theorem comes_1 {Post : Tables → Env → Array Value → State → Outcome → State → Prop} (hpost : ∀ tb e args s v u, (limb_1_1.after args s (.returned v) u = true ∧ limb_1_2.after args s (.returned v) u = true ∧ True) → ReturnedEndW s (.returned v) u (Jvm.fieldLocs frame_1_writes args s ++ Jvm.arrayLocs frame_1_arrays args s ++ Jvm.staticLocs frame_1_statics s) 16 1152 → Post tb e args s (.returned v) u) :
    ArmFor flags0 classFile x code maxLocals ret World_1 tables_1 room_1 Calls_1 rest_1 Pre_1 Post := by
  intro l hfl _ _ p e ha hc hk s m args below hf hA hF happ hP
  obtain ⟨hcalls, hrest, hpre⟩ := hP
  obtain ⟨-, -, -, hnamed, -, -, -, hat⟩ := (Spec.applies_iff hf).mp happ
  obtain ⟨hg, hn⟩ := and_e (Cond.before_iff.mp (show (Jvm.Cond.and given_1 narrow_1).before args s = true from hpre))
  obtain ⟨hcnt, g0⟩ := and_e hg
  obtain ⟨k0, g1⟩ := and_e g0
  obtain ⟨w0, w1, rfl⟩ : ∃ w0 w1 : Value, args = #[w0, w1] := by
    have hs : args.size = 2 := by simpa [Cond.value, given_1] using hcnt
    obtain ⟨L⟩ := args
    match L, hs with
    | [w0, w1], _ => exact ⟨w0, w1, rfl⟩
  have hw := fun d (hd : d ∈ tables_1) => atoms_spec (ws := Jvm.Cond.code x code maxLocals ret :: tables_1) hat d (List.mem_cons_of_mem _ hd)
  have hfit : Fit s := fun {y c} hc i hi => by
    obtain ⟨ha, rfl⟩ := Array.getElem?_eq_some_iff.mp hc
    have q := List.all_eq_true.mp ((Array.all_eq_true_iff_forall_mem.mp hF) _ (Array.getElem_mem ha)) i (List.mem_range.mpr hi)
    simpa [Array.getElem?_eq_getElem hi] using q
  obtain ⟨i0, ei0⟩ := isL_v k0
  obtain rfl : w0 = (.long i0) := Option.some.inj ei0
  obtain ⟨i1, ei1⟩ := is_v g1
  obtain rfl : w1 = (.int i1) := Option.some.inj ei1
  obtain ⟨n, o, h1, h2, h3, _, L, rfl, ⟨rfl, N⟩, hq⟩ := own_rm0 l s _ hw tables_1 i0 i1 s.heap s.heap.size (Nat.le_refl _) p e ha hc hk s m _ below hf ((Spec.applies_iff_loose hf).mp happ).1 ⟨rfl, State.Warmed39.refl s, rfl⟩ trivial
  refine ⟨n, _, h1, h2, h3, hpost _ _ _ _ _ _ ⟨Cond.after_iff.mpr rfl, Cond.after_iff.mpr (eq_i res_at (Term.int_eval (1)) rfl), trivial⟩ ⟨hq.1, hq.2.1, hq.2.2.1, (hq.2.2.2.sift fun y hy => Or.inr (N y hy)).mono (by decide) (by decide)⟩⟩
theorem main_1_1 : Claimed_1_1 := comes_1 fun _ _ _ _ _ _ h hF => ⟨h.1, hF⟩
theorem main_1_2 : Claimed_1_2 := comes_1 fun _ _ _ _ _ _ h hF => ⟨h.2.1, hF⟩
end Jvm.Pilot.@@N@@
namespace Jvm.Pilot.@@N@@
open Jvm Jvm.ClassFile Sem Op Lib Jvm.Free Jvm.Stand Jvm.Pilot.@@N@@.Jvm.D
/-! MADE BY PROGRAM (witnessworld.py) out of the Statement's table words and the real class files: 18 classes; the members and pool entries that the words name. The judged class is class 1, her method 1. -/
namespace start1
open Jvm.ClassFile
def u (s : String) : CpInfo := .utf8 (stringToUtf16 s)
/-- a pool by its gaps: so many unusable entries, then the entry; so many at the end -/
def gap : Nat → List CpInfo → List CpInfo
  | 0, r => r
  | n + 1, r => .unusable :: gap n r
def poolList (es : List (Nat × CpInfo)) (last : Nat) : List CpInfo := es.foldr (fun e r => gap e.1 (e.2 :: r)) (gap last [])
def pool (es : List (Nat × CpInfo)) (last : Nat) : Array CpInfo := ⟨poolList es last⟩
def fileOf (pool : Array CpInfo) (this : Nat) (attrs : Array Attribute := #[]) (ms : Array MethodInfo := #[]) (fl : Nat := 33) (sup : Nat := 0) (ifs : Array Nat := #[]) (fds : Array FieldInfo := #[]) : ClassFile where
  minorVersion := 0
  majorVersion := 65
  constantPool := pool
  accessFlags := fl
  thisClass := this
  superClass := sup
  interfaces := ifs
  fields := fds
  methods := ms
  attributes := attrs
def plain (name : String) (sup : Option ClassId) : Class where
  name := name
  kind := .ordinary
  loader := none
  accessFlags := 33
  super := sup
  interfaces := #[]
  cf := none
  fields := #[]
  methods := #[]
  instanceTypes := #[]
  staticTypes := #[]
  resolved := #[]
  callSites := []
  init := .initialized
  statics := none
  mirror := none

def pool0 : Array CpInfo := pool [(5, u "<init>"), (0, u "()V"), (1, .class_ 10), (1, u "java/lang/Object")] 113

def k0c0 : Code := { maxStack := 0, maxLocals := 1, code := object_method_1_code, exceptionTable := #[], attributes := #[] }
def k0m0 : Method := { name := "<init>", desc := "()V", sig := { parameters := [], returnType := none }, accessFlags := 1, code := some k0c0 }
/-- java/lang/Object -/
def k0 : Class := { plain "java/lang/Object" none with
  accessFlags := 33
  interfaces := #[]
  cf := some (fileOf pool0 8 #[] #[{ accessFlags := 1, nameIndex := 5, descriptorIndex := 6, attributes := #[] }] 33 0 #[] #[])
  fields := #[]
  methods := #[k0m0]
  instanceTypes := #[]
  staticTypes := #[]
  resolved := Array.replicate 124 none
  statics := none }

def pool1 : Array CpInfo := pool [(2, .class_ 4), (1, u "java/lang/Object"), (0, u "<init>"), (0, u "()V"), (0, .integer 2147483647), (0, .class_ 9), (0, u "com/example/ample_prior/ampleprior/ScoredDocument"), (0, .string 11), (0, u "d"), (0, .methodref 8 13), (0, .nameAndType 5 14), (0, u "(Ljava/lang/String;D)V"), (0, .long 15625), (1, .double 4696837146684686336), (1, .methodref 8 20), (0, .nameAndType 21 22), (0, u "roundedScore"), (0, u "()D"), (0, .class_ 24), (0, u "com/example/ample_prior/ampleprior/ScoredDocumentRoundedScorePinLaw"), (2, u "law"), (0, u "(JI)Z")] 3

def k1m0 : Method := { name := "<init>", desc := "()V", sig := { parameters := [], returnType := none }, accessFlags := 1, code := none }
def k1c1 : Code := { maxStack := 6, maxLocals := 15, code := code, exceptionTable := #[], attributes := #[] }
def k1m1 : Method := { name := "law", desc := "(JI)Z", sig := { parameters := [.long, .int], returnType := some .boolean }, accessFlags := 9, code := some k1c1 }
/-- com/example/ample_prior/ampleprior/ScoredDocumentRoundedScorePinLaw -/
def k1 : Class := { plain "com/example/ample_prior/ampleprior/ScoredDocumentRoundedScorePinLaw" (some 0) with
  accessFlags := 49
  interfaces := #[]
  cf := some (fileOf pool1 23 #[] #[{ accessFlags := 1, nameIndex := 5, descriptorIndex := 6, attributes := #[] }, { accessFlags := 9, nameIndex := 27, descriptorIndex := 28, attributes := #[] }] 49 2 #[] #[])
  fields := #[]
  methods := #[k1m0, k1m1]
  instanceTypes := #[]
  staticTypes := #[]
  resolved := Array.replicate 32 none
  statics := none }

def pool2 : Array CpInfo := pool [(1, .methodref 2 3), (0, .class_ 4), (0, .nameAndType 5 6), (0, u "java/lang/Object"), (0, u "<init>"), (0, u "()V"), (0, .class_ 8), (0, u "java/lang/Record")] 13

def k2c0 : Code := { maxStack := 1, maxLocals := 1, code := jdk_30_method_1_code, exceptionTable := #[], attributes := #[] }
def k2m0 : Method := { name := "<init>", desc := "()V", sig := { parameters := [], returnType := none }, accessFlags := 4, code := some k2c0 }
/-- java/lang/Record -/
def k2 : Class := { plain "java/lang/Record" (some 0) with
  accessFlags := 1057
  interfaces := #[]
  cf := some (fileOf pool2 7 #[] #[{ accessFlags := 4, nameIndex := 5, descriptorIndex := 6, attributes := #[] }] 1057 2 #[] #[])
  fields := #[]
  methods := #[k2m0]
  instanceTypes := #[]
  staticTypes := #[]
  resolved := Array.replicate 22 none
  statics := none }

def pool3 : Array CpInfo := pool [(1, .methodref 2 3), (0, .class_ 4), (0, .nameAndType 5 6), (0, u "java/lang/Record"), (0, u "<init>"), (0, u "()V"), (0, .fieldref 8 9), (0, .class_ 10), (0, .nameAndType 11 12), (0, u "com/example/ample_prior/ampleprior/ScoredDocument"), (0, u "docno"), (0, u "Ljava/lang/String;"), (0, .fieldref 8 14), (0, .nameAndType 15 16), (0, u "score"), (0, u "D"), (0, .double 4696837146684686336), (1, .methodref 20 21), (0, .class_ 22), (0, .nameAndType 23 24), (0, u "java/lang/Math"), (0, u "round"), (0, u "(D)J"), (50, u "RANK_ORDER"), (0, u "Ljava/util/Comparator;"), (3, u "SCORE_ORDER"), (0, u "SCORE_DECIMALS"), (0, u "I"), (4, u "SCALE"), (0, u "(Ljava/lang/String;D)V"), (3, u "roundedScore"), (0, u "()D")] 53

def k3c0 : Code := { maxStack := 3, maxLocals := 4, code := prog_8_method_1_code, exceptionTable := #[], attributes := #[] }
def k3m0 : Method := { name := "<init>", desc := "(Ljava/lang/String;D)V", sig := { parameters := [(.object "java/lang/String"), .double], returnType := none }, accessFlags := 1, code := some k3c0 }
def k3c1 : Code := { maxStack := 4, maxLocals := 1, code := prog_8_method_2_code, exceptionTable := #[], attributes := #[] }
def k3m1 : Method := { name := "roundedScore", desc := "()D", sig := { parameters := [], returnType := some .double }, accessFlags := 1, code := some k3c1 }
/-- com/example/ample_prior/ampleprior/ScoredDocument -/
def k3 : Class := { plain "com/example/ample_prior/ampleprior/ScoredDocument" (some 2) with
  accessFlags := 49
  interfaces := #[]
  cf := some (fileOf pool3 8 #[] #[{ accessFlags := 1, nameIndex := 5, descriptorIndex := 88, attributes := #[] }, { accessFlags := 1, nameIndex := 92, descriptorIndex := 93, attributes := #[] }] 49 2 #[] #[{ accessFlags := 18, nameIndex := 11, descriptorIndex := 12, attributes := #[] }, { accessFlags := 18, nameIndex := 15, descriptorIndex := 16, attributes := #[] }, { accessFlags := 25, nameIndex := 81, descriptorIndex := 82, attributes := #[] }, { accessFlags := 25, nameIndex := 75, descriptorIndex := 76, attributes := #[] }, { accessFlags := 25, nameIndex := 80, descriptorIndex := 76, attributes := #[] }, { accessFlags := 26, nameIndex := 87, descriptorIndex := 16, attributes := #[] }])
  fields := #[{ name := "docno", type := (.object "java/lang/String"), accessFlags := 18, slot := 0, constantValue := 0 }, { name := "score", type := .double, accessFlags := 18, slot := 1, constantValue := 0 }, { name := "SCORE_DECIMALS", type := .int, accessFlags := 25, slot := 0, constantValue := 0 }, { name := "RANK_ORDER", type := (.object "java/util/Comparator"), accessFlags := 25, slot := 1, constantValue := 0 }, { name := "SCORE_ORDER", type := (.object "java/util/Comparator"), accessFlags := 25, slot := 2, constantValue := 0 }, { name := "SCALE", type := .double, accessFlags := 26, slot := 3, constantValue := 0 }]
  methods := #[k3m0, k3m1]
  instanceTypes := #[(.object "java/lang/String"), .double]
  staticTypes := #[.int, (.object "java/util/Comparator"), (.object "java/util/Comparator"), .double]
  resolved := Array.replicate 147 none
  statics := none }

def pool4 : Array CpInfo := pool [(1, .class_ 2), (0, u "java/io/Serializable"), (0, .class_ 4), (0, u "java/lang/Object")] 2

/-- java/io/Serializable -/
def k4 : Class := { plain "java/io/Serializable" (some 0) with
  accessFlags := 1537
  interfaces := #[]
  cf := some (fileOf pool4 1 #[] #[] 1537 3 #[] #[])
  fields := #[]
  methods := #[]
  instanceTypes := #[]
  staticTypes := #[]
  resolved := Array.replicate 7 none
  statics := none }

def pool5 : Array CpInfo := pool [(1, .class_ 2), (0, u "java/lang/Comparable"), (0, .class_ 4), (0, u "java/lang/Object")] 7

/-- java/lang/Comparable -/
def k5 : Class := { plain "java/lang/Comparable" (some 0) with
  accessFlags := 1537
  interfaces := #[]
  cf := some (fileOf pool5 1 #[] #[] 1537 3 #[] #[])
  fields := #[]
  methods := #[]
  instanceTypes := #[]
  staticTypes := #[]
  resolved := Array.replicate 12 none
  statics := none }

def pool6 : Array CpInfo := pool [(2, .class_ 4), (1, u "java/lang/CharSequence"), (42, .class_ 48), (0, u "java/lang/CharSequence$1CodePointIterator"), (10, .class_ 60), (0, u "java/lang/CharSequence$1CharIterator"), (5, .class_ 67), (0, u "java/lang/Object")] 63

/-- java/lang/CharSequence -/
def k6 : Class := { plain "java/lang/CharSequence" (some 0) with
  accessFlags := 1537
  interfaces := #[]
  cf := some (fileOf pool6 2 #[.nestMembers #[47, 59]] #[] 1537 66 #[] #[])
  fields := #[]
  methods := #[]
  instanceTypes := #[]
  staticTypes := #[]
  resolved := Array.replicate 131 none
  statics := none }

def pool7 : Array CpInfo := pool [(1, .class_ 2), (0, u "java/lang/constant/Constable"), (0, .class_ 4), (0, u "java/lang/Object")] 6

/-- java/lang/constant/Constable -/
def k7 : Class := { plain "java/lang/constant/Constable" (some 0) with
  accessFlags := 1537
  interfaces := #[]
  cf := some (fileOf pool7 1 #[] #[] 1537 3 #[] #[])
  fields := #[]
  methods := #[]
  instanceTypes := #[]
  staticTypes := #[]
  resolved := Array.replicate 11 none
  statics := none }

def pool8 : Array CpInfo := pool [(1, .class_ 2), (0, u "java/lang/constant/ConstantDesc"), (0, .class_ 4), (0, u "java/lang/Object")] 32

/-- java/lang/constant/ConstantDesc -/
def k8 : Class := { plain "java/lang/constant/ConstantDesc" (some 0) with
  accessFlags := 1537
  interfaces := #[]
  cf := some (fileOf pool8 1 #[] #[] 1537 3 #[] #[])
  fields := #[]
  methods := #[]
  instanceTypes := #[]
  staticTypes := #[]
  resolved := Array.replicate 37 none
  statics := none }

def pool9 : Array CpInfo := pool [(2, .class_ 4), (1, u "java/lang/Object"), (0, u "<init>"), (0, u "()V"), (3, .class_ 12), (1, u "java/lang/String"), (0, u "value"), (0, u "[B"), (2, u "coder"), (0, u "B"), (2, u "hash"), (0, u "I"), (2, u "hashIsZero"), (0, u "Z"), (13, u "COMPACT_STRINGS"), (534, .class_ 576), (0, u "java/lang/CharSequence"), (22, u "CASE_INSENSITIVE_ORDER"), (0, u "Ljava/util/Comparator;"), (500, u "serialPersistentFields"), (0, u "[Ljava/io/ObjectStreamField;"), (0, .class_ 1104), (0, u "java/lang/String$CaseInsensitiveComparator"), (1, .class_ 1107), (0, u "java/io/Serializable"), (0, .class_ 1109), (0, u "java/lang/Comparable"), (0, .class_ 1111), (0, u "java/lang/constant/Constable"), (0, .class_ 1113), (0, u "java/lang/constant/ConstantDesc"), (2, u "serialVersionUID"), (0, u "J"), (3, u "REPL"), (0, u "C"), (2, u "LATIN1"), (1, u "UTF16")] 323

def k9m0 : Method := { name := "<init>", desc := "()V", sig := { parameters := [], returnType := none }, accessFlags := 1, code := none }
/-- java/lang/String -/
def k9 : Class := { plain "java/lang/String" (some 0) with
  accessFlags := 49
  interfaces := #[4, 5, 6, 7, 8]
  cf := some (fileOf pool9 10 #[.nestMembers #[1103]] #[{ accessFlags := 1, nameIndex := 5, descriptorIndex := 6, attributes := #[] }] 49 2 #[1106, 1108, 575, 1110, 1112] #[{ accessFlags := 18, nameIndex := 13, descriptorIndex := 14, attributes := #[] }, { accessFlags := 18, nameIndex := 17, descriptorIndex := 18, attributes := #[] }, { accessFlags := 2, nameIndex := 21, descriptorIndex := 22, attributes := #[] }, { accessFlags := 2, nameIndex := 25, descriptorIndex := 26, attributes := #[] }, { accessFlags := 26, nameIndex := 1116, descriptorIndex := 1117, attributes := #[] }, { accessFlags := 24, nameIndex := 40, descriptorIndex := 26, attributes := #[] }, { accessFlags := 26, nameIndex := 1101, descriptorIndex := 1102, attributes := #[] }, { accessFlags := 26, nameIndex := 1121, descriptorIndex := 1122, attributes := #[] }, { accessFlags := 25, nameIndex := 599, descriptorIndex := 600, attributes := #[] }, { accessFlags := 24, nameIndex := 1125, descriptorIndex := 18, attributes := #[] }, { accessFlags := 24, nameIndex := 1127, descriptorIndex := 18, attributes := #[] }])
  fields := #[{ name := "value", type := (.array .byte), accessFlags := 18, slot := 0, constantValue := 0 }, { name := "coder", type := .byte, accessFlags := 18, slot := 1, constantValue := 0 }, { name := "hash", type := .int, accessFlags := 2, slot := 2, constantValue := 0 }, { name := "hashIsZero", type := .boolean, accessFlags := 2, slot := 3, constantValue := 0 }, { name := "serialVersionUID", type := .long, accessFlags := 26, slot := 0, constantValue := 0 }, { name := "COMPACT_STRINGS", type := .boolean, accessFlags := 24, slot := 1, constantValue := 0 }, { name := "serialPersistentFields", type := (.array (.object "java/io/ObjectStreamField")), accessFlags := 26, slot := 2, constantValue := 0 }, { name := "REPL", type := .char, accessFlags := 26, slot := 3, constantValue := 0 }, { name := "CASE_INSENSITIVE_ORDER", type := (.object "java/util/Comparator"), accessFlags := 25, slot := 4, constantValue := 0 }, { name := "LATIN1", type := .byte, accessFlags := 24, slot := 5, constantValue := 0 }, { name := "UTF16", type := .byte, accessFlags := 24, slot := 6, constantValue := 0 }]
  methods := #[k9m0]
  instanceTypes := #[(.array .byte), .byte, .int, .boolean]
  staticTypes := #[.long, .boolean, (.array (.object "java/io/ObjectStreamField")), .char, (.object "java/util/Comparator"), .byte, .byte]
  resolved := Array.replicate 1451 none
  statics := none }

def pool10 : Array CpInfo := pool [(1, .class_ 2), (0, u "java/lang/Math"), (1, .class_ 6), (1, u "java/lang/Object"), (0, u "<init>"), (0, u "()V"), (70, .methodref 80 81), (0, .class_ 82), (0, .nameAndType 83 84), (0, u "java/lang/Double"), (0, u "doubleToRawLongBits"), (0, u "(D)J"), (2, .long 9218868437227405312), (1, .long 1074), (1, .long 18446744073709551552), (1, .long 4503599627370495), (1, .long 4503599627370496), (2, .class_ 100), (1, u "java/lang/Math$RandomNumberGeneratorHolder"), (71, u "negativeZeroFloatBits"), (0, u "J"), (2, u "negativeZeroDoubleBits"), (68, u "$assertionsDisabled"), (0, u "Z"), (91, u "twoToTheDoubleScaleDown"), (0, u "D"), (4, u "twoToTheDoubleScaleUp"), (9, u "E"), (3, u "PI"), (2, u "TAU"), (2, u "DEGREES_TO_RADIANS"), (0, u "RADIANS_TO_DEGREES"), (17, u "round")] 76

def k10m0 : Method := { name := "<init>", desc := "()V", sig := { parameters := [], returnType := none }, accessFlags := 2, code := none }
def k10c1 : Code := { maxStack := 4, maxLocals := 10, code := jdk_29_method_22_code, exceptionTable := #[], attributes := #[] }
def k10m1 : Method := { name := "round", desc := "(D)J", sig := { parameters := [.double], returnType := some .long }, accessFlags := 9, code := some k10c1 }
/-- java/lang/Math -/
def k10 : Class := { plain "java/lang/Math" (some 0) with
  accessFlags := 49
  interfaces := #[]
  cf := some (fileOf pool10 1 #[.nestMembers #[98]] #[{ accessFlags := 2, nameIndex := 7, descriptorIndex := 8, attributes := #[] }, { accessFlags := 9, nameIndex := 383, descriptorIndex := 84, attributes := #[] }] 49 4 #[] #[{ accessFlags := 25, nameIndex := 354, descriptorIndex := 339, attributes := #[] }, { accessFlags := 25, nameIndex := 358, descriptorIndex := 339, attributes := #[] }, { accessFlags := 25, nameIndex := 361, descriptorIndex := 339, attributes := #[] }, { accessFlags := 26, nameIndex := 364, descriptorIndex := 339, attributes := #[] }, { accessFlags := 26, nameIndex := 365, descriptorIndex := 339, attributes := #[] }, { accessFlags := 26, nameIndex := 172, descriptorIndex := 173, attributes := #[] }, { accessFlags := 26, nameIndex := 176, descriptorIndex := 173, attributes := #[] }, { accessFlags := 8, nameIndex := 344, descriptorIndex := 339, attributes := #[] }, { accessFlags := 8, nameIndex := 338, descriptorIndex := 339, attributes := #[] }, { accessFlags := 4120, nameIndex := 245, descriptorIndex := 246, attributes := #[] }])
  fields := #[{ name := "E", type := .double, accessFlags := 25, slot := 0, constantValue := 0 }, { name := "PI", type := .double, accessFlags := 25, slot := 1, constantValue := 0 }, { name := "TAU", type := .double, accessFlags := 25, slot := 2, constantValue := 0 }, { name := "DEGREES_TO_RADIANS", type := .double, accessFlags := 26, slot := 3, constantValue := 0 }, { name := "RADIANS_TO_DEGREES", type := .double, accessFlags := 26, slot := 4, constantValue := 0 }, { name := "negativeZeroFloatBits", type := .long, accessFlags := 26, slot := 5, constantValue := 0 }, { name := "negativeZeroDoubleBits", type := .long, accessFlags := 26, slot := 6, constantValue := 0 }, { name := "twoToTheDoubleScaleUp", type := .double, accessFlags := 8, slot := 7, constantValue := 0 }, { name := "twoToTheDoubleScaleDown", type := .double, accessFlags := 8, slot := 8, constantValue := 0 }, { name := "$assertionsDisabled", type := .boolean, accessFlags := 4120, slot := 9, constantValue := 0 }]
  methods := #[k10m0, k10m1]
  instanceTypes := #[]
  staticTypes := #[.double, .double, .double, .double, .double, .long, .long, .double, .double, .boolean]
  resolved := Array.replicate 460 none
  statics := none }

def pool11 : Array CpInfo := pool [(2, .class_ 4), (1, u "java/lang/Object"), (0, u "<init>"), (0, u "()V"), (1, .class_ 10), (1, u "java/lang/Number"), (2, .class_ 14), (0, u "java/io/Serializable"), (0, u "serialVersionUID"), (0, u "J")] 20

def k11m0 : Method := { name := "<init>", desc := "()V", sig := { parameters := [], returnType := none }, accessFlags := 1, code := none }
/-- java/lang/Number -/
def k11 : Class := { plain "java/lang/Number" (some 0) with
  accessFlags := 1057
  interfaces := #[4]
  cf := some (fileOf pool11 8 #[] #[{ accessFlags := 1, nameIndex := 5, descriptorIndex := 6, attributes := #[] }] 1057 2 #[13] #[{ accessFlags := 26, nameIndex := 15, descriptorIndex := 16, attributes := #[] }])
  fields := #[{ name := "serialVersionUID", type := .long, accessFlags := 26, slot := 0, constantValue := 0 }]
  methods := #[k11m0]
  instanceTypes := #[]
  staticTypes := #[.long]
  resolved := Array.replicate 37 none
  statics := none }

def pool12 : Array CpInfo := pool [(1, .class_ 2), (0, u "java/lang/Double"), (46, u "(D)J"), (64, .class_ 116), (1, u "java/lang/Number"), (3, u "value"), (0, u "D"), (14, u "doubleToRawLongBits"), (36, u "TYPE"), (0, u "Ljava/lang/Class;"), (0, .class_ 176), (0, u "java/lang/Comparable"), (0, .class_ 178), (0, u "java/lang/constant/Constable"), (0, .class_ 180), (0, u "java/lang/constant/ConstantDesc"), (0, u "POSITIVE_INFINITY"), (3, u "NEGATIVE_INFINITY"), (2, u "NaN"), (2, u "MAX_VALUE"), (0, u "MIN_NORMAL"), (0, u "MIN_VALUE"), (2, u "SIZE"), (0, u "I"), (1, u "PRECISION"), (1, u "MAX_EXPONENT"), (1, u "MIN_EXPONENT"), (1, u "BYTES"), (3, u "serialVersionUID"), (0, u "J")] 79

def k12m0 : Method := { name := "doubleToRawLongBits", desc := "(D)J", sig := { parameters := [.double], returnType := some .long }, accessFlags := 265, code := none }
/-- java/lang/Double -/
def k12 : Class := { plain "java/lang/Double" (some 11) with
  accessFlags := 49
  interfaces := #[5, 7, 8]
  cf := some (fileOf pool12 1 #[] #[{ accessFlags := 265, nameIndex := 136, descriptorIndex := 49, attributes := #[] }] 49 114 #[175, 177, 179] #[{ accessFlags := 25, nameIndex := 181, descriptorIndex := 121, attributes := #[] }, { accessFlags := 25, nameIndex := 185, descriptorIndex := 121, attributes := #[] }, { accessFlags := 25, nameIndex := 188, descriptorIndex := 121, attributes := #[] }, { accessFlags := 25, nameIndex := 191, descriptorIndex := 121, attributes := #[] }, { accessFlags := 25, nameIndex := 192, descriptorIndex := 121, attributes := #[] }, { accessFlags := 25, nameIndex := 193, descriptorIndex := 121, attributes := #[] }, { accessFlags := 25, nameIndex := 196, descriptorIndex := 197, attributes := #[] }, { accessFlags := 25, nameIndex := 199, descriptorIndex := 197, attributes := #[] }, { accessFlags := 25, nameIndex := 201, descriptorIndex := 197, attributes := #[] }, { accessFlags := 25, nameIndex := 203, descriptorIndex := 197, attributes := #[] }, { accessFlags := 25, nameIndex := 205, descriptorIndex := 197, attributes := #[] }, { accessFlags := 25, nameIndex := 173, descriptorIndex := 174, attributes := #[] }, { accessFlags := 18, nameIndex := 120, descriptorIndex := 121, attributes := #[] }, { accessFlags := 26, nameIndex := 209, descriptorIndex := 210, attributes := #[] }])
  fields := #[{ name := "POSITIVE_INFINITY", type := .double, accessFlags := 25, slot := 0, constantValue := 0 }, { name := "NEGATIVE_INFINITY", type := .double, accessFlags := 25, slot := 1, constantValue := 0 }, { name := "NaN", type := .double, accessFlags := 25, slot := 2, constantValue := 0 }, { name := "MAX_VALUE", type := .double, accessFlags := 25, slot := 3, constantValue := 0 }, { name := "MIN_NORMAL", type := .double, accessFlags := 25, slot := 4, constantValue := 0 }, { name := "MIN_VALUE", type := .double, accessFlags := 25, slot := 5, constantValue := 0 }, { name := "SIZE", type := .int, accessFlags := 25, slot := 6, constantValue := 0 }, { name := "PRECISION", type := .int, accessFlags := 25, slot := 7, constantValue := 0 }, { name := "MAX_EXPONENT", type := .int, accessFlags := 25, slot := 8, constantValue := 0 }, { name := "MIN_EXPONENT", type := .int, accessFlags := 25, slot := 9, constantValue := 0 }, { name := "BYTES", type := .int, accessFlags := 25, slot := 10, constantValue := 0 }, { name := "TYPE", type := (.object "java/lang/Class"), accessFlags := 25, slot := 11, constantValue := 0 }, { name := "value", type := .double, accessFlags := 18, slot := 0, constantValue := 0 }, { name := "serialVersionUID", type := .long, accessFlags := 26, slot := 12, constantValue := 0 }]
  methods := #[k12m0]
  instanceTypes := #[.double]
  staticTypes := #[.double, .double, .double, .double, .double, .double, .int, .int, .int, .int, .int, (.object "java/lang/Class"), .long]
  resolved := Array.replicate 290 none
  statics := none }

def pool13 : Array CpInfo := pool [(1, u "java/lang/Cloneable"), (0, .class_ 1), (0, u "java/lang/Object"), (0, .class_ 3)] 3

/-- java/lang/Cloneable -/
def k13 : Class := { plain "java/lang/Cloneable" (some 0) with
  accessFlags := 1537
  interfaces := #[]
  cf := some (fileOf pool13 2 #[] #[] 1537 4 #[] #[])
  fields := #[]
  methods := #[]
  instanceTypes := #[]
  staticTypes := #[]
  resolved := Array.replicate 8 none
  statics := none }

/-- the primitive byte -/
def k14 : Class := { plain "byte" none with kind := .primitive 'B', accessFlags := 0x411 }
/-- [B -/
def k15 : Class := { plain "[B" (some 0) with kind := .array 14 .byte, interfaces := #[13, 4], accessFlags := 1041 }

/-- the primitive int -/
def k16 : Class := { plain "int" none with kind := .primitive 'I', accessFlags := 0x411 }
/-- [I -/
def k17 : Class := { plain "[I" (some 0) with kind := .array 16 .int, interfaces := #[13, 4], accessFlags := 1041 }

def heap : Heap := #[]
def classes : Array Class := #[k0, k1, k2, k3, k4, k5, k6, k7, k8, k9, k10, k11, k12, k13, k14, k15, k16, k17]
def interned : List (Array UInt16 × Addr) := []
def slotsUsed : Nat := 0
def theMethod : MethodId := ⟨1, 1⟩
def args0 : Array Value := #[.long 5, .int 3]
def aboutOver (below : List Frame) : State where
  vm := { classes := classes, interned := interned.toArray }
  heap := heap
  slotsUsed := slotsUsed
  threads := #[{ frames := .invoking theMethod args0 :: below }]
def below0 : List Frame := [.native { method := ⟨0, 0⟩, args := #[] }]
def about1 : State := aboutOver below0
def p0 : Program := .bare "" "" ""
def e0 : Env := launch0.env 0 0 0
theorem w_frames : about1.frames = Frame.invoking theMethod args0 :: below0 := rfl
set_option maxRecDepth 65536 in
theorem w_args : argsFit about1.vm theMethod args0 = true := by decide +kernel
set_option maxRecDepth 65536 in
theorem w_heap : heapFits about1 = true := by decide +kernel
set_option maxRecDepth 65536 in
theorem w_runnable : about1.curStatus? = some .runnable := by decide +kernel
set_option maxRecDepth 65536 in
theorem w_alone : about1.alone = true := by decide +kernel
set_option maxRecDepth 65536 in
theorem w_named : about1.methodNamed? x = some theMethod := by decide +kernel
set_option maxRecDepth 65536 in
theorem w_hears : about1.hears theMethod below0 = true := by decide +kernel
set_option maxRecDepth 65536 in
theorem w_ripe : about1.ripe theMethod args0 below0 = true := by decide +kernel
theorem w_running : about1.status = .running := rfl
set_option maxRecDepth 65536 in
theorem w_room : about1.hasRoom e0.platform room_1 = true :=
  launch0.hasRoom_least _ room_1 (by decide +kernel) (by decide +kernel) (by decide +kernel) (by decide +kernel) (by decide +kernel) (by decide +kernel)
theorem allAtoms_all (ts : List Jvm.Cond) (a : Array Jvm.Value) (st : Jvm.State) : (allAtoms ts).before a st = ts.all (fun c => c.before a st) := by
  induction ts with
  | nil => rfl
  | cons c t ih =>
    show (Jvm.Cond.and c (allAtoms t)).before a st = _
    rw [Jvm.Cond.before_and, ih, List.all_cons]
def words1 : List Jvm.Cond := Jvm.Cond.code x code maxLocals ret :: tables_1
/-- a 'code' word, met by the world's own term for the bytes: nothing is compared byte by byte -/
theorem code_word {y : MethodName} {bytes : ByteArray} {mx : Nat} {rt : Option FieldType} {a : Array Value} {s : State} {m : MethodId} {meth : Method} {c : Code} (h1 : s.methodNamed? y = some m) (h2 : s.vm.method? m = some meth) (h3 : meth.code = some c) (h4 : c.code = bytes)
    (h5 : (c.maxLocals == mx && c.exceptionTable.isEmpty && decide (c.maxStack ≤ mostOperands) && decide (meth.sig.returnType = rt) && !meth.locks && decide (parseMethodDescriptor y.desc = some meth.sig)) = true) : (Jvm.Cond.code y bytes mx rt).before a s = true := by
  simp only [Bool.and_eq_true, beq_iff_eq, Bool.not_eq_true', decide_eq_true_eq] at h5
  obtain ⟨⟨⟨⟨⟨g1, g2⟩, g3⟩, g4⟩, g5⟩, g6⟩ := h5
  simp [Cond.before, Cond.holds, Cond.value, h1, h2, h3, h4, g1, g2, g3, g4, g5, g6]
def isCode : Jvm.Cond → Bool
  | .code _ _ _ _ => true
  | _ => false
theorem all_split {L : List Jvm.Cond} {P : Jvm.Cond → Bool} (h1 : L.all (fun c => isCode c || P c) = true) (h2 : ∀ c ∈ L.filter isCode, P c = true) : L.all P = true := by
  refine List.all_eq_true.mpr fun c hc => ?_
  have h := List.all_eq_true.mp h1 c hc
  rcases Bool.eq_false_or_eq_true (isCode c) with hi | hi
  · exact h2 c (List.mem_filter.mpr ⟨hc, hi⟩)
  · simpa [hi] using h
set_option maxRecDepth 65536 in
theorem w_c0 : (Jvm.Cond.code x code maxLocals ret).before args0 about1 = true := code_word (m := ⟨1, 1⟩) (meth := k1m1) (c := k1c1) (by decide +kernel) rfl rfl rfl (by decide +kernel)
set_option maxRecDepth 65536 in
theorem w_c1 : (Jvm.Cond.code ({ cls := "com/example/ample_prior/ampleprior/ScoredDocument", name := "<init>", desc := "(Ljava/lang/String;D)V" } : Jvm.MethodName) prog_8_method_1_code (4 : Nat) (Option.none : Option Jvm.ClassFile.FieldType)).before args0 about1 = true := code_word (m := ⟨3, 0⟩) (meth := k3m0) (c := k3c0) (by decide +kernel) rfl rfl rfl (by decide +kernel)
set_option maxRecDepth 65536 in
theorem w_c2 : (Jvm.Cond.code ({ cls := "java/lang/Record", name := "<init>", desc := "()V" } : Jvm.MethodName) jdk_30_method_1_code (1 : Nat) (Option.none : Option Jvm.ClassFile.FieldType)).before args0 about1 = true := code_word (m := ⟨2, 0⟩) (meth := k2m0) (c := k2c0) (by decide +kernel) rfl rfl rfl (by decide +kernel)
set_option maxRecDepth 65536 in
theorem w_c3 : (Jvm.Cond.code ({ cls := "java/lang/Object", name := "<init>", desc := "()V" } : Jvm.MethodName) object_method_1_code (1 : Nat) (Option.none : Option Jvm.ClassFile.FieldType)).before args0 about1 = true := code_word (m := ⟨0, 0⟩) (meth := k0m0) (c := k0c0) (by decide +kernel) rfl rfl rfl (by decide +kernel)
set_option maxRecDepth 65536 in
theorem w_c4 : (Jvm.Cond.code ({ cls := "com/example/ample_prior/ampleprior/ScoredDocument", name := "roundedScore", desc := "()D" } : Jvm.MethodName) prog_8_method_2_code (1 : Nat) (Option.some Jvm.ClassFile.FieldType.double)).before args0 about1 = true := code_word (m := ⟨3, 1⟩) (meth := k3m1) (c := k3c1) (by decide +kernel) rfl rfl rfl (by decide +kernel)
set_option maxRecDepth 65536 in
theorem w_c5 : (Jvm.Cond.code ({ cls := "java/lang/Math", name := "round", desc := "(D)J" } : Jvm.MethodName) jdk_29_method_22_code (10 : Nat) (Option.some Jvm.ClassFile.FieldType.long)).before args0 about1 = true := code_word (m := ⟨10, 1⟩) (meth := k10m1) (c := k10c1) (by decide +kernel) rfl rfl rfl (by decide +kernel)
def codes1 : List Jvm.Cond := [Jvm.Cond.code x code maxLocals ret, Jvm.Cond.code ({ cls := "com/example/ample_prior/ampleprior/ScoredDocument", name := "<init>", desc := "(Ljava/lang/String;D)V" } : Jvm.MethodName) prog_8_method_1_code (4 : Nat) (Option.none : Option Jvm.ClassFile.FieldType), Jvm.Cond.code ({ cls := "java/lang/Record", name := "<init>", desc := "()V" } : Jvm.MethodName) jdk_30_method_1_code (1 : Nat) (Option.none : Option Jvm.ClassFile.FieldType), Jvm.Cond.code ({ cls := "java/lang/Object", name := "<init>", desc := "()V" } : Jvm.MethodName) object_method_1_code (1 : Nat) (Option.none : Option Jvm.ClassFile.FieldType), Jvm.Cond.code ({ cls := "com/example/ample_prior/ampleprior/ScoredDocument", name := "roundedScore", desc := "()D" } : Jvm.MethodName) prog_8_method_2_code (1 : Nat) (Option.some Jvm.ClassFile.FieldType.double), Jvm.Cond.code ({ cls := "java/lang/Math", name := "round", desc := "(D)J" } : Jvm.MethodName) jdk_29_method_22_code (10 : Nat) (Option.some Jvm.ClassFile.FieldType.long)]
set_option maxRecDepth 65536 in
theorem codes_eq : words1.filter isCode = codes1 := rfl
theorem w_codes : ∀ c ∈ words1.filter isCode, c.before args0 about1 = true := by
  rw [codes_eq]
  intro c hc
  simp only [codes1, List.mem_cons, List.not_mem_nil, or_false] at hc
  rcases hc with rfl | rfl | rfl | rfl | rfl | rfl
  · exact w_c0
  · exact w_c1
  · exact w_c2
  · exact w_c3
  · exact w_c4
  · exact w_c5
set_option maxRecDepth 65536 in
theorem w_t1 : (words1.take 24).all (fun c => isCode c || c.before args0 about1) = true := by decide +kernel
set_option maxRecDepth 65536 in
theorem w_t2 : ((words1.drop 24).take 24).all (fun c => isCode c || c.before args0 about1) = true := by decide +kernel
set_option maxRecDepth 65536 in
theorem w_t3 : ((words1.drop 24).drop 24).all (fun c => isCode c || c.before args0 about1) = true := by decide +kernel
theorem w_tables : (allAtoms (Jvm.Cond.code x code maxLocals ret :: tables_1)).before args0 about1 = true := by
  rw [allAtoms_all]
  show words1.all (fun c => c.before args0 about1) = true
  refine all_split ?_ w_codes
  rw [← List.take_append_drop 24 words1, List.all_append, w_t1, ← List.take_append_drop 24 (words1.drop 24), List.all_append, w_t2, w_t3]
  rfl
set_option maxRecDepth 65536 in
theorem w_case : (Jvm.Cond.and given_1 narrow_1).before args0 about1 = true := by decide +kernel
theorem w_applies : (headSpec (Jvm.Cond.code x code maxLocals ret :: tables_1) room_1).applies x e0.platform about1 = true :=
  (Spec.applies_iff w_frames).mpr ⟨w_running, w_runnable, w_alone, w_named, w_hears, w_ripe, w_room, w_tables⟩
theorem atStart : AtStart classFile x code maxLocals ret World_1 tables_1 room_1 Calls_1 rest_1 Pre_1 launch0 p0 e0 about1 theMethod args0 below0 :=
  ⟨lists_1, trivial, launch0.admits_env _ _ _, launch0.least_env, fairChoices_fair.cas, fairChoices_fair.clock, w_frames, w_args, w_heap, w_applies, trivial, trivial, w_case⟩
end start1
theorem witness_1 : WitnessClaimed_1 := ⟨start1.p0, start1.e0, start1.about1, start1.theMethod, start1.args0, start1.below0, start1.atStart⟩
end Jvm.Pilot.@@N@@
