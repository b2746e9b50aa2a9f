import JvmDerived
import JvmDerived.Pilot.@@N@@Statement
import JvmDerived.Pilot.@@N@@Code
set_option linter.unusedVariables false
set_option linter.unusedSimpArgs false
@@BLOCK:NumsL.lean.txt@@
namespace Jvm.OwnF
open Sem ClassFile Op Lib Jvm.Stand Jvm.Free Jvm.LawKit Jvm.RoadKit Jvm.Free.Fl
section Ret
variable {p : Program} {l : Launch} {e : Env} {R : Room} {s : State} {m : MethodId} {args : Array Value} {below : List Frame} {meth : Method} {c : Code} {T : State} {locs : List Loc} {cells slots : Nat}
theorem retD (X : Stand p l e R s m args below meth c T locs cells slots) (hx : p.tables.exec = Jvm.exec) {pc : Nat} {Ls : Array Slot} {z : UInt64} {rest : List Value} (hret : meth.sig.returnType = some .double) (hd : decode c.code pc = .ok (.dreturn, 1)) {fs : List Frame}
    (hl : ∀ (f : JFrame) (acts : List Action), f.method = m → f.locked = none → f.entered = [] → (doReturn e (T.setTop f) acts (some (.double z))).1 = T.setFrames fs) : Steps p.tables e below (T.setTop (mkF m pc Ls (.double z :: rest))) (T.setFrames fs) :=
  retOut X hx hret rfl (Or.inr (Or.inr (Or.inl ⟨rfl, rfl, z, rfl⟩))) hd hl
theorem retJ (X : Stand p l e R s m args below meth c T locs cells slots) (hx : p.tables.exec = Jvm.exec) {pc : Nat} {Ls : Array Slot} {z : Int64} {rest : List Value} (hret : meth.sig.returnType = some .long) (hd : decode c.code pc = .ok (.lreturn, 1)) {fs : List Frame}
    (hl : ∀ (f : JFrame) (acts : List Action), f.method = m → f.locked = none → f.entered = [] → (doReturn e (T.setTop f) acts (some (.long z))).1 = T.setFrames fs) : Steps p.tables e below (T.setTop (mkF m pc Ls (.long z :: rest))) (T.setFrames fs) :=
  retOut X hx hret rfl (Or.inr (Or.inl ⟨rfl, rfl, z, rfl⟩)) hd hl
theorem retI (X : Stand p l e R s m args below meth c T locs cells slots) (hx : p.tables.exec = Jvm.exec) {pc : Nat} {Ls : Array Slot} {z : Int32} {rest : List Value} (hret : meth.sig.returnType = some .int) (hd : decode c.code pc = .ok (.ireturn, 1)) {fs : List Frame}
    (hl : ∀ (f : JFrame) (acts : List Action), f.method = m → f.locked = none → f.entered = [] → (doReturn e (T.setTop f) acts (some (.int z))).1 = T.setFrames fs) : Steps p.tables e below (T.setTop (mkF m pc Ls (.int z :: rest))) (T.setFrames fs) :=
  retOut X hx hret rfl (Or.inl ⟨rfl, Or.inl rfl, z, rfl⟩) hd hl
theorem retA (X : Stand p l e R s m args below meth c T locs cells slots) (hx : p.tables.exec = Jvm.exec) {pc : Nat} {Ls : Array Slot} {w : Value} {t : FieldType} {rest : List Value} (hret : meth.sig.returnType = some t) (ht : t.isReference = true) (hw : w.isRef = true) (hd : decode c.code pc = .ok (.areturn, 1)) {fs : List Frame}
    (hl : ∀ (f : JFrame) (acts : List Action), f.method = m → f.locked = none → f.entered = [] → (doReturn e (T.setTop f) acts (some w)).1 = T.setFrames fs) : Steps p.tables e below (T.setTop (mkF m pc Ls (w :: rest))) (T.setFrames fs) :=
  retOut X hx hret (by rcases ref_cases hw with rfl | ⟨a, rfl⟩ <;> cases t <;> first | rfl | (cases ht; done)) (Or.inr (Or.inr (Or.inr (Or.inr ⟨rfl, ht, hw⟩)))) hd hl
end Ret
end Jvm.OwnF
namespace Jvm.OwnF
open Jvm.FP.Core
/-- a double's magnitude, in units of 2^-1074 -/
def Zm (a : UInt64) : Nat := zmag b64 (val64 a)
/-- a double's value, in units of 2^-1074 -/
def Zv (a : UInt64) : Int := zval b64 (val64 a)
theorem one64_pow : one64 = 2 ^ 1074 := rfl
theorem fin_form {a : UInt64} (h : DFin a) : ∃ s c q, val64 a = .fin s c q ∧ b64.qmin ≤ q ∧ Zm a = c * 2 ^ (q + 1074).toNat ∧ sgn (val64 a) = s := by
  obtain ⟨s, c, q, e⟩ := h
  have f := val64_fits a
  rw [e] at f
  refine ⟨s, c, q, e, f.2.1, ?_, by rw [e]; rfl⟩
  unfold Zm
  rw [e]
  show c * 2 ^ (q - b64.qmin).toNat = _
  rw [qmin_b64, show q - (-1074) = q + 1074 by omega]
theorem ddiv_form {a b : UInt64} (ha : DFin a) (hb : DFin b) (hz : Zm b ≠ 0) :
    val64 (ddiv a b) = roundRatio b64 (sgn (val64 a) != sgn (val64 b)) (Zm a) (Zm b) 0 := by
  obtain ⟨s, c, q, ea, hq, za, sa⟩ := fin_form ha
  obtain ⟨t, d, r, eb, hr, zb, sb⟩ := fin_form hb
  rw [qmin_b64] at hq hr
  have hd : d ≠ 0 := fun h => hz (by rw [zb, h, Nat.zero_mul])
  rw [val64_ddiv, sa, sb, za, zb, ea, eb]
  show (if d = 0 then _ else roundRatio b64 (s != t) c d (q - r)) = _
  rw [if_neg hd]
  refine roundRatio_congr (Nat.pos_of_ne_zero hd) (Nat.mul_pos (Nat.pos_of_ne_zero hd) (Nat.two_pow_pos _)) ?_
  have e1 : (q - r - 0).toNat + (r + 1074).toNat = (q + 1074).toNat + (0 - (q - r)).toNat := by omega
  calc c * (d * 2 ^ (r + 1074).toNat) * 2 ^ (q - r - 0).toNat = c * d * (2 ^ ((q - r - 0).toNat + (r + 1074).toNat)) := by
        rw [Nat.pow_add]; simp only [Nat.mul_assoc, Nat.mul_comm, Nat.mul_left_comm]
    _ = c * d * (2 ^ ((q + 1074).toNat + (0 - (q - r)).toNat)) := by rw [e1]
    _ = c * 2 ^ (q + 1074).toNat * d * 2 ^ (0 - (q - r)).toNat := by
        rw [Nat.pow_add]; simp only [Nat.mul_assoc, Nat.mul_comm, Nat.mul_left_comm]
theorem inU (A : Nat) : inUnits A 0 (-1074) = A * one64 := rfl
theorem ddiv_ne_nan {a b : UInt64} (ha : DFin a) (hb : DFin b) (hz : Zm b ≠ 0) : val64 (ddiv a b) ≠ .nan := by
  rw [ddiv_form ha hb hz]; exact roundRatio_ne_nan _ _ _ _ _
theorem ddiv_sgn {a b : UInt64} (ha : DFin a) (hb : DFin b) (hz : Zm b ≠ 0) : sgn (val64 (ddiv a b)) = (sgn (val64 a) != sgn (val64 b)) := by
  rw [ddiv_form ha hb hz]; exact sgn_roundRatio _ _ _ _ _
theorem ddiv_le {a b v : UInt64} (ha : DFin a) (hb : DFin b) (hz : Zm b ≠ 0) (hv : val64 v ≠ .nan) (h : Zm a * one64 ≤ Zm v * Zm b) : Zm (ddiv a b) ≤ Zm v := by
  unfold Zm
  rw [ddiv_form ha hb hz]
  refine zmag_roundRatio_le good_b64 (Nat.pos_of_ne_zero hz) (val64_fits v) hv (e0 := -1074) (by decide) (by decide) ?_
  rw [inU, show (b64.qmin - -1074).toNat = 0 by decide, Nat.pow_zero, Nat.mul_one]
  exact h
theorem ddiv_ge {a b v : UInt64} (ha : DFin a) (hb : DFin b) (hz : Zm b ≠ 0) (h : Zm v * Zm b ≤ Zm a * one64) : Zm v ≤ Zm (ddiv a b) := by
  show _ ≤ zmag b64 _
  rw [ddiv_form ha hb hz]
  refine zmag_roundRatio_ge good_b64 (Nat.pos_of_ne_zero hz) (val64_fits v) (e0 := -1074) (by decide) (by decide) ?_
  rw [inU, show (b64.qmin - -1074).toNat = 0 by decide, Nat.pow_zero, Nat.mul_one]
  exact h
theorem fin_iff_Zm {a : UInt64} (h : val64 a ≠ .nan) : DFin a ↔ Zm a < Zm 9218868437227405312 := by
  have hi : val64 9218868437227405312 = .inf false := by decide +kernel
  constructor
  · intro hf
    have := hf.zval_lt
    unfold Zm
    rw [hi]
    exact this
  · intro hl
    cases e : val64 a with
    | nan => exact absurd e h
    | inf s => unfold Zm at hl; rw [hi, e] at hl; exact absurd hl (Nat.lt_irrefl _)
    | fin s c q => exact ⟨s, c, q, e⟩
theorem fin_of_le {a v : UInt64} (h : val64 a ≠ .nan) (hv : DFin v) (hl : Zm a ≤ Zm v) : DFin a :=
  (fin_iff_Zm h).mpr (Nat.lt_of_le_of_lt hl ((fin_iff_Zm hv.ne_nan).mp hv))
theorem Zv_pos {a : UInt64} (hs : sgn (val64 a) = false) : Zv a = (Zm a : Int) := by
  unfold Zv Zm zval signed
  rw [hs]; simp
theorem Zv_neg {a : UInt64} (hs : sgn (val64 a) = true) : Zv a = -(Zm a : Int) := by
  unfold Zv Zm zval signed
  rw [hs]; simp
theorem cmp_Zv {a b : UInt64} (ha : val64 a ≠ .nan) (hb : val64 b ≠ .nan) : dcmp a b = some (compare (Zv a) (Zv b)) := dcmp_zval ha hb
theorem Zm_DInt {i : Int} {a : UInt64} (h : DInt i a) : Zm a = i.natAbs * one64 := by
  have h1 := DInt_zval h
  have h2 : (zval b64 (val64 a)).natAbs = Zm a := by unfold zval Zm; exact natAbs_signed _ _
  rw [← h2, h1, Int.natAbs_mul]; rfl
theorem DInt_fin {i : Int} {a : UInt64} (h : DInt i a) : DFin a := by
  unfold DInt at h
  cases e : val64 a with
  | nan => rw [e] at h; exact h.elim
  | inf s => rw [e] at h; exact h.elim
  | fin s c q => exact ⟨s, c, q, e⟩
theorem DInt_sgn {i : Int} {a : UInt64} (h : DInt i a) (hi : i ≠ 0) : sgn (val64 a) = decide (i < 0) := by
  obtain ⟨s, c, q, e⟩ := DInt_fin h
  unfold DInt at h
  rw [e] at h ⊢
  exact whole_sign h hi
/-- equal magnitudes, equal signs, nonzero: the same double -/
theorem eq_of_Zm {a b : UInt64} (ha : val64 a ≠ .nan) (hb : val64 b ≠ .nan) (hs : sgn (val64 a) = sgn (val64 b)) (hm : Zm a = Zm b) (hz : Zm b ≠ 0) : a = b := by
  refine eq_bits (fun hzz => hz ?_) ?_
  · obtain ⟨s, q, e⟩ := hzz
    unfold Zm; rw [e]; exact Nat.zero_mul _
  · rw [cmp_Zv ha hb]
    have : Zv a = Zv b := by unfold Zv zval; rw [hs]; show signed _ (Zm a) = signed _ (Zm b); rw [hm]
    rw [this, compare_self_int]
theorem pos_gt_zero {a : UInt64} (ha : val64 a ≠ .nan) (hs : sgn (val64 a) = false) (hm : Zm a ≠ 0) : dcmp a 0 = some .gt := by
  rw [cmp_Zv ha (by rw [val64_zero]; nofun), Zv_pos hs, show Zv 0 = 0 from zval64_zero, Option.some.injEq, compare_gt_iff]
  omega
theorem cmp_pos {a b : UInt64} (ha : val64 a ≠ .nan) (hb : val64 b ≠ .nan) (hsa : sgn (val64 a) = false) (hsb : sgn (val64 b) = false) : dcmp a b = some (compare (Zm a : Int) (Zm b : Int)) := by
  rw [cmp_Zv ha hb, Zv_pos hsa, Zv_pos hsb]
theorem le_pos {a b : UInt64} (ha : val64 a ≠ .nan) (hb : val64 b ≠ .nan) (hsa : sgn (val64 a) = false) (hsb : sgn (val64 b) = false) (h : Zm a ≤ Zm b) : dcmp a b = some .lt ∨ dcmp a b = some .eq := by
  rw [cmp_pos ha hb hsa hsb, Option.some.injEq, Option.some.injEq, compare_lt_iff, compare_eq_iff]
  omega
theorem lt_pos {a b : UInt64} (ha : val64 a ≠ .nan) (hb : val64 b ≠ .nan) (hsa : sgn (val64 a) = false) (hsb : sgn (val64 b) = false) (h : Zm a < Zm b) : dcmp a b = some .lt := by
  rw [cmp_pos ha hb hsa hsb, Option.some.injEq, compare_lt_iff]
  omega
theorem dadd_le {a b v : UInt64} (ha : DFin a) (hb : DFin b) (hv : val64 v ≠ .nan) (h : Zv a + Zv b ≤ Zv v) : Zv (dadd a b) ≤ Zv v := by
  unfold Zv; rw [val64_dadd]; exact sum_le good_b64 ha hb (val64_fits a) (val64_fits b) (val64_fits v) hv h
theorem dadd_ge {a b v : UInt64} (ha : DFin a) (hb : DFin b) (hv : val64 v ≠ .nan) (h : Zv v ≤ Zv a + Zv b) : Zv v ≤ Zv (dadd a b) := by
  unfold Zv; rw [val64_dadd]; exact sum_ge good_b64 ha hb (val64_fits a) (val64_fits b) (val64_fits v) hv h
theorem fin_negate {a : UInt64} (h : DFin a) : ∃ s c q, negate (val64 a) = .fin s c q := by
  obtain ⟨s, c, q, e⟩ := h; rw [e]; exact ⟨_, _, _, rfl⟩
theorem dsub_le {a b v : UInt64} (ha : DFin a) (hb : DFin b) (hv : val64 v ≠ .nan) (h : Zv a - Zv b ≤ Zv v) : Zv (dsub a b) ≤ Zv v := by
  unfold Zv; rw [val64_dsub]
  refine sum_le good_b64 ha (fin_negate hb) (val64_fits a) (negate_fits (val64_fits b)) (val64_fits v) hv ?_
  rw [zval_negate]; unfold Zv at h; omega
theorem dsub_ge {a b v : UInt64} (ha : DFin a) (hb : DFin b) (hv : val64 v ≠ .nan) (h : Zv v ≤ Zv a - Zv b) : Zv v ≤ Zv (dsub a b) := by
  unfold Zv; rw [val64_dsub]
  refine sum_ge good_b64 ha (fin_negate hb) (val64_fits a) (negate_fits (val64_fits b)) (val64_fits v) hv ?_
  rw [zval_negate]; unfold Zv at h; omega
theorem dadd_ne_nan {a b : UInt64} (ha : DFin a) (hb : DFin b) : val64 (dadd a b) ≠ .nan := (notNaN_iff _).mp (dadd_out ha.notNaN hb)
theorem dsub_ne_nan {a b : UInt64} (ha : DFin a) (hb : DFin b) : val64 (dsub a b) ≠ .nan := (notNaN_iff _).mp (dsub_out ha.notNaN hb)
theorem dmul_ne_nan {a b : UInt64} (ha : DFin a) (hb : DFin b) : val64 (dmul a b) ≠ .nan := (notNaN_iff _).mp (dmul_out ha hb)
theorem dmul_form {a b : UInt64} (ha : DFin a) (hb : DFin b) : val64 (dmul a b) = roundRatio b64 (sgn (val64 a) != sgn (val64 b)) (Zm a * Zm b) 1 (-2148) := by
  obtain ⟨s, c, q, ea, hq, za, sa⟩ := fin_form ha
  obtain ⟨t, d, r, eb, hr, zb, sb⟩ := fin_form hb
  rw [qmin_b64] at hq hr
  rw [val64_dmul, sa, sb, za, zb, ea, eb]
  show roundRatio b64 (s != t) (c * d) 1 (q + r) = _
  refine roundRatio_congr (by decide) (by decide) ?_
  rw [show (-2148 - (q + r)).toNat = 0 by omega, show (q + r - -2148).toNat = (q + 1074).toNat + (r + 1074).toNat by omega, Nat.pow_add]
  simp only [Nat.mul_assoc, Nat.mul_comm, Nat.mul_left_comm, Nat.pow_zero, Nat.mul_one, Nat.one_mul]
theorem dmul_sgn {a b : UInt64} (ha : DFin a) (hb : DFin b) : sgn (val64 (dmul a b)) = (sgn (val64 a) != sgn (val64 b)) := by
  rw [dmul_form ha hb]; exact sgn_roundRatio _ _ _ _ _
theorem inU2 (A : Nat) : inUnits A (-2148) (-2148) = A := by unfold inUnits; rw [Int.sub_self]; exact Nat.mul_one _
theorem dmul_le {a b v : UInt64} (ha : DFin a) (hb : DFin b) (hv : val64 v ≠ .nan) (h : Zm a * Zm b ≤ Zm v * one64) : Zm (dmul a b) ≤ Zm v := by
  unfold Zm
  rw [dmul_form ha hb]
  refine zmag_roundRatio_le good_b64 (by decide) (val64_fits v) hv (e0 := -2148) (by decide) (by decide) ?_
  rw [inU2, Nat.mul_one, show (b64.qmin - -2148).toNat = 1074 by decide]
  exact h
theorem dmul_ge {a b v : UInt64} (ha : DFin a) (hb : DFin b) (h : Zm v * one64 ≤ Zm a * Zm b) : Zm v ≤ Zm (dmul a b) := by
  show _ ≤ zmag b64 _
  rw [dmul_form ha hb]
  refine zmag_roundRatio_ge good_b64 (by decide) (val64_fits v) (e0 := -2148) (by decide) (by decide) ?_
  rw [inU2, Nat.mul_one, show (b64.qmin - -2148).toNat = 1074 by decide]
  exact h
theorem noNaN {a : UInt64} (h : val64 a ≠ .nan) : Jvm.Free.Fl.NoNaN64 a := Jvm.Free.Fl.val64_no.mpr h
/-- powers of two up to 2^62, as a shift leaves them -/
theorem pow_l2d : ∀ k : Fin 63, val64 (l2d ((1 : Int64) <<< ((Int32.ofNat k.val) &&& 0x3f).toInt64)) = .fin false (2 ^ 52) ((k.val : Int) - 52) := by decide +kernel
theorem i32_of_lt {x : Int32} {n : Nat} (h0 : 0 ≤ x.toInt) (h : x.toInt < n) : ∃ k : Nat, k < n ∧ x = Int32.ofNat k := by
  refine ⟨x.toInt.toNat, by omega, ?_⟩
  apply Int32.toInt_inj.mp
  have := x.toInt_lt
  rw [Int32.toInt_ofNat_of_lt (by omega)]
  omega
theorem shl_l2d {x : Int32} (h0 : 0 ≤ x.toInt) (h : x.toInt < 63) : ∃ k : Nat, k < 63 ∧ x.toInt = k ∧ DFin (l2d ((1 : Int64) <<< (x &&& 0x3f).toInt64)) ∧ sgn (val64 (l2d ((1 : Int64) <<< (x &&& 0x3f).toInt64))) = false ∧ Zm (l2d ((1 : Int64) <<< (x &&& 0x3f).toInt64)) = 2 ^ k * one64 := by
  obtain ⟨k, hk, rfl⟩ := i32_of_lt (n := 63) h0 (by omega)
  have hp := pow_l2d ⟨k, hk⟩
  have hv : (Int32.ofNat k).toInt = k := Int32.toInt_ofNat_of_lt (by omega)
  refine ⟨k, hk, hv, ⟨_, _, _, hp⟩, by rw [hp]; rfl, ?_⟩
  unfold Zm
  rw [hp]
  show 2 ^ 52 * 2 ^ ((k : Int) - 52 - b64.qmin).toNat = _
  rw [qmin_b64, one64_pow, ← Nat.pow_add, ← Nat.pow_add]
  congr 1
  omega
theorem irem_range {x n : Int32} (hx : 0 ≤ x.toInt) (hn : 0 < n.toInt) : 0 ≤ (x - x / n * n).toInt ∧ (x - x / n * n).toInt < n.toInt := by
  have h1 : x - x / n * n = x % n := irem_eq_mod x n
  rw [h1, Int32.toInt_mod]
  exact ⟨Int.tmod_nonneg _ hx, by have := Int.tmod_lt_of_pos x.toInt hn; omega⟩
theorem and_bounds (x : Int32) {m : Int32} (hm : 0 ≤ m.toInt) : 0 ≤ (x &&& m).toInt ∧ (x &&& m).toInt ≤ m.toInt := by
  have h1 : (x &&& m).toInt = (x.toBitVec &&& m.toBitVec).toInt := rfl
  have h2 : m.toInt = m.toBitVec.toInt := rfl
  rw [h2, BitVec.toInt_eq_toNat_cond] at hm
  rw [h1, h2, BitVec.toInt_eq_toNat_cond, BitVec.toInt_eq_toNat_cond, BitVec.toNat_and]
  have h3 := Nat.and_le_right (n := x.toBitVec.toNat) (m := m.toBitVec.toNat)
  have h4 := m.toBitVec.isLt
  split at hm
  · rw [if_pos (by omega), if_pos (by omega)]; omega
  · omega
theorem and_range {x : Int32} : 0 ≤ (x &&& 2147483647).toInt := (and_bounds x (by decide)).1
theorem Zm_one : Zm 4607182418800017408 = one64 := by unfold Zm; decide +kernel
theorem fin_one : DFin 4607182418800017408 := ⟨false, 2 ^ 52, -52, by decide +kernel⟩
theorem sgn_one : sgn (val64 4607182418800017408) = false := by decide +kernel
theorem pow_split (m n : Nat) (h : m + n = 1074) : 2 ^ m * 2 ^ n = one64 := by rw [← Nat.pow_add, h]; rfl
theorem i2d_fin' (x : Int32) : DFin (i2d x) := DInt_fin (i2d_int x)
theorem i2d_Zm (x : Int32) : Zm (i2d x) = x.toInt.natAbs * one64 := Zm_DInt (i2d_int x)
theorem i2d_sgn {x : Int32} (h : 0 < x.toInt) : sgn (val64 (i2d x)) = false := by rw [DInt_sgn (i2d_int x) (by omega)]; simp; omega
theorem Zm_ne {a : UInt64} {n : Nat} (h : Zm a = n * one64) (hn : n ≠ 0) : Zm a ≠ 0 := by
  rw [h]; exact Nat.mul_ne_zero hn (by have := one64_pos; omega)
theorem if_l_gt {cd : Jvm.ClassFile.Cond} {a b : UInt64} {r : Bool} (h : Jvm.FP.dcmp a b = some .gt) (hr : Jvm.Op.ifCond.holds cd 1 = r) : Jvm.Op.ifCond.holds cd (Jvm.FP.cmpInt (-1) (Jvm.FP.dcmp a b)) = r := by rw [h]; exact hr
theorem if_l_eq {cd : Jvm.ClassFile.Cond} {a b : UInt64} {r : Bool} (h : Jvm.FP.dcmp a b = some .eq) (hr : Jvm.Op.ifCond.holds cd 0 = r) : Jvm.Op.ifCond.holds cd (Jvm.FP.cmpInt (-1) (Jvm.FP.dcmp a b)) = r := by rw [h]; exact hr
theorem if_l_lt {cd : Jvm.ClassFile.Cond} {a b : UInt64} {r : Bool} (h : Jvm.FP.dcmp a b = some .lt) (hr : Jvm.Op.ifCond.holds cd (-1) = r) : Jvm.Op.ifCond.holds cd (Jvm.FP.cmpInt (-1) (Jvm.FP.dcmp a b)) = r := by rw [h]; exact hr
theorem if_g_gt {cd : Jvm.ClassFile.Cond} {a b : UInt64} {r : Bool} (h : Jvm.FP.dcmp a b = some .gt) (hr : Jvm.Op.ifCond.holds cd 1 = r) : Jvm.Op.ifCond.holds cd (Jvm.FP.cmpInt 1 (Jvm.FP.dcmp a b)) = r := by rw [h]; exact hr
theorem if_g_eq {cd : Jvm.ClassFile.Cond} {a b : UInt64} {r : Bool} (h : Jvm.FP.dcmp a b = some .eq) (hr : Jvm.Op.ifCond.holds cd 0 = r) : Jvm.Op.ifCond.holds cd (Jvm.FP.cmpInt 1 (Jvm.FP.dcmp a b)) = r := by rw [h]; exact hr
theorem if_g_lt {cd : Jvm.ClassFile.Cond} {a b : UInt64} {r : Bool} (h : Jvm.FP.dcmp a b = some .lt) (hr : Jvm.Op.ifCond.holds cd (-1) = r) : Jvm.Op.ifCond.holds cd (Jvm.FP.cmpInt 1 (Jvm.FP.dcmp a b)) = r := by rw [h]; exact hr
theorem cmpl_gt {a b : UInt64} (h : Jvm.FP.dcmp a b = some .gt) : Jvm.FP.cmpInt (-1) (Jvm.FP.dcmp a b) = 1 := by rw [h]; rfl
theorem cmpg_gt {a b : UInt64} (h : Jvm.FP.dcmp a b = some .gt) : Jvm.FP.cmpInt 1 (Jvm.FP.dcmp a b) = 1 := by rw [h]; rfl
theorem cmpl_lt {a b : UInt64} (h : Jvm.FP.dcmp a b = some .lt) : Jvm.FP.cmpInt (-1) (Jvm.FP.dcmp a b) = -1 := by rw [h]; rfl
theorem cmpg_lt {a b : UInt64} (h : Jvm.FP.dcmp a b = some .lt) : Jvm.FP.cmpInt 1 (Jvm.FP.dcmp a b) = -1 := by rw [h]; rfl
theorem cmpl_eq {a b : UInt64} (h : Jvm.FP.dcmp a b = some .eq) : Jvm.FP.cmpInt (-1) (Jvm.FP.dcmp a b) = 0 := by rw [h]; rfl
theorem cmpg_eq {a b : UInt64} (h : Jvm.FP.dcmp a b = some .eq) : Jvm.FP.cmpInt 1 (Jvm.FP.dcmp a b) = 0 := by rw [h]; rfl
end Jvm.OwnF
namespace Jvm.Pilot.@@N@@
open Jvm Jvm.ClassFile Sem Op Lib Jvm.Free Jvm.Free.Fl Jvm.Stand Jvm.LawKit Jvm.RoadKit Bundle Jvm.Pilot.@@N@@.Jvm.D
def QP (r : Option Value) (h0 : Heap) (n0 : Nat) (v : Option Value) (h : Heap) (L : List Loc) : Prop := v = r ∧ Fr n0 L ∧ h = h0
def QL (n0 : Nat) (v : Option Value) (h : Heap) (L : List Loc) : Prop := v = some (.int 1) ∧ Fr n0 L
section LawA
open Jvm.FP.Core Jvm.OwnF Jvm.Kit
theorem own_20Z : Zm 4626322717216342016 = 20 * one64 := by unfold Zm; decide +kernel
theorem own_20F : DFin 4626322717216342016 := ⟨false, 5629499534213120, -48, by decide +kernel⟩
theorem own_20n (x : Int32) : val64 (ddiv (i2d x) 4626322717216342016) ≠ .nan := ddiv_ne_nan (i2d_fin' x) own_20F (Zm_ne own_20Z (by decide))
theorem own_nn20 (x : Int32) : NoNaN64 (FP.ddiv (FP.i2d x) (4626322717216342016 : UInt64)) := noNaN (own_20n x)
end LawA

theorem d1_0 : decode prog_22_method_2_code 0 = .ok (.bipush 19, 2) := by decide +kernel
theorem d1_2 : decode prog_22_method_2_code 2 = .ok (.newarray .double, 2) := by decide +kernel
theorem d1_4 : decode prog_22_method_2_code 4 = .ok (.astore_n 0, 1) := by decide +kernel
theorem d1_5 : decode prog_22_method_2_code 5 = .ok (.iconst 1, 1) := by decide +kernel
theorem d1_6 : decode prog_22_method_2_code 6 = .ok (.istore_n 1, 1) := by decide +kernel
theorem d1_7 : decode prog_22_method_2_code 7 = .ok (.iload_n 1, 1) := by decide +kernel
theorem d1_8 : decode prog_22_method_2_code 8 = .ok (.bipush 19, 2) := by decide +kernel
theorem d1_10 : decode prog_22_method_2_code 10 = .ok (.if_icmp .gt 20, 3) := by decide +kernel
theorem d1_13 : decode prog_22_method_2_code 13 = .ok (.aload_n 0, 1) := by decide +kernel
theorem d1_14 : decode prog_22_method_2_code 14 = .ok (.iload_n 1, 1) := by decide +kernel
theorem d1_15 : decode prog_22_method_2_code 15 = .ok (.iconst 1, 1) := by decide +kernel
theorem d1_16 : decode prog_22_method_2_code 16 = .ok (.isub, 1) := by decide +kernel
theorem d1_17 : decode prog_22_method_2_code 17 = .ok (.iload_n 1, 1) := by decide +kernel
theorem d1_18 : decode prog_22_method_2_code 18 = .ok (.i2d, 1) := by decide +kernel
theorem d1_19 : decode prog_22_method_2_code 19 = .ok (.ldc2_w 17, 3) := by decide +kernel
theorem d1_22 : decode prog_22_method_2_code 22 = .ok (.ddiv, 1) := by decide +kernel
theorem d1_23 : decode prog_22_method_2_code 23 = .ok (.dastore, 1) := by decide +kernel
theorem d1_24 : decode prog_22_method_2_code 24 = .ok (.iinc 1 1, 3) := by decide +kernel
theorem d1_27 : decode prog_22_method_2_code 27 = .ok (.goto (-20), 3) := by decide +kernel
theorem d1_30 : decode prog_22_method_2_code 30 = .ok (.aload_n 0, 1) := by decide +kernel
theorem d1_31 : decode prog_22_method_2_code 31 = .ok (.areturn, 1) := by decide +kernel
def own_vs : List Value := [(.double (FP.ddiv (FP.i2d (1 : Int32)) (4626322717216342016 : UInt64))), (.double (FP.ddiv (FP.i2d (2 : Int32)) (4626322717216342016 : UInt64))), (.double (FP.ddiv (FP.i2d (3 : Int32)) (4626322717216342016 : UInt64))), (.double (FP.ddiv (FP.i2d (4 : Int32)) (4626322717216342016 : UInt64))), (.double (FP.ddiv (FP.i2d (5 : Int32)) (4626322717216342016 : UInt64))), (.double (FP.ddiv (FP.i2d (6 : Int32)) (4626322717216342016 : UInt64))), (.double (FP.ddiv (FP.i2d (7 : Int32)) (4626322717216342016 : UInt64))), (.double (FP.ddiv (FP.i2d (8 : Int32)) (4626322717216342016 : UInt64))), (.double (FP.ddiv (FP.i2d (9 : Int32)) (4626322717216342016 : UInt64))), (.double (FP.ddiv (FP.i2d (10 : Int32)) (4626322717216342016 : UInt64))), (.double (FP.ddiv (FP.i2d (11 : Int32)) (4626322717216342016 : UInt64))), (.double (FP.ddiv (FP.i2d (12 : Int32)) (4626322717216342016 : UInt64))), (.double (FP.ddiv (FP.i2d (13 : Int32)) (4626322717216342016 : UInt64))), (.double (FP.ddiv (FP.i2d (14 : Int32)) (4626322717216342016 : UInt64))), (.double (FP.ddiv (FP.i2d (15 : Int32)) (4626322717216342016 : UInt64))), (.double (FP.ddiv (FP.i2d (16 : Int32)) (4626322717216342016 : UInt64))), (.double (FP.ddiv (FP.i2d (17 : Int32)) (4626322717216342016 : UInt64))), (.double (FP.ddiv (FP.i2d (18 : Int32)) (4626322717216342016 : UInt64))), (.double (FP.ddiv (FP.i2d (19 : Int32)) (4626322717216342016 : UInt64)))]
def QD (Z : State) (h0 : Heap) (n0 : Nat) (v : Option Value) (h : Heap) (L : List Loc) : Prop := ∃ a k, v = some (.ref a) ∧ Fr n0 L ∧ Keep h0 h [] ∧ h0.size ≤ a ∧ Arv Z h a k .double (19 : Int32) own_vs (.double (0 : UInt64))
theorem pn_0 : plainName "com/example/damping/damping/mass/MassCurve" = true := by first | (simp [plainName, overriddenIn]; done) | decide +kernel
theorem ef_rmD (m : MethodId)  : entryFrame m #[] 2 = mkF m 0 #[.unset, .unset] [] := by first | (simp [entryFrame, mkF, argsToLocals, Value.category]; done) | rfl
set_option maxRecDepth 65536 in
set_option maxHeartbeats 40000000 in
theorem rmD (l : Launch) (Z : State) (a0 : Array Value) (hw : ∀ d ∈ tables_1, d.before a0 Z = true) (ws : List Jvm.Cond)   (h0 : Heap) (n0 : Nat) (Z0 : n0 ≤ h0.size)  :
    MetFree l (⟨"com/example/damping/damping/mass/MassCurve", "defaultDampings", "()[D"⟩ : MethodName) (head1 (Jvm.Cond.code (⟨"com/example/damping/damping/mass/MassCurve", "defaultDampings", "()[D"⟩ : MethodName) prog_22_method_2_code 2 (some (.array .double)) :: ws) ({ frames := 0, cells := 1, slots := 19, locals := 0 } : Room)) (fun a U => a = #[] ∧ Z.Warmed39 U.vm ∧ U.heap = h0) (fun _ _ _ _ _ => True) (fun _ U o U' => ∃ v L, o = .returned v ∧ QD Z h0 n0 v U'.heap L ∧ FrameEnd U o U' L ({ frames := 0, cells := 1, slots := 19, locals := 0 } : Room).cells ({ frames := 0, cells := 1, slots := 19, locals := 0 } : Room).slots) := by
  refine MetFree.of_bodySF (plainFor_of_name pn_0) hisR ?_
  intro p e s m args below meth c s₁ Bd hml0 hP hK
  obtain ⟨rfl, hZ, hh⟩ := hP
  have hx := Bd.exec
  have hby := Bd.bytes
  have hml : c.maxLocals = 2 := hml0
  have hown : s.vm.findClass "com/example/damping/damping/mass/MassCurve" = some m.cls := findClass_of_methodNamed Bd.named
  have hnm := (name_of_methodNamed Bd.named Bd.method).1
  have X0 : Stand p l e ({ frames := 0, cells := 1, slots := 19, locals := 0 } : Room) s m #[] below meth c s₁ [] 0 0 := Stand.of_body Bd
  have e0 : s₁.heap = h0 := by rw [← hh, Bd.state]; rfl
  have N0 := Fr.nil n0
  have pre0 : ∀ t, Steps p.tables e below (s₁.setTop (mkF m 0 #[.unset, .unset] [])) t → Steps p.tables e below (s₁.setTop (entryFrame m #[] 2)) t := fun t k => castTop (ef_rmD m) k
  obtain ⟨T1, h1, k1, X1, e1, E1, A1, st1⟩ := newP X0 hx hZ (hw _ (List.mem_of_getElem? (i := 5) rfl)) e0 (g := (mkF m 2 #[.unset, .unset] [(.int (19 : Int32))])) rfl (hb hby d1_2) rfl (by decide) (cap := 19) (by decide) (by decide) (by decide) (by decide)
  obtain ⟨b1, g1⟩ : ∃ z, z = h0.size := ⟨_, rfl⟩
  have g_b1 : n0 ≤ b1 := Nat.le_trans Z0 (Nat.le_of_eq g1.symm)
  have sz_b1 : h0.size ≤ b1 := Nat.le_trans (Keep.refl h0 []).1 (Nat.le_of_eq g1.symm)
  rw [← g1] at A1 st1
  have V1 : Arv Z h1 b1 k1 .double (19 : Int32) [(.double (0 : UInt64)), (.double (0 : UInt64)), (.double (0 : UInt64)), (.double (0 : UInt64)), (.double (0 : UInt64)), (.double (0 : UInt64)), (.double (0 : UInt64)), (.double (0 : UInt64)), (.double (0 : UInt64)), (.double (0 : UInt64)), (.double (0 : UInt64)), (.double (0 : UInt64)), (.double (0 : UInt64)), (.double (0 : UInt64)), (.double (0 : UInt64)), (.double (0 : UInt64)), (.double (0 : UInt64)), (.double (0 : UInt64)), (.double (0 : UInt64))] (.double (0 : UInt64)) := (Arv.new A1 (by decide)).pad (pad_rep [] (.double (0 : UInt64)) 19)
  have K1 : Keep h0 h1 [] := (Keep.refl h0 []).ext E1
  obtain ⟨cl2, Ar2, q2, S2, N2n, H2h, G2g⟩ := id V1
  have hin2 : ¬ ((0 : Int32) < 0 ∨ cl2.slots.size ≤ ((0 : Int32)).toNatClampNeg) := inb_of S2 ⟨by decide, by decide⟩
  obtain ⟨T2, h2, X2, e2, W2, st2⟩ := stD X1 hx hZ e1 Ar2 (j := (0 : Int32)) hin2 (g := (mkF m 23 #[.val (.ref b1), .val (.int (1 : Int32))] [(.double (FP.ddiv (FP.i2d (1 : Int32)) (4626322717216342016 : UInt64))), (.int (0 : Int32)), (.ref b1)])) rfl rfl (hb hby d1_23)
  have V2 : Arv Z h2 b1 k1 .double (19 : Int32) [(.double (FP.ddiv (FP.i2d (1 : Int32)) (4626322717216342016 : UInt64))), (.double (0 : UInt64)), (.double (0 : UInt64)), (.double (0 : UInt64)), (.double (0 : UInt64)), (.double (0 : UInt64)), (.double (0 : UInt64)), (.double (0 : UInt64)), (.double (0 : UInt64)), (.double (0 : UInt64)), (.double (0 : UInt64)), (.double (0 : UInt64)), (.double (0 : UInt64)), (.double (0 : UInt64)), (.double (0 : UInt64)), (.double (0 : UInt64)), (.double (0 : UInt64)), (.double (0 : UInt64)), (.double (0 : UInt64))] (.double (0 : UInt64)) := Arv.set Ar2 q2 S2 N2n H2h G2g rfl W2 0 rfl (Nat.le_of_ble_eq_true rfl)
  have K2 : Keep h0 h2 [] := K1.wr W2 (Or.inr sz_b1)
  have N2 := Fr.snoc X2 N0 g_b1
  obtain ⟨cl3, Ar3, q3, S3, N3n, H3h, G3g⟩ := id V2
  have hin3 : ¬ ((1 : Int32) < 0 ∨ cl3.slots.size ≤ ((1 : Int32)).toNatClampNeg) := inb_of S3 ⟨by decide, by decide⟩
  obtain ⟨T3, h3, X3, e3, W3, st3⟩ := stD X2 hx hZ e2 Ar3 (j := (1 : Int32)) hin3 (g := (mkF m 23 #[.val (.ref b1), .val (.int (2 : Int32))] [(.double (FP.ddiv (FP.i2d (2 : Int32)) (4626322717216342016 : UInt64))), (.int (1 : Int32)), (.ref b1)])) rfl rfl (hb hby d1_23)
  have V3 : Arv Z h3 b1 k1 .double (19 : Int32) [(.double (FP.ddiv (FP.i2d (1 : Int32)) (4626322717216342016 : UInt64))), (.double (FP.ddiv (FP.i2d (2 : Int32)) (4626322717216342016 : UInt64))), (.double (0 : UInt64)), (.double (0 : UInt64)), (.double (0 : UInt64)), (.double (0 : UInt64)), (.double (0 : UInt64)), (.double (0 : UInt64)), (.double (0 : UInt64)), (.double (0 : UInt64)), (.double (0 : UInt64)), (.double (0 : UInt64)), (.double (0 : UInt64)), (.double (0 : UInt64)), (.double (0 : UInt64)), (.double (0 : UInt64)), (.double (0 : UInt64)), (.double (0 : UInt64)), (.double (0 : UInt64))] (.double (0 : UInt64)) := Arv.set Ar3 q3 S3 N3n H3h G3g rfl W3 1 rfl (Nat.le_of_ble_eq_true rfl)
  have K3 : Keep h0 h3 [] := K2.wr W3 (Or.inr sz_b1)
  have N3 := Fr.snoc X3 N2 g_b1
  obtain ⟨cl4, Ar4, q4, S4, N4n, H4h, G4g⟩ := id V3
  have hin4 : ¬ ((2 : Int32) < 0 ∨ cl4.slots.size ≤ ((2 : Int32)).toNatClampNeg) := inb_of S4 ⟨by decide, by decide⟩
  obtain ⟨T4, h4, X4, e4, W4, st4⟩ := stD X3 hx hZ e3 Ar4 (j := (2 : Int32)) hin4 (g := (mkF m 23 #[.val (.ref b1), .val (.int (3 : Int32))] [(.double (FP.ddiv (FP.i2d (3 : Int32)) (4626322717216342016 : UInt64))), (.int (2 : Int32)), (.ref b1)])) rfl rfl (hb hby d1_23)
  have V4 : Arv Z h4 b1 k1 .double (19 : Int32) [(.double (FP.ddiv (FP.i2d (1 : Int32)) (4626322717216342016 : UInt64))), (.double (FP.ddiv (FP.i2d (2 : Int32)) (4626322717216342016 : UInt64))), (.double (FP.ddiv (FP.i2d (3 : Int32)) (4626322717216342016 : UInt64))), (.double (0 : UInt64)), (.double (0 : UInt64)), (.double (0 : UInt64)), (.double (0 : UInt64)), (.double (0 : UInt64)), (.double (0 : UInt64)), (.double (0 : UInt64)), (.double (0 : UInt64)), (.double (0 : UInt64)), (.double (0 : UInt64)), (.double (0 : UInt64)), (.double (0 : UInt64)), (.double (0 : UInt64)), (.double (0 : UInt64)), (.double (0 : UInt64)), (.double (0 : UInt64))] (.double (0 : UInt64)) := Arv.set Ar4 q4 S4 N4n H4h G4g rfl W4 2 rfl (Nat.le_of_ble_eq_true rfl)
  have K4 : Keep h0 h4 [] := K3.wr W4 (Or.inr sz_b1)
  have N4 := Fr.snoc X4 N3 g_b1
  obtain ⟨cl5, Ar5, q5, S5, N5n, H5h, G5g⟩ := id V4
  have hin5 : ¬ ((3 : Int32) < 0 ∨ cl5.slots.size ≤ ((3 : Int32)).toNatClampNeg) := inb_of S5 ⟨by decide, by decide⟩
  obtain ⟨T5, h5, X5, e5, W5, st5⟩ := stD X4 hx hZ e4 Ar5 (j := (3 : Int32)) hin5 (g := (mkF m 23 #[.val (.ref b1), .val (.int (4 : Int32))] [(.double (FP.ddiv (FP.i2d (4 : Int32)) (4626322717216342016 : UInt64))), (.int (3 : Int32)), (.ref b1)])) rfl rfl (hb hby d1_23)
  have V5 : Arv Z h5 b1 k1 .double (19 : Int32) [(.double (FP.ddiv (FP.i2d (1 : Int32)) (4626322717216342016 : UInt64))), (.double (FP.ddiv (FP.i2d (2 : Int32)) (4626322717216342016 : UInt64))), (.double (FP.ddiv (FP.i2d (3 : Int32)) (4626322717216342016 : UInt64))), (.double (FP.ddiv (FP.i2d (4 : Int32)) (4626322717216342016 : UInt64))), (.double (0 : UInt64)), (.double (0 : UInt64)), (.double (0 : UInt64)), (.double (0 : UInt64)), (.double (0 : UInt64)), (.double (0 : UInt64)), (.double (0 : UInt64)), (.double (0 : UInt64)), (.double (0 : UInt64)), (.double (0 : UInt64)), (.double (0 : UInt64)), (.double (0 : UInt64)), (.double (0 : UInt64)), (.double (0 : UInt64)), (.double (0 : UInt64))] (.double (0 : UInt64)) := Arv.set Ar5 q5 S5 N5n H5h G5g rfl W5 3 rfl (Nat.le_of_ble_eq_true rfl)
  have K5 : Keep h0 h5 [] := K4.wr W5 (Or.inr sz_b1)
  have N5 := Fr.snoc X5 N4 g_b1
  obtain ⟨cl6, Ar6, q6, S6, N6n, H6h, G6g⟩ := id V5
  have hin6 : ¬ ((4 : Int32) < 0 ∨ cl6.slots.size ≤ ((4 : Int32)).toNatClampNeg) := inb_of S6 ⟨by decide, by decide⟩
  obtain ⟨T6, h6, X6, e6, W6, st6⟩ := stD X5 hx hZ e5 Ar6 (j := (4 : Int32)) hin6 (g := (mkF m 23 #[.val (.ref b1), .val (.int (5 : Int32))] [(.double (FP.ddiv (FP.i2d (5 : Int32)) (4626322717216342016 : UInt64))), (.int (4 : Int32)), (.ref b1)])) rfl rfl (hb hby d1_23)
  have V6 : Arv Z h6 b1 k1 .double (19 : Int32) [(.double (FP.ddiv (FP.i2d (1 : Int32)) (4626322717216342016 : UInt64))), (.double (FP.ddiv (FP.i2d (2 : Int32)) (4626322717216342016 : UInt64))), (.double (FP.ddiv (FP.i2d (3 : Int32)) (4626322717216342016 : UInt64))), (.double (FP.ddiv (FP.i2d (4 : Int32)) (4626322717216342016 : UInt64))), (.double (FP.ddiv (FP.i2d (5 : Int32)) (4626322717216342016 : UInt64))), (.double (0 : UInt64)), (.double (0 : UInt64)), (.double (0 : UInt64)), (.double (0 : UInt64)), (.double (0 : UInt64)), (.double (0 : UInt64)), (.double (0 : UInt64)), (.double (0 : UInt64)), (.double (0 : UInt64)), (.double (0 : UInt64)), (.double (0 : UInt64)), (.double (0 : UInt64)), (.double (0 : UInt64)), (.double (0 : UInt64))] (.double (0 : UInt64)) := Arv.set Ar6 q6 S6 N6n H6h G6g rfl W6 4 rfl (Nat.le_of_ble_eq_true rfl)
  have K6 : Keep h0 h6 [] := K5.wr W6 (Or.inr sz_b1)
  have N6 := Fr.snoc X6 N5 g_b1
  obtain ⟨cl7, Ar7, q7, S7, N7n, H7h, G7g⟩ := id V6
  have hin7 : ¬ ((5 : Int32) < 0 ∨ cl7.slots.size ≤ ((5 : Int32)).toNatClampNeg) := inb_of S7 ⟨by decide, by decide⟩
  obtain ⟨T7, h7, X7, e7, W7, st7⟩ := stD X6 hx hZ e6 Ar7 (j := (5 : Int32)) hin7 (g := (mkF m 23 #[.val (.ref b1), .val (.int (6 : Int32))] [(.double (FP.ddiv (FP.i2d (6 : Int32)) (4626322717216342016 : UInt64))), (.int (5 : Int32)), (.ref b1)])) rfl rfl (hb hby d1_23)
  have V7 : Arv Z h7 b1 k1 .double (19 : Int32) [(.double (FP.ddiv (FP.i2d (1 : Int32)) (4626322717216342016 : UInt64))), (.double (FP.ddiv (FP.i2d (2 : Int32)) (4626322717216342016 : UInt64))), (.double (FP.ddiv (FP.i2d (3 : Int32)) (4626322717216342016 : UInt64))), (.double (FP.ddiv (FP.i2d (4 : Int32)) (4626322717216342016 : UInt64))), (.double (FP.ddiv (FP.i2d (5 : Int32)) (4626322717216342016 : UInt64))), (.double (FP.ddiv (FP.i2d (6 : Int32)) (4626322717216342016 : UInt64))), (.double (0 : UInt64)), (.double (0 : UInt64)), (.double (0 : UInt64)), (.double (0 : UInt64)), (.double (0 : UInt64)), (.double (0 : UInt64)), (.double (0 : UInt64)), (.double (0 : UInt64)), (.double (0 : UInt64)), (.double (0 : UInt64)), (.double (0 : UInt64)), (.double (0 : UInt64)), (.double (0 : UInt64))] (.double (0 : UInt64)) := Arv.set Ar7 q7 S7 N7n H7h G7g rfl W7 5 rfl (Nat.le_of_ble_eq_true rfl)
  have K7 : Keep h0 h7 [] := K6.wr W7 (Or.inr sz_b1)
  have N7 := Fr.snoc X7 N6 g_b1
  obtain ⟨cl8, Ar8, q8, S8, N8n, H8h, G8g⟩ := id V7
  have hin8 : ¬ ((6 : Int32) < 0 ∨ cl8.slots.size ≤ ((6 : Int32)).toNatClampNeg) := inb_of S8 ⟨by decide, by decide⟩
  obtain ⟨T8, h8, X8, e8, W8, st8⟩ := stD X7 hx hZ e7 Ar8 (j := (6 : Int32)) hin8 (g := (mkF m 23 #[.val (.ref b1), .val (.int (7 : Int32))] [(.double (FP.ddiv (FP.i2d (7 : Int32)) (4626322717216342016 : UInt64))), (.int (6 : Int32)), (.ref b1)])) rfl rfl (hb hby d1_23)
  have V8 : Arv Z h8 b1 k1 .double (19 : Int32) [(.double (FP.ddiv (FP.i2d (1 : Int32)) (4626322717216342016 : UInt64))), (.double (FP.ddiv (FP.i2d (2 : Int32)) (4626322717216342016 : UInt64))), (.double (FP.ddiv (FP.i2d (3 : Int32)) (4626322717216342016 : UInt64))), (.double (FP.ddiv (FP.i2d (4 : Int32)) (4626322717216342016 : UInt64))), (.double (FP.ddiv (FP.i2d (5 : Int32)) (4626322717216342016 : UInt64))), (.double (FP.ddiv (FP.i2d (6 : Int32)) (4626322717216342016 : UInt64))), (.double (FP.ddiv (FP.i2d (7 : Int32)) (4626322717216342016 : UInt64))), (.double (0 : UInt64)), (.double (0 : UInt64)), (.double (0 : UInt64)), (.double (0 : UInt64)), (.double (0 : UInt64)), (.double (0 : UInt64)), (.double (0 : UInt64)), (.double (0 : UInt64)), (.double (0 : UInt64)), (.double (0 : UInt64)), (.double (0 : UInt64)), (.double (0 : UInt64))] (.double (0 : UInt64)) := Arv.set Ar8 q8 S8 N8n H8h G8g rfl W8 6 rfl (Nat.le_of_ble_eq_true rfl)
  have K8 : Keep h0 h8 [] := K7.wr W8 (Or.inr sz_b1)
  have N8 := Fr.snoc X8 N7 g_b1
  obtain ⟨cl9, Ar9, q9, S9, N9n, H9h, G9g⟩ := id V8
  have hin9 : ¬ ((7 : Int32) < 0 ∨ cl9.slots.size ≤ ((7 : Int32)).toNatClampNeg) := inb_of S9 ⟨by decide, by decide⟩
  obtain ⟨T9, h9, X9, e9, W9, st9⟩ := stD X8 hx hZ e8 Ar9 (j := (7 : Int32)) hin9 (g := (mkF m 23 #[.val (.ref b1), .val (.int (8 : Int32))] [(.double (FP.ddiv (FP.i2d (8 : Int32)) (4626322717216342016 : UInt64))), (.int (7 : Int32)), (.ref b1)])) rfl rfl (hb hby d1_23)
  have V9 : Arv Z h9 b1 k1 .double (19 : Int32) [(.double (FP.ddiv (FP.i2d (1 : Int32)) (4626322717216342016 : UInt64))), (.double (FP.ddiv (FP.i2d (2 : Int32)) (4626322717216342016 : UInt64))), (.double (FP.ddiv (FP.i2d (3 : Int32)) (4626322717216342016 : UInt64))), (.double (FP.ddiv (FP.i2d (4 : Int32)) (4626322717216342016 : UInt64))), (.double (FP.ddiv (FP.i2d (5 : Int32)) (4626322717216342016 : UInt64))), (.double (FP.ddiv (FP.i2d (6 : Int32)) (4626322717216342016 : UInt64))), (.double (FP.ddiv (FP.i2d (7 : Int32)) (4626322717216342016 : UInt64))), (.double (FP.ddiv (FP.i2d (8 : Int32)) (4626322717216342016 : UInt64))), (.double (0 : UInt64)), (.double (0 : UInt64)), (.double (0 : UInt64)), (.double (0 : UInt64)), (.double (0 : UInt64)), (.double (0 : UInt64)), (.double (0 : UInt64)), (.double (0 : UInt64)), (.double (0 : UInt64)), (.double (0 : UInt64)), (.double (0 : UInt64))] (.double (0 : UInt64)) := Arv.set Ar9 q9 S9 N9n H9h G9g rfl W9 7 rfl (Nat.le_of_ble_eq_true rfl)
  have K9 : Keep h0 h9 [] := K8.wr W9 (Or.inr sz_b1)
  have N9 := Fr.snoc X9 N8 g_b1
  obtain ⟨cl10, Ar10, q10, S10, N10n, H10h, G10g⟩ := id V9
  have hin10 : ¬ ((8 : Int32) < 0 ∨ cl10.slots.size ≤ ((8 : Int32)).toNatClampNeg) := inb_of S10 ⟨by decide, by decide⟩
  obtain ⟨T10, h10, X10, e10, W10, st10⟩ := stD X9 hx hZ e9 Ar10 (j := (8 : Int32)) hin10 (g := (mkF m 23 #[.val (.ref b1), .val (.int (9 : Int32))] [(.double (FP.ddiv (FP.i2d (9 : Int32)) (4626322717216342016 : UInt64))), (.int (8 : Int32)), (.ref b1)])) rfl rfl (hb hby d1_23)
  have V10 : Arv Z h10 b1 k1 .double (19 : Int32) [(.double (FP.ddiv (FP.i2d (1 : Int32)) (4626322717216342016 : UInt64))), (.double (FP.ddiv (FP.i2d (2 : Int32)) (4626322717216342016 : UInt64))), (.double (FP.ddiv (FP.i2d (3 : Int32)) (4626322717216342016 : UInt64))), (.double (FP.ddiv (FP.i2d (4 : Int32)) (4626322717216342016 : UInt64))), (.double (FP.ddiv (FP.i2d (5 : Int32)) (4626322717216342016 : UInt64))), (.double (FP.ddiv (FP.i2d (6 : Int32)) (4626322717216342016 : UInt64))), (.double (FP.ddiv (FP.i2d (7 : Int32)) (4626322717216342016 : UInt64))), (.double (FP.ddiv (FP.i2d (8 : Int32)) (4626322717216342016 : UInt64))), (.double (FP.ddiv (FP.i2d (9 : Int32)) (4626322717216342016 : UInt64))), (.double (0 : UInt64)), (.double (0 : UInt64)), (.double (0 : UInt64)), (.double (0 : UInt64)), (.double (0 : UInt64)), (.double (0 : UInt64)), (.double (0 : UInt64)), (.double (0 : UInt64)), (.double (0 : UInt64)), (.double (0 : UInt64))] (.double (0 : UInt64)) := Arv.set Ar10 q10 S10 N10n H10h G10g rfl W10 8 rfl (Nat.le_of_ble_eq_true rfl)
  have K10 : Keep h0 h10 [] := K9.wr W10 (Or.inr sz_b1)
  have N10 := Fr.snoc X10 N9 g_b1
  obtain ⟨cl11, Ar11, q11, S11, N11n, H11h, G11g⟩ := id V10
  have hin11 : ¬ ((9 : Int32) < 0 ∨ cl11.slots.size ≤ ((9 : Int32)).toNatClampNeg) := inb_of S11 ⟨by decide, by decide⟩
  obtain ⟨T11, h11, X11, e11, W11, st11⟩ := stD X10 hx hZ e10 Ar11 (j := (9 : Int32)) hin11 (g := (mkF m 23 #[.val (.ref b1), .val (.int (10 : Int32))] [(.double (FP.ddiv (FP.i2d (10 : Int32)) (4626322717216342016 : UInt64))), (.int (9 : Int32)), (.ref b1)])) rfl rfl (hb hby d1_23)
  have V11 : Arv Z h11 b1 k1 .double (19 : Int32) [(.double (FP.ddiv (FP.i2d (1 : Int32)) (4626322717216342016 : UInt64))), (.double (FP.ddiv (FP.i2d (2 : Int32)) (4626322717216342016 : UInt64))), (.double (FP.ddiv (FP.i2d (3 : Int32)) (4626322717216342016 : UInt64))), (.double (FP.ddiv (FP.i2d (4 : Int32)) (4626322717216342016 : UInt64))), (.double (FP.ddiv (FP.i2d (5 : Int32)) (4626322717216342016 : UInt64))), (.double (FP.ddiv (FP.i2d (6 : Int32)) (4626322717216342016 : UInt64))), (.double (FP.ddiv (FP.i2d (7 : Int32)) (4626322717216342016 : UInt64))), (.double (FP.ddiv (FP.i2d (8 : Int32)) (4626322717216342016 : UInt64))), (.double (FP.ddiv (FP.i2d (9 : Int32)) (4626322717216342016 : UInt64))), (.double (FP.ddiv (FP.i2d (10 : Int32)) (4626322717216342016 : UInt64))), (.double (0 : UInt64)), (.double (0 : UInt64)), (.double (0 : UInt64)), (.double (0 : UInt64)), (.double (0 : UInt64)), (.double (0 : UInt64)), (.double (0 : UInt64)), (.double (0 : UInt64)), (.double (0 : UInt64))] (.double (0 : UInt64)) := Arv.set Ar11 q11 S11 N11n H11h G11g rfl W11 9 rfl (Nat.le_of_ble_eq_true rfl)
  have K11 : Keep h0 h11 [] := K10.wr W11 (Or.inr sz_b1)
  have N11 := Fr.snoc X11 N10 g_b1
  obtain ⟨cl12, Ar12, q12, S12, N12n, H12h, G12g⟩ := id V11
  have hin12 : ¬ ((10 : Int32) < 0 ∨ cl12.slots.size ≤ ((10 : Int32)).toNatClampNeg) := inb_of S12 ⟨by decide, by decide⟩
  obtain ⟨T12, h12, X12, e12, W12, st12⟩ := stD X11 hx hZ e11 Ar12 (j := (10 : Int32)) hin12 (g := (mkF m 23 #[.val (.ref b1), .val (.int (11 : Int32))] [(.double (FP.ddiv (FP.i2d (11 : Int32)) (4626322717216342016 : UInt64))), (.int (10 : Int32)), (.ref b1)])) rfl rfl (hb hby d1_23)
  have V12 : Arv Z h12 b1 k1 .double (19 : Int32) [(.double (FP.ddiv (FP.i2d (1 : Int32)) (4626322717216342016 : UInt64))), (.double (FP.ddiv (FP.i2d (2 : Int32)) (4626322717216342016 : UInt64))), (.double (FP.ddiv (FP.i2d (3 : Int32)) (4626322717216342016 : UInt64))), (.double (FP.ddiv (FP.i2d (4 : Int32)) (4626322717216342016 : UInt64))), (.double (FP.ddiv (FP.i2d (5 : Int32)) (4626322717216342016 : UInt64))), (.double (FP.ddiv (FP.i2d (6 : Int32)) (4626322717216342016 : UInt64))), (.double (FP.ddiv (FP.i2d (7 : Int32)) (4626322717216342016 : UInt64))), (.double (FP.ddiv (FP.i2d (8 : Int32)) (4626322717216342016 : UInt64))), (.double (FP.ddiv (FP.i2d (9 : Int32)) (4626322717216342016 : UInt64))), (.double (FP.ddiv (FP.i2d (10 : Int32)) (4626322717216342016 : UInt64))), (.double (FP.ddiv (FP.i2d (11 : Int32)) (4626322717216342016 : UInt64))), (.double (0 : UInt64)), (.double (0 : UInt64)), (.double (0 : UInt64)), (.double (0 : UInt64)), (.double (0 : UInt64)), (.double (0 : UInt64)), (.double (0 : UInt64)), (.double (0 : UInt64))] (.double (0 : UInt64)) := Arv.set Ar12 q12 S12 N12n H12h G12g rfl W12 10 rfl (Nat.le_of_ble_eq_true rfl)
  have K12 : Keep h0 h12 [] := K11.wr W12 (Or.inr sz_b1)
  have N12 := Fr.snoc X12 N11 g_b1
  obtain ⟨cl13, Ar13, q13, S13, N13n, H13h, G13g⟩ := id V12
  have hin13 : ¬ ((11 : Int32) < 0 ∨ cl13.slots.size ≤ ((11 : Int32)).toNatClampNeg) := inb_of S13 ⟨by decide, by decide⟩
  obtain ⟨T13, h13, X13, e13, W13, st13⟩ := stD X12 hx hZ e12 Ar13 (j := (11 : Int32)) hin13 (g := (mkF m 23 #[.val (.ref b1), .val (.int (12 : Int32))] [(.double (FP.ddiv (FP.i2d (12 : Int32)) (4626322717216342016 : UInt64))), (.int (11 : Int32)), (.ref b1)])) rfl rfl (hb hby d1_23)
  have V13 : Arv Z h13 b1 k1 .double (19 : Int32) [(.double (FP.ddiv (FP.i2d (1 : Int32)) (4626322717216342016 : UInt64))), (.double (FP.ddiv (FP.i2d (2 : Int32)) (4626322717216342016 : UInt64))), (.double (FP.ddiv (FP.i2d (3 : Int32)) (4626322717216342016 : UInt64))), (.double (FP.ddiv (FP.i2d (4 : Int32)) (4626322717216342016 : UInt64))), (.double (FP.ddiv (FP.i2d (5 : Int32)) (4626322717216342016 : UInt64))), (.double (FP.ddiv (FP.i2d (6 : Int32)) (4626322717216342016 : UInt64))), (.double (FP.ddiv (FP.i2d (7 : Int32)) (4626322717216342016 : UInt64))), (.double (FP.ddiv (FP.i2d (8 : Int32)) (4626322717216342016 : UInt64))), (.double (FP.ddiv (FP.i2d (9 : Int32)) (4626322717216342016 : UInt64))), (.double (FP.ddiv (FP.i2d (10 : Int32)) (4626322717216342016 : UInt64))), (.double (FP.ddiv (FP.i2d (11 : Int32)) (4626322717216342016 : UInt64))), (.double (FP.ddiv (FP.i2d (12 : Int32)) (4626322717216342016 : UInt64))), (.double (0 : UInt64)), (.double (0 : UInt64)), (.double (0 : UInt64)), (.double (0 : UInt64)), (.double (0 : UInt64)), (.double (0 : UInt64)), (.double (0 : UInt64))] (.double (0 : UInt64)) := Arv.set Ar13 q13 S13 N13n H13h G13g rfl W13 11 rfl (Nat.le_of_ble_eq_true rfl)
  have K13 : Keep h0 h13 [] := K12.wr W13 (Or.inr sz_b1)
  have N13 := Fr.snoc X13 N12 g_b1
  obtain ⟨cl14, Ar14, q14, S14, N14n, H14h, G14g⟩ := id V13
  have hin14 : ¬ ((12 : Int32) < 0 ∨ cl14.slots.size ≤ ((12 : Int32)).toNatClampNeg) := inb_of S14 ⟨by decide, by decide⟩
  obtain ⟨T14, h14, X14, e14, W14, st14⟩ := stD X13 hx hZ e13 Ar14 (j := (12 : Int32)) hin14 (g := (mkF m 23 #[.val (.ref b1), .val (.int (13 : Int32))] [(.double (FP.ddiv (FP.i2d (13 : Int32)) (4626322717216342016 : UInt64))), (.int (12 : Int32)), (.ref b1)])) rfl rfl (hb hby d1_23)
  have V14 : Arv Z h14 b1 k1 .double (19 : Int32) [(.double (FP.ddiv (FP.i2d (1 : Int32)) (4626322717216342016 : UInt64))), (.double (FP.ddiv (FP.i2d (2 : Int32)) (4626322717216342016 : UInt64))), (.double (FP.ddiv (FP.i2d (3 : Int32)) (4626322717216342016 : UInt64))), (.double (FP.ddiv (FP.i2d (4 : Int32)) (4626322717216342016 : UInt64))), (.double (FP.ddiv (FP.i2d (5 : Int32)) (4626322717216342016 : UInt64))), (.double (FP.ddiv (FP.i2d (6 : Int32)) (4626322717216342016 : UInt64))), (.double (FP.ddiv (FP.i2d (7 : Int32)) (4626322717216342016 : UInt64))), (.double (FP.ddiv (FP.i2d (8 : Int32)) (4626322717216342016 : UInt64))), (.double (FP.ddiv (FP.i2d (9 : Int32)) (4626322717216342016 : UInt64))), (.double (FP.ddiv (FP.i2d (10 : Int32)) (4626322717216342016 : UInt64))), (.double (FP.ddiv (FP.i2d (11 : Int32)) (4626322717216342016 : UInt64))), (.double (FP.ddiv (FP.i2d (12 : Int32)) (4626322717216342016 : UInt64))), (.double (FP.ddiv (FP.i2d (13 : Int32)) (4626322717216342016 : UInt64))), (.double (0 : UInt64)), (.double (0 : UInt64)), (.double (0 : UInt64)), (.double (0 : UInt64)), (.double (0 : UInt64)), (.double (0 : UInt64))] (.double (0 : UInt64)) := Arv.set Ar14 q14 S14 N14n H14h G14g rfl W14 12 rfl (Nat.le_of_ble_eq_true rfl)
  have K14 : Keep h0 h14 [] := K13.wr W14 (Or.inr sz_b1)
  have N14 := Fr.snoc X14 N13 g_b1
  obtain ⟨cl15, Ar15, q15, S15, N15n, H15h, G15g⟩ := id V14
  have hin15 : ¬ ((13 : Int32) < 0 ∨ cl15.slots.size ≤ ((13 : Int32)).toNatClampNeg) := inb_of S15 ⟨by decide, by decide⟩
  obtain ⟨T15, h15, X15, e15, W15, st15⟩ := stD X14 hx hZ e14 Ar15 (j := (13 : Int32)) hin15 (g := (mkF m 23 #[.val (.ref b1), .val (.int (14 : Int32))] [(.double (FP.ddiv (FP.i2d (14 : Int32)) (4626322717216342016 : UInt64))), (.int (13 : Int32)), (.ref b1)])) rfl rfl (hb hby d1_23)
  have V15 : Arv Z h15 b1 k1 .double (19 : Int32) [(.double (FP.ddiv (FP.i2d (1 : Int32)) (4626322717216342016 : UInt64))), (.double (FP.ddiv (FP.i2d (2 : Int32)) (4626322717216342016 : UInt64))), (.double (FP.ddiv (FP.i2d (3 : Int32)) (4626322717216342016 : UInt64))), (.double (FP.ddiv (FP.i2d (4 : Int32)) (4626322717216342016 : UInt64))), (.double (FP.ddiv (FP.i2d (5 : Int32)) (4626322717216342016 : UInt64))), (.double (FP.ddiv (FP.i2d (6 : Int32)) (4626322717216342016 : UInt64))), (.double (FP.ddiv (FP.i2d (7 : Int32)) (4626322717216342016 : UInt64))), (.double (FP.ddiv (FP.i2d (8 : Int32)) (4626322717216342016 : UInt64))), (.double (FP.ddiv (FP.i2d (9 : Int32)) (4626322717216342016 : UInt64))), (.double (FP.ddiv (FP.i2d (10 : Int32)) (4626322717216342016 : UInt64))), (.double (FP.ddiv (FP.i2d (11 : Int32)) (4626322717216342016 : UInt64))), (.double (FP.ddiv (FP.i2d (12 : Int32)) (4626322717216342016 : UInt64))), (.double (FP.ddiv (FP.i2d (13 : Int32)) (4626322717216342016 : UInt64))), (.double (FP.ddiv (FP.i2d (14 : Int32)) (4626322717216342016 : UInt64))), (.double (0 : UInt64)), (.double (0 : UInt64)), (.double (0 : UInt64)), (.double (0 : UInt64)), (.double (0 : UInt64))] (.double (0 : UInt64)) := Arv.set Ar15 q15 S15 N15n H15h G15g rfl W15 13 rfl (Nat.le_of_ble_eq_true rfl)
  have K15 : Keep h0 h15 [] := K14.wr W15 (Or.inr sz_b1)
  have N15 := Fr.snoc X15 N14 g_b1
  obtain ⟨cl16, Ar16, q16, S16, N16n, H16h, G16g⟩ := id V15
  have hin16 : ¬ ((14 : Int32) < 0 ∨ cl16.slots.size ≤ ((14 : Int32)).toNatClampNeg) := inb_of S16 ⟨by decide, by decide⟩
  obtain ⟨T16, h16, X16, e16, W16, st16⟩ := stD X15 hx hZ e15 Ar16 (j := (14 : Int32)) hin16 (g := (mkF m 23 #[.val (.ref b1), .val (.int (15 : Int32))] [(.double (FP.ddiv (FP.i2d (15 : Int32)) (4626322717216342016 : UInt64))), (.int (14 : Int32)), (.ref b1)])) rfl rfl (hb hby d1_23)
  have V16 : Arv Z h16 b1 k1 .double (19 : Int32) [(.double (FP.ddiv (FP.i2d (1 : Int32)) (4626322717216342016 : UInt64))), (.double (FP.ddiv (FP.i2d (2 : Int32)) (4626322717216342016 : UInt64))), (.double (FP.ddiv (FP.i2d (3 : Int32)) (4626322717216342016 : UInt64))), (.double (FP.ddiv (FP.i2d (4 : Int32)) (4626322717216342016 : UInt64))), (.double (FP.ddiv (FP.i2d (5 : Int32)) (4626322717216342016 : UInt64))), (.double (FP.ddiv (FP.i2d (6 : Int32)) (4626322717216342016 : UInt64))), (.double (FP.ddiv (FP.i2d (7 : Int32)) (4626322717216342016 : UInt64))), (.double (FP.ddiv (FP.i2d (8 : Int32)) (4626322717216342016 : UInt64))), (.double (FP.ddiv (FP.i2d (9 : Int32)) (4626322717216342016 : UInt64))), (.double (FP.ddiv (FP.i2d (10 : Int32)) (4626322717216342016 : UInt64))), (.double (FP.ddiv (FP.i2d (11 : Int32)) (4626322717216342016 : UInt64))), (.double (FP.ddiv (FP.i2d (12 : Int32)) (4626322717216342016 : UInt64))), (.double (FP.ddiv (FP.i2d (13 : Int32)) (4626322717216342016 : UInt64))), (.double (FP.ddiv (FP.i2d (14 : Int32)) (4626322717216342016 : UInt64))), (.double (FP.ddiv (FP.i2d (15 : Int32)) (4626322717216342016 : UInt64))), (.double (0 : UInt64)), (.double (0 : UInt64)), (.double (0 : UInt64)), (.double (0 : UInt64))] (.double (0 : UInt64)) := Arv.set Ar16 q16 S16 N16n H16h G16g rfl W16 14 rfl (Nat.le_of_ble_eq_true rfl)
  have K16 : Keep h0 h16 [] := K15.wr W16 (Or.inr sz_b1)
  have N16 := Fr.snoc X16 N15 g_b1
  obtain ⟨cl17, Ar17, q17, S17, N17n, H17h, G17g⟩ := id V16
  have hin17 : ¬ ((15 : Int32) < 0 ∨ cl17.slots.size ≤ ((15 : Int32)).toNatClampNeg) := inb_of S17 ⟨by decide, by decide⟩
  obtain ⟨T17, h17, X17, e17, W17, st17⟩ := stD X16 hx hZ e16 Ar17 (j := (15 : Int32)) hin17 (g := (mkF m 23 #[.val (.ref b1), .val (.int (16 : Int32))] [(.double (FP.ddiv (FP.i2d (16 : Int32)) (4626322717216342016 : UInt64))), (.int (15 : Int32)), (.ref b1)])) rfl rfl (hb hby d1_23)
  have V17 : Arv Z h17 b1 k1 .double (19 : Int32) [(.double (FP.ddiv (FP.i2d (1 : Int32)) (4626322717216342016 : UInt64))), (.double (FP.ddiv (FP.i2d (2 : Int32)) (4626322717216342016 : UInt64))), (.double (FP.ddiv (FP.i2d (3 : Int32)) (4626322717216342016 : UInt64))), (.double (FP.ddiv (FP.i2d (4 : Int32)) (4626322717216342016 : UInt64))), (.double (FP.ddiv (FP.i2d (5 : Int32)) (4626322717216342016 : UInt64))), (.double (FP.ddiv (FP.i2d (6 : Int32)) (4626322717216342016 : UInt64))), (.double (FP.ddiv (FP.i2d (7 : Int32)) (4626322717216342016 : UInt64))), (.double (FP.ddiv (FP.i2d (8 : Int32)) (4626322717216342016 : UInt64))), (.double (FP.ddiv (FP.i2d (9 : Int32)) (4626322717216342016 : UInt64))), (.double (FP.ddiv (FP.i2d (10 : Int32)) (4626322717216342016 : UInt64))), (.double (FP.ddiv (FP.i2d (11 : Int32)) (4626322717216342016 : UInt64))), (.double (FP.ddiv (FP.i2d (12 : Int32)) (4626322717216342016 : UInt64))), (.double (FP.ddiv (FP.i2d (13 : Int32)) (4626322717216342016 : UInt64))), (.double (FP.ddiv (FP.i2d (14 : Int32)) (4626322717216342016 : UInt64))), (.double (FP.ddiv (FP.i2d (15 : Int32)) (4626322717216342016 : UInt64))), (.double (FP.ddiv (FP.i2d (16 : Int32)) (4626322717216342016 : UInt64))), (.double (0 : UInt64)), (.double (0 : UInt64)), (.double (0 : UInt64))] (.double (0 : UInt64)) := Arv.set Ar17 q17 S17 N17n H17h G17g rfl W17 15 rfl (Nat.le_of_ble_eq_true rfl)
  have K17 : Keep h0 h17 [] := K16.wr W17 (Or.inr sz_b1)
  have N17 := Fr.snoc X17 N16 g_b1
  obtain ⟨cl18, Ar18, q18, S18, N18n, H18h, G18g⟩ := id V17
  have hin18 : ¬ ((16 : Int32) < 0 ∨ cl18.slots.size ≤ ((16 : Int32)).toNatClampNeg) := inb_of S18 ⟨by decide, by decide⟩
  obtain ⟨T18, h18, X18, e18, W18, st18⟩ := stD X17 hx hZ e17 Ar18 (j := (16 : Int32)) hin18 (g := (mkF m 23 #[.val (.ref b1), .val (.int (17 : Int32))] [(.double (FP.ddiv (FP.i2d (17 : Int32)) (4626322717216342016 : UInt64))), (.int (16 : Int32)), (.ref b1)])) rfl rfl (hb hby d1_23)
  have V18 : Arv Z h18 b1 k1 .double (19 : Int32) [(.double (FP.ddiv (FP.i2d (1 : Int32)) (4626322717216342016 : UInt64))), (.double (FP.ddiv (FP.i2d (2 : Int32)) (4626322717216342016 : UInt64))), (.double (FP.ddiv (FP.i2d (3 : Int32)) (4626322717216342016 : UInt64))), (.double (FP.ddiv (FP.i2d (4 : Int32)) (4626322717216342016 : UInt64))), (.double (FP.ddiv (FP.i2d (5 : Int32)) (4626322717216342016 : UInt64))), (.double (FP.ddiv (FP.i2d (6 : Int32)) (4626322717216342016 : UInt64))), (.double (FP.ddiv (FP.i2d (7 : Int32)) (4626322717216342016 : UInt64))), (.double (FP.ddiv (FP.i2d (8 : Int32)) (4626322717216342016 : UInt64))), (.double (FP.ddiv (FP.i2d (9 : Int32)) (4626322717216342016 : UInt64))), (.double (FP.ddiv (FP.i2d (10 : Int32)) (4626322717216342016 : UInt64))), (.double (FP.ddiv (FP.i2d (11 : Int32)) (4626322717216342016 : UInt64))), (.double (FP.ddiv (FP.i2d (12 : Int32)) (4626322717216342016 : UInt64))), (.double (FP.ddiv (FP.i2d (13 : Int32)) (4626322717216342016 : UInt64))), (.double (FP.ddiv (FP.i2d (14 : Int32)) (4626322717216342016 : UInt64))), (.double (FP.ddiv (FP.i2d (15 : Int32)) (4626322717216342016 : UInt64))), (.double (FP.ddiv (FP.i2d (16 : Int32)) (4626322717216342016 : UInt64))), (.double (FP.ddiv (FP.i2d (17 : Int32)) (4626322717216342016 : UInt64))), (.double (0 : UInt64)), (.double (0 : UInt64))] (.double (0 : UInt64)) := Arv.set Ar18 q18 S18 N18n H18h G18g rfl W18 16 rfl (Nat.le_of_ble_eq_true rfl)
  have K18 : Keep h0 h18 [] := K17.wr W18 (Or.inr sz_b1)
  have N18 := Fr.snoc X18 N17 g_b1
  obtain ⟨cl19, Ar19, q19, S19, N19n, H19h, G19g⟩ := id V18
  have hin19 : ¬ ((17 : Int32) < 0 ∨ cl19.slots.size ≤ ((17 : Int32)).toNatClampNeg) := inb_of S19 ⟨by decide, by decide⟩
  obtain ⟨T19, h19, X19, e19, W19, st19⟩ := stD X18 hx hZ e18 Ar19 (j := (17 : Int32)) hin19 (g := (mkF m 23 #[.val (.ref b1), .val (.int (18 : Int32))] [(.double (FP.ddiv (FP.i2d (18 : Int32)) (4626322717216342016 : UInt64))), (.int (17 : Int32)), (.ref b1)])) rfl rfl (hb hby d1_23)
  have V19 : Arv Z h19 b1 k1 .double (19 : Int32) [(.double (FP.ddiv (FP.i2d (1 : Int32)) (4626322717216342016 : UInt64))), (.double (FP.ddiv (FP.i2d (2 : Int32)) (4626322717216342016 : UInt64))), (.double (FP.ddiv (FP.i2d (3 : Int32)) (4626322717216342016 : UInt64))), (.double (FP.ddiv (FP.i2d (4 : Int32)) (4626322717216342016 : UInt64))), (.double (FP.ddiv (FP.i2d (5 : Int32)) (4626322717216342016 : UInt64))), (.double (FP.ddiv (FP.i2d (6 : Int32)) (4626322717216342016 : UInt64))), (.double (FP.ddiv (FP.i2d (7 : Int32)) (4626322717216342016 : UInt64))), (.double (FP.ddiv (FP.i2d (8 : Int32)) (4626322717216342016 : UInt64))), (.double (FP.ddiv (FP.i2d (9 : Int32)) (4626322717216342016 : UInt64))), (.double (FP.ddiv (FP.i2d (10 : Int32)) (4626322717216342016 : UInt64))), (.double (FP.ddiv (FP.i2d (11 : Int32)) (4626322717216342016 : UInt64))), (.double (FP.ddiv (FP.i2d (12 : Int32)) (4626322717216342016 : UInt64))), (.double (FP.ddiv (FP.i2d (13 : Int32)) (4626322717216342016 : UInt64))), (.double (FP.ddiv (FP.i2d (14 : Int32)) (4626322717216342016 : UInt64))), (.double (FP.ddiv (FP.i2d (15 : Int32)) (4626322717216342016 : UInt64))), (.double (FP.ddiv (FP.i2d (16 : Int32)) (4626322717216342016 : UInt64))), (.double (FP.ddiv (FP.i2d (17 : Int32)) (4626322717216342016 : UInt64))), (.double (FP.ddiv (FP.i2d (18 : Int32)) (4626322717216342016 : UInt64))), (.double (0 : UInt64))] (.double (0 : UInt64)) := Arv.set Ar19 q19 S19 N19n H19h G19g rfl W19 17 rfl (Nat.le_of_ble_eq_true rfl)
  have K19 : Keep h0 h19 [] := K18.wr W19 (Or.inr sz_b1)
  have N19 := Fr.snoc X19 N18 g_b1
  obtain ⟨cl20, Ar20, q20, S20, N20n, H20h, G20g⟩ := id V19
  have hin20 : ¬ ((18 : Int32) < 0 ∨ cl20.slots.size ≤ ((18 : Int32)).toNatClampNeg) := inb_of S20 ⟨by decide, by decide⟩
  obtain ⟨T20, h20, X20, e20, W20, st20⟩ := stD X19 hx hZ e19 Ar20 (j := (18 : Int32)) hin20 (g := (mkF m 23 #[.val (.ref b1), .val (.int (19 : Int32))] [(.double (FP.ddiv (FP.i2d (19 : Int32)) (4626322717216342016 : UInt64))), (.int (18 : Int32)), (.ref b1)])) rfl rfl (hb hby d1_23)
  have V20 : Arv Z h20 b1 k1 .double (19 : Int32) [(.double (FP.ddiv (FP.i2d (1 : Int32)) (4626322717216342016 : UInt64))), (.double (FP.ddiv (FP.i2d (2 : Int32)) (4626322717216342016 : UInt64))), (.double (FP.ddiv (FP.i2d (3 : Int32)) (4626322717216342016 : UInt64))), (.double (FP.ddiv (FP.i2d (4 : Int32)) (4626322717216342016 : UInt64))), (.double (FP.ddiv (FP.i2d (5 : Int32)) (4626322717216342016 : UInt64))), (.double (FP.ddiv (FP.i2d (6 : Int32)) (4626322717216342016 : UInt64))), (.double (FP.ddiv (FP.i2d (7 : Int32)) (4626322717216342016 : UInt64))), (.double (FP.ddiv (FP.i2d (8 : Int32)) (4626322717216342016 : UInt64))), (.double (FP.ddiv (FP.i2d (9 : Int32)) (4626322717216342016 : UInt64))), (.double (FP.ddiv (FP.i2d (10 : Int32)) (4626322717216342016 : UInt64))), (.double (FP.ddiv (FP.i2d (11 : Int32)) (4626322717216342016 : UInt64))), (.double (FP.ddiv (FP.i2d (12 : Int32)) (4626322717216342016 : UInt64))), (.double (FP.ddiv (FP.i2d (13 : Int32)) (4626322717216342016 : UInt64))), (.double (FP.ddiv (FP.i2d (14 : Int32)) (4626322717216342016 : UInt64))), (.double (FP.ddiv (FP.i2d (15 : Int32)) (4626322717216342016 : UInt64))), (.double (FP.ddiv (FP.i2d (16 : Int32)) (4626322717216342016 : UInt64))), (.double (FP.ddiv (FP.i2d (17 : Int32)) (4626322717216342016 : UInt64))), (.double (FP.ddiv (FP.i2d (18 : Int32)) (4626322717216342016 : UInt64))), (.double (FP.ddiv (FP.i2d (19 : Int32)) (4626322717216342016 : UInt64)))] (.double (0 : UInt64)) := Arv.set Ar20 q20 S20 N20n H20h G20g rfl W20 18 rfl (Nat.le_of_ble_eq_true rfl)
  have K20 : Keep h0 h20 [] := K19.wr W20 (Or.inr sz_b1)
  have N20 := Fr.snoc X20 N19 g_b1
  obtain ⟨fs, hr, hrun, hended, hW, hsame⟩ := X20.leave (v := some (.ref b1)) (fun h => by rw [Bd.returns] at h; cases h)
  refine ⟨_, _, pre0 _ ?_, hrun, hended, _, _, rfl, ?_, ⟨_, rfl⟩, hW, hsame.mono (Nat.le_of_ble_eq_true rfl) (Nat.le_of_ble_eq_true rfl)⟩
  · show Steps p.tables e below (s₁.setTop (mkF m 0 #[.unset, .unset] [])) _
    refine XS.bipush X0.here hx rfl (hb hby d1_0) ?_
    show Steps p.tables e below (s₁.setTop (mkF m 2 #[.unset, .unset] [(.int (19 : Int32))])) _
    refine st1 _ ?_
    show Steps p.tables e below (T1.setTop (mkF m 4 #[.unset, .unset] [(.ref b1)])) _
    refine XS.astoreN X1.here hx rfl (hb hby d1_4) rfl rfl (l' := #[.val (.ref b1), .unset]) rfl ?_
    show Steps p.tables e below (T1.setTop (mkF m 5 #[.val (.ref b1), .unset] [])) _
    refine XS.iconst X1.here hx rfl (hb hby d1_5) ?_
    show Steps p.tables e below (T1.setTop (mkF m 6 #[.val (.ref b1), .unset] [(.int (1 : Int32))])) _
    refine XS.istoreN X1.here hx rfl (hb hby d1_6) rfl (l' := #[.val (.ref b1), .val (.int (1 : Int32))]) rfl ?_
    show Steps p.tables e below (T1.setTop (mkF m 7 #[.val (.ref b1), .val (.int (1 : Int32))] [])) _
    refine XS.iloadN X1.here hx rfl (hb hby d1_7) rfl ?_
    show Steps p.tables e below (T1.setTop (mkF m 8 #[.val (.ref b1), .val (.int (1 : Int32))] [(.int (1 : Int32))])) _
    refine XS.bipush X1.here hx rfl (hb hby d1_8) ?_
    show Steps p.tables e below (T1.setTop (mkF m 10 #[.val (.ref b1), .val (.int (1 : Int32))] [(.int (19 : Int32)), (.int (1 : Int32))])) _
    refine XS.icmpNo X1.here hx rfl (hb hby d1_10) rfl (by decide) ?_
    show Steps p.tables e below (T1.setTop (mkF m 13 #[.val (.ref b1), .val (.int (1 : Int32))] [])) _
    refine XS.aloadN X1.here hx rfl (hb hby d1_13) rfl rfl ?_
    show Steps p.tables e below (T1.setTop (mkF m 14 #[.val (.ref b1), .val (.int (1 : Int32))] [(.ref b1)])) _
    refine XS.iloadN X1.here hx rfl (hb hby d1_14) rfl ?_
    show Steps p.tables e below (T1.setTop (mkF m 15 #[.val (.ref b1), .val (.int (1 : Int32))] [(.int (1 : Int32)), (.ref b1)])) _
    refine XS.iconst X1.here hx rfl (hb hby d1_15) ?_
    show Steps p.tables e below (T1.setTop (mkF m 16 #[.val (.ref b1), .val (.int (1 : Int32))] [(.int (1 : Int32)), (.int (1 : Int32)), (.ref b1)])) _
    refine XS.isub X1.here hx rfl (hb hby d1_16) rfl ?_
    show Steps p.tables e below (T1.setTop (mkF m 17 #[.val (.ref b1), .val (.int (1 : Int32))] [(.int (0 : Int32)), (.ref b1)])) _
    refine XS.iloadN X1.here hx rfl (hb hby d1_17) rfl ?_
    show Steps p.tables e below (T1.setTop (mkF m 18 #[.val (.ref b1), .val (.int (1 : Int32))] [(.int (1 : Int32)), (.int (0 : Int32)), (.ref b1)])) _
    refine XS.i2dS X1.here hx rfl (hb hby d1_18) rfl rfl ?_
    show Steps p.tables e below (T1.setTop (mkF m 19 #[.val (.ref b1), .val (.int (1 : Int32))] [(.double (FP.i2d (1 : Int32))), (.int (0 : Int32)), (.ref b1)])) _
    refine X1.ldc2DoubleC hx hown (mvT hZ (hw _ (List.mem_of_getElem? (i := 6) rfl))) (g := (mkF m 19 #[.val (.ref b1), .val (.int (1 : Int32))] [(.double (FP.i2d (1 : Int32))), (.int (0 : Int32)), (.ref b1)])) rfl (hb hby d1_19) _ ?_
    show Steps p.tables e below (T1.setTop (mkF m 22 #[.val (.ref b1), .val (.int (1 : Int32))] [(.double (4626322717216342016 : UInt64)), (.double (FP.i2d (1 : Int32))), (.int (0 : Int32)), (.ref b1)])) _
    refine XS.ddivS X1.here hx rfl (hb hby d1_22) rfl (own_nn20 _) rfl ?_
    show Steps p.tables e below (T1.setTop (mkF m 23 #[.val (.ref b1), .val (.int (1 : Int32))] [(.double (FP.ddiv (FP.i2d (1 : Int32)) (4626322717216342016 : UInt64))), (.int (0 : Int32)), (.ref b1)])) _
    refine st2 _ ?_
    show Steps p.tables e below (T2.setTop (mkF m 24 #[.val (.ref b1), .val (.int (1 : Int32))] [])) _
    refine XS.iinc X2.here hx rfl (hb hby d1_24) rfl (l' := #[.val (.ref b1), .val (.int (2 : Int32))]) rfl ?_
    show Steps p.tables e below (T2.setTop (mkF m 27 #[.val (.ref b1), .val (.int (2 : Int32))] [])) _
    refine XS.goto X2.here hx rfl (pc0 := 27) (pc' := 7) rfl (hb hby d1_27) (by decide) (by decide) ?_
    show Steps p.tables e below (T2.setTop (mkF m 7 #[.val (.ref b1), .val (.int (2 : Int32))] [])) _
    refine XS.iloadN X2.here hx rfl (hb hby d1_7) rfl ?_
    show Steps p.tables e below (T2.setTop (mkF m 8 #[.val (.ref b1), .val (.int (2 : Int32))] [(.int (2 : Int32))])) _
    refine XS.bipush X2.here hx rfl (hb hby d1_8) ?_
    show Steps p.tables e below (T2.setTop (mkF m 10 #[.val (.ref b1), .val (.int (2 : Int32))] [(.int (19 : Int32)), (.int (2 : Int32))])) _
    refine XS.icmpNo X2.here hx rfl (hb hby d1_10) rfl (by decide) ?_
    show Steps p.tables e below (T2.setTop (mkF m 13 #[.val (.ref b1), .val (.int (2 : Int32))] [])) _
    refine XS.aloadN X2.here hx rfl (hb hby d1_13) rfl rfl ?_
    show Steps p.tables e below (T2.setTop (mkF m 14 #[.val (.ref b1), .val (.int (2 : Int32))] [(.ref b1)])) _
    refine XS.iloadN X2.here hx rfl (hb hby d1_14) rfl ?_
    show Steps p.tables e below (T2.setTop (mkF m 15 #[.val (.ref b1), .val (.int (2 : Int32))] [(.int (2 : Int32)), (.ref b1)])) _
    refine XS.iconst X2.here hx rfl (hb hby d1_15) ?_
    show Steps p.tables e below (T2.setTop (mkF m 16 #[.val (.ref b1), .val (.int (2 : Int32))] [(.int (1 : Int32)), (.int (2 : Int32)), (.ref b1)])) _
    refine XS.isub X2.here hx rfl (hb hby d1_16) rfl ?_
    show Steps p.tables e below (T2.setTop (mkF m 17 #[.val (.ref b1), .val (.int (2 : Int32))] [(.int (1 : Int32)), (.ref b1)])) _
    refine XS.iloadN X2.here hx rfl (hb hby d1_17) rfl ?_
    show Steps p.tables e below (T2.setTop (mkF m 18 #[.val (.ref b1), .val (.int (2 : Int32))] [(.int (2 : Int32)), (.int (1 : Int32)), (.ref b1)])) _
    refine XS.i2dS X2.here hx rfl (hb hby d1_18) rfl rfl ?_
    show Steps p.tables e below (T2.setTop (mkF m 19 #[.val (.ref b1), .val (.int (2 : Int32))] [(.double (FP.i2d (2 : Int32))), (.int (1 : Int32)), (.ref b1)])) _
    refine X2.ldc2DoubleC hx hown (mvT hZ (hw _ (List.mem_of_getElem? (i := 6) rfl))) (g := (mkF m 19 #[.val (.ref b1), .val (.int (2 : Int32))] [(.double (FP.i2d (2 : Int32))), (.int (1 : Int32)), (.ref b1)])) rfl (hb hby d1_19) _ ?_
    show Steps p.tables e below (T2.setTop (mkF m 22 #[.val (.ref b1), .val (.int (2 : Int32))] [(.double (4626322717216342016 : UInt64)), (.double (FP.i2d (2 : Int32))), (.int (1 : Int32)), (.ref b1)])) _
    refine XS.ddivS X2.here hx rfl (hb hby d1_22) rfl (own_nn20 _) rfl ?_
    show Steps p.tables e below (T2.setTop (mkF m 23 #[.val (.ref b1), .val (.int (2 : Int32))] [(.double (FP.ddiv (FP.i2d (2 : Int32)) (4626322717216342016 : UInt64))), (.int (1 : Int32)), (.ref b1)])) _
    refine st3 _ ?_
    show Steps p.tables e below (T3.setTop (mkF m 24 #[.val (.ref b1), .val (.int (2 : Int32))] [])) _
    refine XS.iinc X3.here hx rfl (hb hby d1_24) rfl (l' := #[.val (.ref b1), .val (.int (3 : Int32))]) rfl ?_
    show Steps p.tables e below (T3.setTop (mkF m 27 #[.val (.ref b1), .val (.int (3 : Int32))] [])) _
    refine XS.goto X3.here hx rfl (pc0 := 27) (pc' := 7) rfl (hb hby d1_27) (by decide) (by decide) ?_
    show Steps p.tables e below (T3.setTop (mkF m 7 #[.val (.ref b1), .val (.int (3 : Int32))] [])) _
    refine XS.iloadN X3.here hx rfl (hb hby d1_7) rfl ?_
    show Steps p.tables e below (T3.setTop (mkF m 8 #[.val (.ref b1), .val (.int (3 : Int32))] [(.int (3 : Int32))])) _
    refine XS.bipush X3.here hx rfl (hb hby d1_8) ?_
    show Steps p.tables e below (T3.setTop (mkF m 10 #[.val (.ref b1), .val (.int (3 : Int32))] [(.int (19 : Int32)), (.int (3 : Int32))])) _
    refine XS.icmpNo X3.here hx rfl (hb hby d1_10) rfl (by decide) ?_
    show Steps p.tables e below (T3.setTop (mkF m 13 #[.val (.ref b1), .val (.int (3 : Int32))] [])) _
    refine XS.aloadN X3.here hx rfl (hb hby d1_13) rfl rfl ?_
    show Steps p.tables e below (T3.setTop (mkF m 14 #[.val (.ref b1), .val (.int (3 : Int32))] [(.ref b1)])) _
    refine XS.iloadN X3.here hx rfl (hb hby d1_14) rfl ?_
    show Steps p.tables e below (T3.setTop (mkF m 15 #[.val (.ref b1), .val (.int (3 : Int32))] [(.int (3 : Int32)), (.ref b1)])) _
    refine XS.iconst X3.here hx rfl (hb hby d1_15) ?_
    show Steps p.tables e below (T3.setTop (mkF m 16 #[.val (.ref b1), .val (.int (3 : Int32))] [(.int (1 : Int32)), (.int (3 : Int32)), (.ref b1)])) _
    refine XS.isub X3.here hx rfl (hb hby d1_16) rfl ?_
    show Steps p.tables e below (T3.setTop (mkF m 17 #[.val (.ref b1), .val (.int (3 : Int32))] [(.int (2 : Int32)), (.ref b1)])) _
    refine XS.iloadN X3.here hx rfl (hb hby d1_17) rfl ?_
    show Steps p.tables e below (T3.setTop (mkF m 18 #[.val (.ref b1), .val (.int (3 : Int32))] [(.int (3 : Int32)), (.int (2 : Int32)), (.ref b1)])) _
    refine XS.i2dS X3.here hx rfl (hb hby d1_18) rfl rfl ?_
    show Steps p.tables e below (T3.setTop (mkF m 19 #[.val (.ref b1), .val (.int (3 : Int32))] [(.double (FP.i2d (3 : Int32))), (.int (2 : Int32)), (.ref b1)])) _
    refine X3.ldc2DoubleC hx hown (mvT hZ (hw _ (List.mem_of_getElem? (i := 6) rfl))) (g := (mkF m 19 #[.val (.ref b1), .val (.int (3 : Int32))] [(.double (FP.i2d (3 : Int32))), (.int (2 : Int32)), (.ref b1)])) rfl (hb hby d1_19) _ ?_
    show Steps p.tables e below (T3.setTop (mkF m 22 #[.val (.ref b1), .val (.int (3 : Int32))] [(.double (4626322717216342016 : UInt64)), (.double (FP.i2d (3 : Int32))), (.int (2 : Int32)), (.ref b1)])) _
    refine XS.ddivS X3.here hx rfl (hb hby d1_22) rfl (own_nn20 _) rfl ?_
    show Steps p.tables e below (T3.setTop (mkF m 23 #[.val (.ref b1), .val (.int (3 : Int32))] [(.double (FP.ddiv (FP.i2d (3 : Int32)) (4626322717216342016 : UInt64))), (.int (2 : Int32)), (.ref b1)])) _
    refine st4 _ ?_
    show Steps p.tables e below (T4.setTop (mkF m 24 #[.val (.ref b1), .val (.int (3 : Int32))] [])) _
    refine XS.iinc X4.here hx rfl (hb hby d1_24) rfl (l' := #[.val (.ref b1), .val (.int (4 : Int32))]) rfl ?_
    show Steps p.tables e below (T4.setTop (mkF m 27 #[.val (.ref b1), .val (.int (4 : Int32))] [])) _
    refine XS.goto X4.here hx rfl (pc0 := 27) (pc' := 7) rfl (hb hby d1_27) (by decide) (by decide) ?_
    show Steps p.tables e below (T4.setTop (mkF m 7 #[.val (.ref b1), .val (.int (4 : Int32))] [])) _
    refine XS.iloadN X4.here hx rfl (hb hby d1_7) rfl ?_
    show Steps p.tables e below (T4.setTop (mkF m 8 #[.val (.ref b1), .val (.int (4 : Int32))] [(.int (4 : Int32))])) _
    refine XS.bipush X4.here hx rfl (hb hby d1_8) ?_
    show Steps p.tables e below (T4.setTop (mkF m 10 #[.val (.ref b1), .val (.int (4 : Int32))] [(.int (19 : Int32)), (.int (4 : Int32))])) _
    refine XS.icmpNo X4.here hx rfl (hb hby d1_10) rfl (by decide) ?_
    show Steps p.tables e below (T4.setTop (mkF m 13 #[.val (.ref b1), .val (.int (4 : Int32))] [])) _
    refine XS.aloadN X4.here hx rfl (hb hby d1_13) rfl rfl ?_
    show Steps p.tables e below (T4.setTop (mkF m 14 #[.val (.ref b1), .val (.int (4 : Int32))] [(.ref b1)])) _
    refine XS.iloadN X4.here hx rfl (hb hby d1_14) rfl ?_
    show Steps p.tables e below (T4.setTop (mkF m 15 #[.val (.ref b1), .val (.int (4 : Int32))] [(.int (4 : Int32)), (.ref b1)])) _
    refine XS.iconst X4.here hx rfl (hb hby d1_15) ?_
    show Steps p.tables e below (T4.setTop (mkF m 16 #[.val (.ref b1), .val (.int (4 : Int32))] [(.int (1 : Int32)), (.int (4 : Int32)), (.ref b1)])) _
    refine XS.isub X4.here hx rfl (hb hby d1_16) rfl ?_
    show Steps p.tables e below (T4.setTop (mkF m 17 #[.val (.ref b1), .val (.int (4 : Int32))] [(.int (3 : Int32)), (.ref b1)])) _
    refine XS.iloadN X4.here hx rfl (hb hby d1_17) rfl ?_
    show Steps p.tables e below (T4.setTop (mkF m 18 #[.val (.ref b1), .val (.int (4 : Int32))] [(.int (4 : Int32)), (.int (3 : Int32)), (.ref b1)])) _
    refine XS.i2dS X4.here hx rfl (hb hby d1_18) rfl rfl ?_
    show Steps p.tables e below (T4.setTop (mkF m 19 #[.val (.ref b1), .val (.int (4 : Int32))] [(.double (FP.i2d (4 : Int32))), (.int (3 : Int32)), (.ref b1)])) _
    refine X4.ldc2DoubleC hx hown (mvT hZ (hw _ (List.mem_of_getElem? (i := 6) rfl))) (g := (mkF m 19 #[.val (.ref b1), .val (.int (4 : Int32))] [(.double (FP.i2d (4 : Int32))), (.int (3 : Int32)), (.ref b1)])) rfl (hb hby d1_19) _ ?_
    show Steps p.tables e below (T4.setTop (mkF m 22 #[.val (.ref b1), .val (.int (4 : Int32))] [(.double (4626322717216342016 : UInt64)), (.double (FP.i2d (4 : Int32))), (.int (3 : Int32)), (.ref b1)])) _
    refine XS.ddivS X4.here hx rfl (hb hby d1_22) rfl (own_nn20 _) rfl ?_
    show Steps p.tables e below (T4.setTop (mkF m 23 #[.val (.ref b1), .val (.int (4 : Int32))] [(.double (FP.ddiv (FP.i2d (4 : Int32)) (4626322717216342016 : UInt64))), (.int (3 : Int32)), (.ref b1)])) _
    refine st5 _ ?_
    show Steps p.tables e below (T5.setTop (mkF m 24 #[.val (.ref b1), .val (.int (4 : Int32))] [])) _
    refine XS.iinc X5.here hx rfl (hb hby d1_24) rfl (l' := #[.val (.ref b1), .val (.int (5 : Int32))]) rfl ?_
    show Steps p.tables e below (T5.setTop (mkF m 27 #[.val (.ref b1), .val (.int (5 : Int32))] [])) _
    refine XS.goto X5.here hx rfl (pc0 := 27) (pc' := 7) rfl (hb hby d1_27) (by decide) (by decide) ?_
    show Steps p.tables e below (T5.setTop (mkF m 7 #[.val (.ref b1), .val (.int (5 : Int32))] [])) _
    refine XS.iloadN X5.here hx rfl (hb hby d1_7) rfl ?_
    show Steps p.tables e below (T5.setTop (mkF m 8 #[.val (.ref b1), .val (.int (5 : Int32))] [(.int (5 : Int32))])) _
    refine XS.bipush X5.here hx rfl (hb hby d1_8) ?_
    show Steps p.tables e below (T5.setTop (mkF m 10 #[.val (.ref b1), .val (.int (5 : Int32))] [(.int (19 : Int32)), (.int (5 : Int32))])) _
    refine XS.icmpNo X5.here hx rfl (hb hby d1_10) rfl (by decide) ?_
    show Steps p.tables e below (T5.setTop (mkF m 13 #[.val (.ref b1), .val (.int (5 : Int32))] [])) _
    refine XS.aloadN X5.here hx rfl (hb hby d1_13) rfl rfl ?_
    show Steps p.tables e below (T5.setTop (mkF m 14 #[.val (.ref b1), .val (.int (5 : Int32))] [(.ref b1)])) _
    refine XS.iloadN X5.here hx rfl (hb hby d1_14) rfl ?_
    show Steps p.tables e below (T5.setTop (mkF m 15 #[.val (.ref b1), .val (.int (5 : Int32))] [(.int (5 : Int32)), (.ref b1)])) _
    refine XS.iconst X5.here hx rfl (hb hby d1_15) ?_
    show Steps p.tables e below (T5.setTop (mkF m 16 #[.val (.ref b1), .val (.int (5 : Int32))] [(.int (1 : Int32)), (.int (5 : Int32)), (.ref b1)])) _
    refine XS.isub X5.here hx rfl (hb hby d1_16) rfl ?_
    show Steps p.tables e below (T5.setTop (mkF m 17 #[.val (.ref b1), .val (.int (5 : Int32))] [(.int (4 : Int32)), (.ref b1)])) _
    refine XS.iloadN X5.here hx rfl (hb hby d1_17) rfl ?_
    show Steps p.tables e below (T5.setTop (mkF m 18 #[.val (.ref b1), .val (.int (5 : Int32))] [(.int (5 : Int32)), (.int (4 : Int32)), (.ref b1)])) _
    refine XS.i2dS X5.here hx rfl (hb hby d1_18) rfl rfl ?_
    show Steps p.tables e below (T5.setTop (mkF m 19 #[.val (.ref b1), .val (.int (5 : Int32))] [(.double (FP.i2d (5 : Int32))), (.int (4 : Int32)), (.ref b1)])) _
    refine X5.ldc2DoubleC hx hown (mvT hZ (hw _ (List.mem_of_getElem? (i := 6) rfl))) (g := (mkF m 19 #[.val (.ref b1), .val (.int (5 : Int32))] [(.double (FP.i2d (5 : Int32))), (.int (4 : Int32)), (.ref b1)])) rfl (hb hby d1_19) _ ?_
    show Steps p.tables e below (T5.setTop (mkF m 22 #[.val (.ref b1), .val (.int (5 : Int32))] [(.double (4626322717216342016 : UInt64)), (.double (FP.i2d (5 : Int32))), (.int (4 : Int32)), (.ref b1)])) _
    refine XS.ddivS X5.here hx rfl (hb hby d1_22) rfl (own_nn20 _) rfl ?_
    show Steps p.tables e below (T5.setTop (mkF m 23 #[.val (.ref b1), .val (.int (5 : Int32))] [(.double (FP.ddiv (FP.i2d (5 : Int32)) (4626322717216342016 : UInt64))), (.int (4 : Int32)), (.ref b1)])) _
    refine st6 _ ?_
    show Steps p.tables e below (T6.setTop (mkF m 24 #[.val (.ref b1), .val (.int (5 : Int32))] [])) _
    refine XS.iinc X6.here hx rfl (hb hby d1_24) rfl (l' := #[.val (.ref b1), .val (.int (6 : Int32))]) rfl ?_
    show Steps p.tables e below (T6.setTop (mkF m 27 #[.val (.ref b1), .val (.int (6 : Int32))] [])) _
    refine XS.goto X6.here hx rfl (pc0 := 27) (pc' := 7) rfl (hb hby d1_27) (by decide) (by decide) ?_
    show Steps p.tables e below (T6.setTop (mkF m 7 #[.val (.ref b1), .val (.int (6 : Int32))] [])) _
    refine XS.iloadN X6.here hx rfl (hb hby d1_7) rfl ?_
    show Steps p.tables e below (T6.setTop (mkF m 8 #[.val (.ref b1), .val (.int (6 : Int32))] [(.int (6 : Int32))])) _
    refine XS.bipush X6.here hx rfl (hb hby d1_8) ?_
    show Steps p.tables e below (T6.setTop (mkF m 10 #[.val (.ref b1), .val (.int (6 : Int32))] [(.int (19 : Int32)), (.int (6 : Int32))])) _
    refine XS.icmpNo X6.here hx rfl (hb hby d1_10) rfl (by decide) ?_
    show Steps p.tables e below (T6.setTop (mkF m 13 #[.val (.ref b1), .val (.int (6 : Int32))] [])) _
    refine XS.aloadN X6.here hx rfl (hb hby d1_13) rfl rfl ?_
    show Steps p.tables e below (T6.setTop (mkF m 14 #[.val (.ref b1), .val (.int (6 : Int32))] [(.ref b1)])) _
    refine XS.iloadN X6.here hx rfl (hb hby d1_14) rfl ?_
    show Steps p.tables e below (T6.setTop (mkF m 15 #[.val (.ref b1), .val (.int (6 : Int32))] [(.int (6 : Int32)), (.ref b1)])) _
    refine XS.iconst X6.here hx rfl (hb hby d1_15) ?_
    show Steps p.tables e below (T6.setTop (mkF m 16 #[.val (.ref b1), .val (.int (6 : Int32))] [(.int (1 : Int32)), (.int (6 : Int32)), (.ref b1)])) _
    refine XS.isub X6.here hx rfl (hb hby d1_16) rfl ?_
    show Steps p.tables e below (T6.setTop (mkF m 17 #[.val (.ref b1), .val (.int (6 : Int32))] [(.int (5 : Int32)), (.ref b1)])) _
    refine XS.iloadN X6.here hx rfl (hb hby d1_17) rfl ?_
    show Steps p.tables e below (T6.setTop (mkF m 18 #[.val (.ref b1), .val (.int (6 : Int32))] [(.int (6 : Int32)), (.int (5 : Int32)), (.ref b1)])) _
    refine XS.i2dS X6.here hx rfl (hb hby d1_18) rfl rfl ?_
    show Steps p.tables e below (T6.setTop (mkF m 19 #[.val (.ref b1), .val (.int (6 : Int32))] [(.double (FP.i2d (6 : Int32))), (.int (5 : Int32)), (.ref b1)])) _
    refine X6.ldc2DoubleC hx hown (mvT hZ (hw _ (List.mem_of_getElem? (i := 6) rfl))) (g := (mkF m 19 #[.val (.ref b1), .val (.int (6 : Int32))] [(.double (FP.i2d (6 : Int32))), (.int (5 : Int32)), (.ref b1)])) rfl (hb hby d1_19) _ ?_
    show Steps p.tables e below (T6.setTop (mkF m 22 #[.val (.ref b1), .val (.int (6 : Int32))] [(.double (4626322717216342016 : UInt64)), (.double (FP.i2d (6 : Int32))), (.int (5 : Int32)), (.ref b1)])) _
    refine XS.ddivS X6.here hx rfl (hb hby d1_22) rfl (own_nn20 _) rfl ?_
    show Steps p.tables e below (T6.setTop (mkF m 23 #[.val (.ref b1), .val (.int (6 : Int32))] [(.double (FP.ddiv (FP.i2d (6 : Int32)) (4626322717216342016 : UInt64))), (.int (5 : Int32)), (.ref b1)])) _
    refine st7 _ ?_
    show Steps p.tables e below (T7.setTop (mkF m 24 #[.val (.ref b1), .val (.int (6 : Int32))] [])) _
    refine XS.iinc X7.here hx rfl (hb hby d1_24) rfl (l' := #[.val (.ref b1), .val (.int (7 : Int32))]) rfl ?_
    show Steps p.tables e below (T7.setTop (mkF m 27 #[.val (.ref b1), .val (.int (7 : Int32))] [])) _
    refine XS.goto X7.here hx rfl (pc0 := 27) (pc' := 7) rfl (hb hby d1_27) (by decide) (by decide) ?_
    show Steps p.tables e below (T7.setTop (mkF m 7 #[.val (.ref b1), .val (.int (7 : Int32))] [])) _
    refine XS.iloadN X7.here hx rfl (hb hby d1_7) rfl ?_
    show Steps p.tables e below (T7.setTop (mkF m 8 #[.val (.ref b1), .val (.int (7 : Int32))] [(.int (7 : Int32))])) _
    refine XS.bipush X7.here hx rfl (hb hby d1_8) ?_
    show Steps p.tables e below (T7.setTop (mkF m 10 #[.val (.ref b1), .val (.int (7 : Int32))] [(.int (19 : Int32)), (.int (7 : Int32))])) _
    refine XS.icmpNo X7.here hx rfl (hb hby d1_10) rfl (by decide) ?_
    show Steps p.tables e below (T7.setTop (mkF m 13 #[.val (.ref b1), .val (.int (7 : Int32))] [])) _
    refine XS.aloadN X7.here hx rfl (hb hby d1_13) rfl rfl ?_
    show Steps p.tables e below (T7.setTop (mkF m 14 #[.val (.ref b1), .val (.int (7 : Int32))] [(.ref b1)])) _
    refine XS.iloadN X7.here hx rfl (hb hby d1_14) rfl ?_
    show Steps p.tables e below (T7.setTop (mkF m 15 #[.val (.ref b1), .val (.int (7 : Int32))] [(.int (7 : Int32)), (.ref b1)])) _
    refine XS.iconst X7.here hx rfl (hb hby d1_15) ?_
    show Steps p.tables e below (T7.setTop (mkF m 16 #[.val (.ref b1), .val (.int (7 : Int32))] [(.int (1 : Int32)), (.int (7 : Int32)), (.ref b1)])) _
    refine XS.isub X7.here hx rfl (hb hby d1_16) rfl ?_
    show Steps p.tables e below (T7.setTop (mkF m 17 #[.val (.ref b1), .val (.int (7 : Int32))] [(.int (6 : Int32)), (.ref b1)])) _
    refine XS.iloadN X7.here hx rfl (hb hby d1_17) rfl ?_
    show Steps p.tables e below (T7.setTop (mkF m 18 #[.val (.ref b1), .val (.int (7 : Int32))] [(.int (7 : Int32)), (.int (6 : Int32)), (.ref b1)])) _
    refine XS.i2dS X7.here hx rfl (hb hby d1_18) rfl rfl ?_
    show Steps p.tables e below (T7.setTop (mkF m 19 #[.val (.ref b1), .val (.int (7 : Int32))] [(.double (FP.i2d (7 : Int32))), (.int (6 : Int32)), (.ref b1)])) _
    refine X7.ldc2DoubleC hx hown (mvT hZ (hw _ (List.mem_of_getElem? (i := 6) rfl))) (g := (mkF m 19 #[.val (.ref b1), .val (.int (7 : Int32))] [(.double (FP.i2d (7 : Int32))), (.int (6 : Int32)), (.ref b1)])) rfl (hb hby d1_19) _ ?_
    show Steps p.tables e below (T7.setTop (mkF m 22 #[.val (.ref b1), .val (.int (7 : Int32))] [(.double (4626322717216342016 : UInt64)), (.double (FP.i2d (7 : Int32))), (.int (6 : Int32)), (.ref b1)])) _
    refine XS.ddivS X7.here hx rfl (hb hby d1_22) rfl (own_nn20 _) rfl ?_
    show Steps p.tables e below (T7.setTop (mkF m 23 #[.val (.ref b1), .val (.int (7 : Int32))] [(.double (FP.ddiv (FP.i2d (7 : Int32)) (4626322717216342016 : UInt64))), (.int (6 : Int32)), (.ref b1)])) _
    refine st8 _ ?_
    show Steps p.tables e below (T8.setTop (mkF m 24 #[.val (.ref b1), .val (.int (7 : Int32))] [])) _
    refine XS.iinc X8.here hx rfl (hb hby d1_24) rfl (l' := #[.val (.ref b1), .val (.int (8 : Int32))]) rfl ?_
    show Steps p.tables e below (T8.setTop (mkF m 27 #[.val (.ref b1), .val (.int (8 : Int32))] [])) _
    refine XS.goto X8.here hx rfl (pc0 := 27) (pc' := 7) rfl (hb hby d1_27) (by decide) (by decide) ?_
    show Steps p.tables e below (T8.setTop (mkF m 7 #[.val (.ref b1), .val (.int (8 : Int32))] [])) _
    refine XS.iloadN X8.here hx rfl (hb hby d1_7) rfl ?_
    show Steps p.tables e below (T8.setTop (mkF m 8 #[.val (.ref b1), .val (.int (8 : Int32))] [(.int (8 : Int32))])) _
    refine XS.bipush X8.here hx rfl (hb hby d1_8) ?_
    show Steps p.tables e below (T8.setTop (mkF m 10 #[.val (.ref b1), .val (.int (8 : Int32))] [(.int (19 : Int32)), (.int (8 : Int32))])) _
    refine XS.icmpNo X8.here hx rfl (hb hby d1_10) rfl (by decide) ?_
    show Steps p.tables e below (T8.setTop (mkF m 13 #[.val (.ref b1), .val (.int (8 : Int32))] [])) _
    refine XS.aloadN X8.here hx rfl (hb hby d1_13) rfl rfl ?_
    show Steps p.tables e below (T8.setTop (mkF m 14 #[.val (.ref b1), .val (.int (8 : Int32))] [(.ref b1)])) _
    refine XS.iloadN X8.here hx rfl (hb hby d1_14) rfl ?_
    show Steps p.tables e below (T8.setTop (mkF m 15 #[.val (.ref b1), .val (.int (8 : Int32))] [(.int (8 : Int32)), (.ref b1)])) _
    refine XS.iconst X8.here hx rfl (hb hby d1_15) ?_
    show Steps p.tables e below (T8.setTop (mkF m 16 #[.val (.ref b1), .val (.int (8 : Int32))] [(.int (1 : Int32)), (.int (8 : Int32)), (.ref b1)])) _
    refine XS.isub X8.here hx rfl (hb hby d1_16) rfl ?_
    show Steps p.tables e below (T8.setTop (mkF m 17 #[.val (.ref b1), .val (.int (8 : Int32))] [(.int (7 : Int32)), (.ref b1)])) _
    refine XS.iloadN X8.here hx rfl (hb hby d1_17) rfl ?_
    show Steps p.tables e below (T8.setTop (mkF m 18 #[.val (.ref b1), .val (.int (8 : Int32))] [(.int (8 : Int32)), (.int (7 : Int32)), (.ref b1)])) _
    refine XS.i2dS X8.here hx rfl (hb hby d1_18) rfl rfl ?_
    show Steps p.tables e below (T8.setTop (mkF m 19 #[.val (.ref b1), .val (.int (8 : Int32))] [(.double (FP.i2d (8 : Int32))), (.int (7 : Int32)), (.ref b1)])) _
    refine X8.ldc2DoubleC hx hown (mvT hZ (hw _ (List.mem_of_getElem? (i := 6) rfl))) (g := (mkF m 19 #[.val (.ref b1), .val (.int (8 : Int32))] [(.double (FP.i2d (8 : Int32))), (.int (7 : Int32)), (.ref b1)])) rfl (hb hby d1_19) _ ?_
    show Steps p.tables e below (T8.setTop (mkF m 22 #[.val (.ref b1), .val (.int (8 : Int32))] [(.double (4626322717216342016 : UInt64)), (.double (FP.i2d (8 : Int32))), (.int (7 : Int32)), (.ref b1)])) _
    refine XS.ddivS X8.here hx rfl (hb hby d1_22) rfl (own_nn20 _) rfl ?_
    show Steps p.tables e below (T8.setTop (mkF m 23 #[.val (.ref b1), .val (.int (8 : Int32))] [(.double (FP.ddiv (FP.i2d (8 : Int32)) (4626322717216342016 : UInt64))), (.int (7 : Int32)), (.ref b1)])) _
    refine st9 _ ?_
    show Steps p.tables e below (T9.setTop (mkF m 24 #[.val (.ref b1), .val (.int (8 : Int32))] [])) _
    refine XS.iinc X9.here hx rfl (hb hby d1_24) rfl (l' := #[.val (.ref b1), .val (.int (9 : Int32))]) rfl ?_
    show Steps p.tables e below (T9.setTop (mkF m 27 #[.val (.ref b1), .val (.int (9 : Int32))] [])) _
    refine XS.goto X9.here hx rfl (pc0 := 27) (pc' := 7) rfl (hb hby d1_27) (by decide) (by decide) ?_
    show Steps p.tables e below (T9.setTop (mkF m 7 #[.val (.ref b1), .val (.int (9 : Int32))] [])) _
    refine XS.iloadN X9.here hx rfl (hb hby d1_7) rfl ?_
    show Steps p.tables e below (T9.setTop (mkF m 8 #[.val (.ref b1), .val (.int (9 : Int32))] [(.int (9 : Int32))])) _
    refine XS.bipush X9.here hx rfl (hb hby d1_8) ?_
    show Steps p.tables e below (T9.setTop (mkF m 10 #[.val (.ref b1), .val (.int (9 : Int32))] [(.int (19 : Int32)), (.int (9 : Int32))])) _
    refine XS.icmpNo X9.here hx rfl (hb hby d1_10) rfl (by decide) ?_
    show Steps p.tables e below (T9.setTop (mkF m 13 #[.val (.ref b1), .val (.int (9 : Int32))] [])) _
    refine XS.aloadN X9.here hx rfl (hb hby d1_13) rfl rfl ?_
    show Steps p.tables e below (T9.setTop (mkF m 14 #[.val (.ref b1), .val (.int (9 : Int32))] [(.ref b1)])) _
    refine XS.iloadN X9.here hx rfl (hb hby d1_14) rfl ?_
    show Steps p.tables e below (T9.setTop (mkF m 15 #[.val (.ref b1), .val (.int (9 : Int32))] [(.int (9 : Int32)), (.ref b1)])) _
    refine XS.iconst X9.here hx rfl (hb hby d1_15) ?_
    show Steps p.tables e below (T9.setTop (mkF m 16 #[.val (.ref b1), .val (.int (9 : Int32))] [(.int (1 : Int32)), (.int (9 : Int32)), (.ref b1)])) _
    refine XS.isub X9.here hx rfl (hb hby d1_16) rfl ?_
    show Steps p.tables e below (T9.setTop (mkF m 17 #[.val (.ref b1), .val (.int (9 : Int32))] [(.int (8 : Int32)), (.ref b1)])) _
    refine XS.iloadN X9.here hx rfl (hb hby d1_17) rfl ?_
    show Steps p.tables e below (T9.setTop (mkF m 18 #[.val (.ref b1), .val (.int (9 : Int32))] [(.int (9 : Int32)), (.int (8 : Int32)), (.ref b1)])) _
    refine XS.i2dS X9.here hx rfl (hb hby d1_18) rfl rfl ?_
    show Steps p.tables e below (T9.setTop (mkF m 19 #[.val (.ref b1), .val (.int (9 : Int32))] [(.double (FP.i2d (9 : Int32))), (.int (8 : Int32)), (.ref b1)])) _
    refine X9.ldc2DoubleC hx hown (mvT hZ (hw _ (List.mem_of_getElem? (i := 6) rfl))) (g := (mkF m 19 #[.val (.ref b1), .val (.int (9 : Int32))] [(.double (FP.i2d (9 : Int32))), (.int (8 : Int32)), (.ref b1)])) rfl (hb hby d1_19) _ ?_
    show Steps p.tables e below (T9.setTop (mkF m 22 #[.val (.ref b1), .val (.int (9 : Int32))] [(.double (4626322717216342016 : UInt64)), (.double (FP.i2d (9 : Int32))), (.int (8 : Int32)), (.ref b1)])) _
    refine XS.ddivS X9.here hx rfl (hb hby d1_22) rfl (own_nn20 _) rfl ?_
    show Steps p.tables e below (T9.setTop (mkF m 23 #[.val (.ref b1), .val (.int (9 : Int32))] [(.double (FP.ddiv (FP.i2d (9 : Int32)) (4626322717216342016 : UInt64))), (.int (8 : Int32)), (.ref b1)])) _
    refine st10 _ ?_
    show Steps p.tables e below (T10.setTop (mkF m 24 #[.val (.ref b1), .val (.int (9 : Int32))] [])) _
    refine XS.iinc X10.here hx rfl (hb hby d1_24) rfl (l' := #[.val (.ref b1), .val (.int (10 : Int32))]) rfl ?_
    show Steps p.tables e below (T10.setTop (mkF m 27 #[.val (.ref b1), .val (.int (10 : Int32))] [])) _
    refine XS.goto X10.here hx rfl (pc0 := 27) (pc' := 7) rfl (hb hby d1_27) (by decide) (by decide) ?_
    show Steps p.tables e below (T10.setTop (mkF m 7 #[.val (.ref b1), .val (.int (10 : Int32))] [])) _
    refine XS.iloadN X10.here hx rfl (hb hby d1_7) rfl ?_
    show Steps p.tables e below (T10.setTop (mkF m 8 #[.val (.ref b1), .val (.int (10 : Int32))] [(.int (10 : Int32))])) _
    refine XS.bipush X10.here hx rfl (hb hby d1_8) ?_
    show Steps p.tables e below (T10.setTop (mkF m 10 #[.val (.ref b1), .val (.int (10 : Int32))] [(.int (19 : Int32)), (.int (10 : Int32))])) _
    refine XS.icmpNo X10.here hx rfl (hb hby d1_10) rfl (by decide) ?_
    show Steps p.tables e below (T10.setTop (mkF m 13 #[.val (.ref b1), .val (.int (10 : Int32))] [])) _
    refine XS.aloadN X10.here hx rfl (hb hby d1_13) rfl rfl ?_
    show Steps p.tables e below (T10.setTop (mkF m 14 #[.val (.ref b1), .val (.int (10 : Int32))] [(.ref b1)])) _
    refine XS.iloadN X10.here hx rfl (hb hby d1_14) rfl ?_
    show Steps p.tables e below (T10.setTop (mkF m 15 #[.val (.ref b1), .val (.int (10 : Int32))] [(.int (10 : Int32)), (.ref b1)])) _
    refine XS.iconst X10.here hx rfl (hb hby d1_15) ?_
    show Steps p.tables e below (T10.setTop (mkF m 16 #[.val (.ref b1), .val (.int (10 : Int32))] [(.int (1 : Int32)), (.int (10 : Int32)), (.ref b1)])) _
    refine XS.isub X10.here hx rfl (hb hby d1_16) rfl ?_
    show Steps p.tables e below (T10.setTop (mkF m 17 #[.val (.ref b1), .val (.int (10 : Int32))] [(.int (9 : Int32)), (.ref b1)])) _
    refine XS.iloadN X10.here hx rfl (hb hby d1_17) rfl ?_
    show Steps p.tables e below (T10.setTop (mkF m 18 #[.val (.ref b1), .val (.int (10 : Int32))] [(.int (10 : Int32)), (.int (9 : Int32)), (.ref b1)])) _
    refine XS.i2dS X10.here hx rfl (hb hby d1_18) rfl rfl ?_
    show Steps p.tables e below (T10.setTop (mkF m 19 #[.val (.ref b1), .val (.int (10 : Int32))] [(.double (FP.i2d (10 : Int32))), (.int (9 : Int32)), (.ref b1)])) _
    refine X10.ldc2DoubleC hx hown (mvT hZ (hw _ (List.mem_of_getElem? (i := 6) rfl))) (g := (mkF m 19 #[.val (.ref b1), .val (.int (10 : Int32))] [(.double (FP.i2d (10 : Int32))), (.int (9 : Int32)), (.ref b1)])) rfl (hb hby d1_19) _ ?_
    show Steps p.tables e below (T10.setTop (mkF m 22 #[.val (.ref b1), .val (.int (10 : Int32))] [(.double (4626322717216342016 : UInt64)), (.double (FP.i2d (10 : Int32))), (.int (9 : Int32)), (.ref b1)])) _
    refine XS.ddivS X10.here hx rfl (hb hby d1_22) rfl (own_nn20 _) rfl ?_
    show Steps p.tables e below (T10.setTop (mkF m 23 #[.val (.ref b1), .val (.int (10 : Int32))] [(.double (FP.ddiv (FP.i2d (10 : Int32)) (4626322717216342016 : UInt64))), (.int (9 : Int32)), (.ref b1)])) _
    refine st11 _ ?_
    show Steps p.tables e below (T11.setTop (mkF m 24 #[.val (.ref b1), .val (.int (10 : Int32))] [])) _
    refine XS.iinc X11.here hx rfl (hb hby d1_24) rfl (l' := #[.val (.ref b1), .val (.int (11 : Int32))]) rfl ?_
    show Steps p.tables e below (T11.setTop (mkF m 27 #[.val (.ref b1), .val (.int (11 : Int32))] [])) _
    refine XS.goto X11.here hx rfl (pc0 := 27) (pc' := 7) rfl (hb hby d1_27) (by decide) (by decide) ?_
    show Steps p.tables e below (T11.setTop (mkF m 7 #[.val (.ref b1), .val (.int (11 : Int32))] [])) _
    refine XS.iloadN X11.here hx rfl (hb hby d1_7) rfl ?_
    show Steps p.tables e below (T11.setTop (mkF m 8 #[.val (.ref b1), .val (.int (11 : Int32))] [(.int (11 : Int32))])) _
    refine XS.bipush X11.here hx rfl (hb hby d1_8) ?_
    show Steps p.tables e below (T11.setTop (mkF m 10 #[.val (.ref b1), .val (.int (11 : Int32))] [(.int (19 : Int32)), (.int (11 : Int32))])) _
    refine XS.icmpNo X11.here hx rfl (hb hby d1_10) rfl (by decide) ?_
    show Steps p.tables e below (T11.setTop (mkF m 13 #[.val (.ref b1), .val (.int (11 : Int32))] [])) _
    refine XS.aloadN X11.here hx rfl (hb hby d1_13) rfl rfl ?_
    show Steps p.tables e below (T11.setTop (mkF m 14 #[.val (.ref b1), .val (.int (11 : Int32))] [(.ref b1)])) _
    refine XS.iloadN X11.here hx rfl (hb hby d1_14) rfl ?_
    show Steps p.tables e below (T11.setTop (mkF m 15 #[.val (.ref b1), .val (.int (11 : Int32))] [(.int (11 : Int32)), (.ref b1)])) _
    refine XS.iconst X11.here hx rfl (hb hby d1_15) ?_
    show Steps p.tables e below (T11.setTop (mkF m 16 #[.val (.ref b1), .val (.int (11 : Int32))] [(.int (1 : Int32)), (.int (11 : Int32)), (.ref b1)])) _
    refine XS.isub X11.here hx rfl (hb hby d1_16) rfl ?_
    show Steps p.tables e below (T11.setTop (mkF m 17 #[.val (.ref b1), .val (.int (11 : Int32))] [(.int (10 : Int32)), (.ref b1)])) _
    refine XS.iloadN X11.here hx rfl (hb hby d1_17) rfl ?_
    show Steps p.tables e below (T11.setTop (mkF m 18 #[.val (.ref b1), .val (.int (11 : Int32))] [(.int (11 : Int32)), (.int (10 : Int32)), (.ref b1)])) _
    refine XS.i2dS X11.here hx rfl (hb hby d1_18) rfl rfl ?_
    show Steps p.tables e below (T11.setTop (mkF m 19 #[.val (.ref b1), .val (.int (11 : Int32))] [(.double (FP.i2d (11 : Int32))), (.int (10 : Int32)), (.ref b1)])) _
    refine X11.ldc2DoubleC hx hown (mvT hZ (hw _ (List.mem_of_getElem? (i := 6) rfl))) (g := (mkF m 19 #[.val (.ref b1), .val (.int (11 : Int32))] [(.double (FP.i2d (11 : Int32))), (.int (10 : Int32)), (.ref b1)])) rfl (hb hby d1_19) _ ?_
    show Steps p.tables e below (T11.setTop (mkF m 22 #[.val (.ref b1), .val (.int (11 : Int32))] [(.double (4626322717216342016 : UInt64)), (.double (FP.i2d (11 : Int32))), (.int (10 : Int32)), (.ref b1)])) _
    refine XS.ddivS X11.here hx rfl (hb hby d1_22) rfl (own_nn20 _) rfl ?_
    show Steps p.tables e below (T11.setTop (mkF m 23 #[.val (.ref b1), .val (.int (11 : Int32))] [(.double (FP.ddiv (FP.i2d (11 : Int32)) (4626322717216342016 : UInt64))), (.int (10 : Int32)), (.ref b1)])) _
    refine st12 _ ?_
    show Steps p.tables e below (T12.setTop (mkF m 24 #[.val (.ref b1), .val (.int (11 : Int32))] [])) _
    refine XS.iinc X12.here hx rfl (hb hby d1_24) rfl (l' := #[.val (.ref b1), .val (.int (12 : Int32))]) rfl ?_
    show Steps p.tables e below (T12.setTop (mkF m 27 #[.val (.ref b1), .val (.int (12 : Int32))] [])) _
    refine XS.goto X12.here hx rfl (pc0 := 27) (pc' := 7) rfl (hb hby d1_27) (by decide) (by decide) ?_
    show Steps p.tables e below (T12.setTop (mkF m 7 #[.val (.ref b1), .val (.int (12 : Int32))] [])) _
    refine XS.iloadN X12.here hx rfl (hb hby d1_7) rfl ?_
    show Steps p.tables e below (T12.setTop (mkF m 8 #[.val (.ref b1), .val (.int (12 : Int32))] [(.int (12 : Int32))])) _
    refine XS.bipush X12.here hx rfl (hb hby d1_8) ?_
    show Steps p.tables e below (T12.setTop (mkF m 10 #[.val (.ref b1), .val (.int (12 : Int32))] [(.int (19 : Int32)), (.int (12 : Int32))])) _
    refine XS.icmpNo X12.here hx rfl (hb hby d1_10) rfl (by decide) ?_
    show Steps p.tables e below (T12.setTop (mkF m 13 #[.val (.ref b1), .val (.int (12 : Int32))] [])) _
    refine XS.aloadN X12.here hx rfl (hb hby d1_13) rfl rfl ?_
    show Steps p.tables e below (T12.setTop (mkF m 14 #[.val (.ref b1), .val (.int (12 : Int32))] [(.ref b1)])) _
    refine XS.iloadN X12.here hx rfl (hb hby d1_14) rfl ?_
    show Steps p.tables e below (T12.setTop (mkF m 15 #[.val (.ref b1), .val (.int (12 : Int32))] [(.int (12 : Int32)), (.ref b1)])) _
    refine XS.iconst X12.here hx rfl (hb hby d1_15) ?_
    show Steps p.tables e below (T12.setTop (mkF m 16 #[.val (.ref b1), .val (.int (12 : Int32))] [(.int (1 : Int32)), (.int (12 : Int32)), (.ref b1)])) _
    refine XS.isub X12.here hx rfl (hb hby d1_16) rfl ?_
    show Steps p.tables e below (T12.setTop (mkF m 17 #[.val (.ref b1), .val (.int (12 : Int32))] [(.int (11 : Int32)), (.ref b1)])) _
    refine XS.iloadN X12.here hx rfl (hb hby d1_17) rfl ?_
    show Steps p.tables e below (T12.setTop (mkF m 18 #[.val (.ref b1), .val (.int (12 : Int32))] [(.int (12 : Int32)), (.int (11 : Int32)), (.ref b1)])) _
    refine XS.i2dS X12.here hx rfl (hb hby d1_18) rfl rfl ?_
    show Steps p.tables e below (T12.setTop (mkF m 19 #[.val (.ref b1), .val (.int (12 : Int32))] [(.double (FP.i2d (12 : Int32))), (.int (11 : Int32)), (.ref b1)])) _
    refine X12.ldc2DoubleC hx hown (mvT hZ (hw _ (List.mem_of_getElem? (i := 6) rfl))) (g := (mkF m 19 #[.val (.ref b1), .val (.int (12 : Int32))] [(.double (FP.i2d (12 : Int32))), (.int (11 : Int32)), (.ref b1)])) rfl (hb hby d1_19) _ ?_
    show Steps p.tables e below (T12.setTop (mkF m 22 #[.val (.ref b1), .val (.int (12 : Int32))] [(.double (4626322717216342016 : UInt64)), (.double (FP.i2d (12 : Int32))), (.int (11 : Int32)), (.ref b1)])) _
    refine XS.ddivS X12.here hx rfl (hb hby d1_22) rfl (own_nn20 _) rfl ?_
    show Steps p.tables e below (T12.setTop (mkF m 23 #[.val (.ref b1), .val (.int (12 : Int32))] [(.double (FP.ddiv (FP.i2d (12 : Int32)) (4626322717216342016 : UInt64))), (.int (11 : Int32)), (.ref b1)])) _
    refine st13 _ ?_
    show Steps p.tables e below (T13.setTop (mkF m 24 #[.val (.ref b1), .val (.int (12 : Int32))] [])) _
    refine XS.iinc X13.here hx rfl (hb hby d1_24) rfl (l' := #[.val (.ref b1), .val (.int (13 : Int32))]) rfl ?_
    show Steps p.tables e below (T13.setTop (mkF m 27 #[.val (.ref b1), .val (.int (13 : Int32))] [])) _
    refine XS.goto X13.here hx rfl (pc0 := 27) (pc' := 7) rfl (hb hby d1_27) (by decide) (by decide) ?_
    show Steps p.tables e below (T13.setTop (mkF m 7 #[.val (.ref b1), .val (.int (13 : Int32))] [])) _
    refine XS.iloadN X13.here hx rfl (hb hby d1_7) rfl ?_
    show Steps p.tables e below (T13.setTop (mkF m 8 #[.val (.ref b1), .val (.int (13 : Int32))] [(.int (13 : Int32))])) _
    refine XS.bipush X13.here hx rfl (hb hby d1_8) ?_
    show Steps p.tables e below (T13.setTop (mkF m 10 #[.val (.ref b1), .val (.int (13 : Int32))] [(.int (19 : Int32)), (.int (13 : Int32))])) _
    refine XS.icmpNo X13.here hx rfl (hb hby d1_10) rfl (by decide) ?_
    show Steps p.tables e below (T13.setTop (mkF m 13 #[.val (.ref b1), .val (.int (13 : Int32))] [])) _
    refine XS.aloadN X13.here hx rfl (hb hby d1_13) rfl rfl ?_
    show Steps p.tables e below (T13.setTop (mkF m 14 #[.val (.ref b1), .val (.int (13 : Int32))] [(.ref b1)])) _
    refine XS.iloadN X13.here hx rfl (hb hby d1_14) rfl ?_
    show Steps p.tables e below (T13.setTop (mkF m 15 #[.val (.ref b1), .val (.int (13 : Int32))] [(.int (13 : Int32)), (.ref b1)])) _
    refine XS.iconst X13.here hx rfl (hb hby d1_15) ?_
    show Steps p.tables e below (T13.setTop (mkF m 16 #[.val (.ref b1), .val (.int (13 : Int32))] [(.int (1 : Int32)), (.int (13 : Int32)), (.ref b1)])) _
    refine XS.isub X13.here hx rfl (hb hby d1_16) rfl ?_
    show Steps p.tables e below (T13.setTop (mkF m 17 #[.val (.ref b1), .val (.int (13 : Int32))] [(.int (12 : Int32)), (.ref b1)])) _
    refine XS.iloadN X13.here hx rfl (hb hby d1_17) rfl ?_
    show Steps p.tables e below (T13.setTop (mkF m 18 #[.val (.ref b1), .val (.int (13 : Int32))] [(.int (13 : Int32)), (.int (12 : Int32)), (.ref b1)])) _
    refine XS.i2dS X13.here hx rfl (hb hby d1_18) rfl rfl ?_
    show Steps p.tables e below (T13.setTop (mkF m 19 #[.val (.ref b1), .val (.int (13 : Int32))] [(.double (FP.i2d (13 : Int32))), (.int (12 : Int32)), (.ref b1)])) _
    refine X13.ldc2DoubleC hx hown (mvT hZ (hw _ (List.mem_of_getElem? (i := 6) rfl))) (g := (mkF m 19 #[.val (.ref b1), .val (.int (13 : Int32))] [(.double (FP.i2d (13 : Int32))), (.int (12 : Int32)), (.ref b1)])) rfl (hb hby d1_19) _ ?_
    show Steps p.tables e below (T13.setTop (mkF m 22 #[.val (.ref b1), .val (.int (13 : Int32))] [(.double (4626322717216342016 : UInt64)), (.double (FP.i2d (13 : Int32))), (.int (12 : Int32)), (.ref b1)])) _
    refine XS.ddivS X13.here hx rfl (hb hby d1_22) rfl (own_nn20 _) rfl ?_
    show Steps p.tables e below (T13.setTop (mkF m 23 #[.val (.ref b1), .val (.int (13 : Int32))] [(.double (FP.ddiv (FP.i2d (13 : Int32)) (4626322717216342016 : UInt64))), (.int (12 : Int32)), (.ref b1)])) _
    refine st14 _ ?_
    show Steps p.tables e below (T14.setTop (mkF m 24 #[.val (.ref b1), .val (.int (13 : Int32))] [])) _
    refine XS.iinc X14.here hx rfl (hb hby d1_24) rfl (l' := #[.val (.ref b1), .val (.int (14 : Int32))]) rfl ?_
    show Steps p.tables e below (T14.setTop (mkF m 27 #[.val (.ref b1), .val (.int (14 : Int32))] [])) _
    refine XS.goto X14.here hx rfl (pc0 := 27) (pc' := 7) rfl (hb hby d1_27) (by decide) (by decide) ?_
    show Steps p.tables e below (T14.setTop (mkF m 7 #[.val (.ref b1), .val (.int (14 : Int32))] [])) _
    refine XS.iloadN X14.here hx rfl (hb hby d1_7) rfl ?_
    show Steps p.tables e below (T14.setTop (mkF m 8 #[.val (.ref b1), .val (.int (14 : Int32))] [(.int (14 : Int32))])) _
    refine XS.bipush X14.here hx rfl (hb hby d1_8) ?_
    show Steps p.tables e below (T14.setTop (mkF m 10 #[.val (.ref b1), .val (.int (14 : Int32))] [(.int (19 : Int32)), (.int (14 : Int32))])) _
    refine XS.icmpNo X14.here hx rfl (hb hby d1_10) rfl (by decide) ?_
    show Steps p.tables e below (T14.setTop (mkF m 13 #[.val (.ref b1), .val (.int (14 : Int32))] [])) _
    refine XS.aloadN X14.here hx rfl (hb hby d1_13) rfl rfl ?_
    show Steps p.tables e below (T14.setTop (mkF m 14 #[.val (.ref b1), .val (.int (14 : Int32))] [(.ref b1)])) _
    refine XS.iloadN X14.here hx rfl (hb hby d1_14) rfl ?_
    show Steps p.tables e below (T14.setTop (mkF m 15 #[.val (.ref b1), .val (.int (14 : Int32))] [(.int (14 : Int32)), (.ref b1)])) _
    refine XS.iconst X14.here hx rfl (hb hby d1_15) ?_
    show Steps p.tables e below (T14.setTop (mkF m 16 #[.val (.ref b1), .val (.int (14 : Int32))] [(.int (1 : Int32)), (.int (14 : Int32)), (.ref b1)])) _
    refine XS.isub X14.here hx rfl (hb hby d1_16) rfl ?_
    show Steps p.tables e below (T14.setTop (mkF m 17 #[.val (.ref b1), .val (.int (14 : Int32))] [(.int (13 : Int32)), (.ref b1)])) _
    refine XS.iloadN X14.here hx rfl (hb hby d1_17) rfl ?_
    show Steps p.tables e below (T14.setTop (mkF m 18 #[.val (.ref b1), .val (.int (14 : Int32))] [(.int (14 : Int32)), (.int (13 : Int32)), (.ref b1)])) _
    refine XS.i2dS X14.here hx rfl (hb hby d1_18) rfl rfl ?_
    show Steps p.tables e below (T14.setTop (mkF m 19 #[.val (.ref b1), .val (.int (14 : Int32))] [(.double (FP.i2d (14 : Int32))), (.int (13 : Int32)), (.ref b1)])) _
    refine X14.ldc2DoubleC hx hown (mvT hZ (hw _ (List.mem_of_getElem? (i := 6) rfl))) (g := (mkF m 19 #[.val (.ref b1), .val (.int (14 : Int32))] [(.double (FP.i2d (14 : Int32))), (.int (13 : Int32)), (.ref b1)])) rfl (hb hby d1_19) _ ?_
    show Steps p.tables e below (T14.setTop (mkF m 22 #[.val (.ref b1), .val (.int (14 : Int32))] [(.double (4626322717216342016 : UInt64)), (.double (FP.i2d (14 : Int32))), (.int (13 : Int32)), (.ref b1)])) _
    refine XS.ddivS X14.here hx rfl (hb hby d1_22) rfl (own_nn20 _) rfl ?_
    show Steps p.tables e below (T14.setTop (mkF m 23 #[.val (.ref b1), .val (.int (14 : Int32))] [(.double (FP.ddiv (FP.i2d (14 : Int32)) (4626322717216342016 : UInt64))), (.int (13 : Int32)), (.ref b1)])) _
    refine st15 _ ?_
    show Steps p.tables e below (T15.setTop (mkF m 24 #[.val (.ref b1), .val (.int (14 : Int32))] [])) _
    refine XS.iinc X15.here hx rfl (hb hby d1_24) rfl (l' := #[.val (.ref b1), .val (.int (15 : Int32))]) rfl ?_
    show Steps p.tables e below (T15.setTop (mkF m 27 #[.val (.ref b1), .val (.int (15 : Int32))] [])) _
    refine XS.goto X15.here hx rfl (pc0 := 27) (pc' := 7) rfl (hb hby d1_27) (by decide) (by decide) ?_
    show Steps p.tables e below (T15.setTop (mkF m 7 #[.val (.ref b1), .val (.int (15 : Int32))] [])) _
    refine XS.iloadN X15.here hx rfl (hb hby d1_7) rfl ?_
    show Steps p.tables e below (T15.setTop (mkF m 8 #[.val (.ref b1), .val (.int (15 : Int32))] [(.int (15 : Int32))])) _
    refine XS.bipush X15.here hx rfl (hb hby d1_8) ?_
    show Steps p.tables e below (T15.setTop (mkF m 10 #[.val (.ref b1), .val (.int (15 : Int32))] [(.int (19 : Int32)), (.int (15 : Int32))])) _
    refine XS.icmpNo X15.here hx rfl (hb hby d1_10) rfl (by decide) ?_
    show Steps p.tables e below (T15.setTop (mkF m 13 #[.val (.ref b1), .val (.int (15 : Int32))] [])) _
    refine XS.aloadN X15.here hx rfl (hb hby d1_13) rfl rfl ?_
    show Steps p.tables e below (T15.setTop (mkF m 14 #[.val (.ref b1), .val (.int (15 : Int32))] [(.ref b1)])) _
    refine XS.iloadN X15.here hx rfl (hb hby d1_14) rfl ?_
    show Steps p.tables e below (T15.setTop (mkF m 15 #[.val (.ref b1), .val (.int (15 : Int32))] [(.int (15 : Int32)), (.ref b1)])) _
    refine XS.iconst X15.here hx rfl (hb hby d1_15) ?_
    show Steps p.tables e below (T15.setTop (mkF m 16 #[.val (.ref b1), .val (.int (15 : Int32))] [(.int (1 : Int32)), (.int (15 : Int32)), (.ref b1)])) _
    refine XS.isub X15.here hx rfl (hb hby d1_16) rfl ?_
    show Steps p.tables e below (T15.setTop (mkF m 17 #[.val (.ref b1), .val (.int (15 : Int32))] [(.int (14 : Int32)), (.ref b1)])) _
    refine XS.iloadN X15.here hx rfl (hb hby d1_17) rfl ?_
    show Steps p.tables e below (T15.setTop (mkF m 18 #[.val (.ref b1), .val (.int (15 : Int32))] [(.int (15 : Int32)), (.int (14 : Int32)), (.ref b1)])) _
    refine XS.i2dS X15.here hx rfl (hb hby d1_18) rfl rfl ?_
    show Steps p.tables e below (T15.setTop (mkF m 19 #[.val (.ref b1), .val (.int (15 : Int32))] [(.double (FP.i2d (15 : Int32))), (.int (14 : Int32)), (.ref b1)])) _
    refine X15.ldc2DoubleC hx hown (mvT hZ (hw _ (List.mem_of_getElem? (i := 6) rfl))) (g := (mkF m 19 #[.val (.ref b1), .val (.int (15 : Int32))] [(.double (FP.i2d (15 : Int32))), (.int (14 : Int32)), (.ref b1)])) rfl (hb hby d1_19) _ ?_
    show Steps p.tables e below (T15.setTop (mkF m 22 #[.val (.ref b1), .val (.int (15 : Int32))] [(.double (4626322717216342016 : UInt64)), (.double (FP.i2d (15 : Int32))), (.int (14 : Int32)), (.ref b1)])) _
    refine XS.ddivS X15.here hx rfl (hb hby d1_22) rfl (own_nn20 _) rfl ?_
    show Steps p.tables e below (T15.setTop (mkF m 23 #[.val (.ref b1), .val (.int (15 : Int32))] [(.double (FP.ddiv (FP.i2d (15 : Int32)) (4626322717216342016 : UInt64))), (.int (14 : Int32)), (.ref b1)])) _
    refine st16 _ ?_
    show Steps p.tables e below (T16.setTop (mkF m 24 #[.val (.ref b1), .val (.int (15 : Int32))] [])) _
    refine XS.iinc X16.here hx rfl (hb hby d1_24) rfl (l' := #[.val (.ref b1), .val (.int (16 : Int32))]) rfl ?_
    show Steps p.tables e below (T16.setTop (mkF m 27 #[.val (.ref b1), .val (.int (16 : Int32))] [])) _
    refine XS.goto X16.here hx rfl (pc0 := 27) (pc' := 7) rfl (hb hby d1_27) (by decide) (by decide) ?_
    show Steps p.tables e below (T16.setTop (mkF m 7 #[.val (.ref b1), .val (.int (16 : Int32))] [])) _
    refine XS.iloadN X16.here hx rfl (hb hby d1_7) rfl ?_
    show Steps p.tables e below (T16.setTop (mkF m 8 #[.val (.ref b1), .val (.int (16 : Int32))] [(.int (16 : Int32))])) _
    refine XS.bipush X16.here hx rfl (hb hby d1_8) ?_
    show Steps p.tables e below (T16.setTop (mkF m 10 #[.val (.ref b1), .val (.int (16 : Int32))] [(.int (19 : Int32)), (.int (16 : Int32))])) _
    refine XS.icmpNo X16.here hx rfl (hb hby d1_10) rfl (by decide) ?_
    show Steps p.tables e below (T16.setTop (mkF m 13 #[.val (.ref b1), .val (.int (16 : Int32))] [])) _
    refine XS.aloadN X16.here hx rfl (hb hby d1_13) rfl rfl ?_
    show Steps p.tables e below (T16.setTop (mkF m 14 #[.val (.ref b1), .val (.int (16 : Int32))] [(.ref b1)])) _
    refine XS.iloadN X16.here hx rfl (hb hby d1_14) rfl ?_
    show Steps p.tables e below (T16.setTop (mkF m 15 #[.val (.ref b1), .val (.int (16 : Int32))] [(.int (16 : Int32)), (.ref b1)])) _
    refine XS.iconst X16.here hx rfl (hb hby d1_15) ?_
    show Steps p.tables e below (T16.setTop (mkF m 16 #[.val (.ref b1), .val (.int (16 : Int32))] [(.int (1 : Int32)), (.int (16 : Int32)), (.ref b1)])) _
    refine XS.isub X16.here hx rfl (hb hby d1_16) rfl ?_
    show Steps p.tables e below (T16.setTop (mkF m 17 #[.val (.ref b1), .val (.int (16 : Int32))] [(.int (15 : Int32)), (.ref b1)])) _
    refine XS.iloadN X16.here hx rfl (hb hby d1_17) rfl ?_
    show Steps p.tables e below (T16.setTop (mkF m 18 #[.val (.ref b1), .val (.int (16 : Int32))] [(.int (16 : Int32)), (.int (15 : Int32)), (.ref b1)])) _
    refine XS.i2dS X16.here hx rfl (hb hby d1_18) rfl rfl ?_
    show Steps p.tables e below (T16.setTop (mkF m 19 #[.val (.ref b1), .val (.int (16 : Int32))] [(.double (FP.i2d (16 : Int32))), (.int (15 : Int32)), (.ref b1)])) _
    refine X16.ldc2DoubleC hx hown (mvT hZ (hw _ (List.mem_of_getElem? (i := 6) rfl))) (g := (mkF m 19 #[.val (.ref b1), .val (.int (16 : Int32))] [(.double (FP.i2d (16 : Int32))), (.int (15 : Int32)), (.ref b1)])) rfl (hb hby d1_19) _ ?_
    show Steps p.tables e below (T16.setTop (mkF m 22 #[.val (.ref b1), .val (.int (16 : Int32))] [(.double (4626322717216342016 : UInt64)), (.double (FP.i2d (16 : Int32))), (.int (15 : Int32)), (.ref b1)])) _
    refine XS.ddivS X16.here hx rfl (hb hby d1_22) rfl (own_nn20 _) rfl ?_
    show Steps p.tables e below (T16.setTop (mkF m 23 #[.val (.ref b1), .val (.int (16 : Int32))] [(.double (FP.ddiv (FP.i2d (16 : Int32)) (4626322717216342016 : UInt64))), (.int (15 : Int32)), (.ref b1)])) _
    refine st17 _ ?_
    show Steps p.tables e below (T17.setTop (mkF m 24 #[.val (.ref b1), .val (.int (16 : Int32))] [])) _
    refine XS.iinc X17.here hx rfl (hb hby d1_24) rfl (l' := #[.val (.ref b1), .val (.int (17 : Int32))]) rfl ?_
    show Steps p.tables e below (T17.setTop (mkF m 27 #[.val (.ref b1), .val (.int (17 : Int32))] [])) _
    refine XS.goto X17.here hx rfl (pc0 := 27) (pc' := 7) rfl (hb hby d1_27) (by decide) (by decide) ?_
    show Steps p.tables e below (T17.setTop (mkF m 7 #[.val (.ref b1), .val (.int (17 : Int32))] [])) _
    refine XS.iloadN X17.here hx rfl (hb hby d1_7) rfl ?_
    show Steps p.tables e below (T17.setTop (mkF m 8 #[.val (.ref b1), .val (.int (17 : Int32))] [(.int (17 : Int32))])) _
    refine XS.bipush X17.here hx rfl (hb hby d1_8) ?_
    show Steps p.tables e below (T17.setTop (mkF m 10 #[.val (.ref b1), .val (.int (17 : Int32))] [(.int (19 : Int32)), (.int (17 : Int32))])) _
    refine XS.icmpNo X17.here hx rfl (hb hby d1_10) rfl (by decide) ?_
    show Steps p.tables e below (T17.setTop (mkF m 13 #[.val (.ref b1), .val (.int (17 : Int32))] [])) _
    refine XS.aloadN X17.here hx rfl (hb hby d1_13) rfl rfl ?_
    show Steps p.tables e below (T17.setTop (mkF m 14 #[.val (.ref b1), .val (.int (17 : Int32))] [(.ref b1)])) _
    refine XS.iloadN X17.here hx rfl (hb hby d1_14) rfl ?_
    show Steps p.tables e below (T17.setTop (mkF m 15 #[.val (.ref b1), .val (.int (17 : Int32))] [(.int (17 : Int32)), (.ref b1)])) _
    refine XS.iconst X17.here hx rfl (hb hby d1_15) ?_
    show Steps p.tables e below (T17.setTop (mkF m 16 #[.val (.ref b1), .val (.int (17 : Int32))] [(.int (1 : Int32)), (.int (17 : Int32)), (.ref b1)])) _
    refine XS.isub X17.here hx rfl (hb hby d1_16) rfl ?_
    show Steps p.tables e below (T17.setTop (mkF m 17 #[.val (.ref b1), .val (.int (17 : Int32))] [(.int (16 : Int32)), (.ref b1)])) _
    refine XS.iloadN X17.here hx rfl (hb hby d1_17) rfl ?_
    show Steps p.tables e below (T17.setTop (mkF m 18 #[.val (.ref b1), .val (.int (17 : Int32))] [(.int (17 : Int32)), (.int (16 : Int32)), (.ref b1)])) _
    refine XS.i2dS X17.here hx rfl (hb hby d1_18) rfl rfl ?_
    show Steps p.tables e below (T17.setTop (mkF m 19 #[.val (.ref b1), .val (.int (17 : Int32))] [(.double (FP.i2d (17 : Int32))), (.int (16 : Int32)), (.ref b1)])) _
    refine X17.ldc2DoubleC hx hown (mvT hZ (hw _ (List.mem_of_getElem? (i := 6) rfl))) (g := (mkF m 19 #[.val (.ref b1), .val (.int (17 : Int32))] [(.double (FP.i2d (17 : Int32))), (.int (16 : Int32)), (.ref b1)])) rfl (hb hby d1_19) _ ?_
    show Steps p.tables e below (T17.setTop (mkF m 22 #[.val (.ref b1), .val (.int (17 : Int32))] [(.double (4626322717216342016 : UInt64)), (.double (FP.i2d (17 : Int32))), (.int (16 : Int32)), (.ref b1)])) _
    refine XS.ddivS X17.here hx rfl (hb hby d1_22) rfl (own_nn20 _) rfl ?_
    show Steps p.tables e below (T17.setTop (mkF m 23 #[.val (.ref b1), .val (.int (17 : Int32))] [(.double (FP.ddiv (FP.i2d (17 : Int32)) (4626322717216342016 : UInt64))), (.int (16 : Int32)), (.ref b1)])) _
    refine st18 _ ?_
    show Steps p.tables e below (T18.setTop (mkF m 24 #[.val (.ref b1), .val (.int (17 : Int32))] [])) _
    refine XS.iinc X18.here hx rfl (hb hby d1_24) rfl (l' := #[.val (.ref b1), .val (.int (18 : Int32))]) rfl ?_
    show Steps p.tables e below (T18.setTop (mkF m 27 #[.val (.ref b1), .val (.int (18 : Int32))] [])) _
    refine XS.goto X18.here hx rfl (pc0 := 27) (pc' := 7) rfl (hb hby d1_27) (by decide) (by decide) ?_
    show Steps p.tables e below (T18.setTop (mkF m 7 #[.val (.ref b1), .val (.int (18 : Int32))] [])) _
    refine XS.iloadN X18.here hx rfl (hb hby d1_7) rfl ?_
    show Steps p.tables e below (T18.setTop (mkF m 8 #[.val (.ref b1), .val (.int (18 : Int32))] [(.int (18 : Int32))])) _
    refine XS.bipush X18.here hx rfl (hb hby d1_8) ?_
    show Steps p.tables e below (T18.setTop (mkF m 10 #[.val (.ref b1), .val (.int (18 : Int32))] [(.int (19 : Int32)), (.int (18 : Int32))])) _
    refine XS.icmpNo X18.here hx rfl (hb hby d1_10) rfl (by decide) ?_
    show Steps p.tables e below (T18.setTop (mkF m 13 #[.val (.ref b1), .val (.int (18 : Int32))] [])) _
    refine XS.aloadN X18.here hx rfl (hb hby d1_13) rfl rfl ?_
    show Steps p.tables e below (T18.setTop (mkF m 14 #[.val (.ref b1), .val (.int (18 : Int32))] [(.ref b1)])) _
    refine XS.iloadN X18.here hx rfl (hb hby d1_14) rfl ?_
    show Steps p.tables e below (T18.setTop (mkF m 15 #[.val (.ref b1), .val (.int (18 : Int32))] [(.int (18 : Int32)), (.ref b1)])) _
    refine XS.iconst X18.here hx rfl (hb hby d1_15) ?_
    show Steps p.tables e below (T18.setTop (mkF m 16 #[.val (.ref b1), .val (.int (18 : Int32))] [(.int (1 : Int32)), (.int (18 : Int32)), (.ref b1)])) _
    refine XS.isub X18.here hx rfl (hb hby d1_16) rfl ?_
    show Steps p.tables e below (T18.setTop (mkF m 17 #[.val (.ref b1), .val (.int (18 : Int32))] [(.int (17 : Int32)), (.ref b1)])) _
    refine XS.iloadN X18.here hx rfl (hb hby d1_17) rfl ?_
    show Steps p.tables e below (T18.setTop (mkF m 18 #[.val (.ref b1), .val (.int (18 : Int32))] [(.int (18 : Int32)), (.int (17 : Int32)), (.ref b1)])) _
    refine XS.i2dS X18.here hx rfl (hb hby d1_18) rfl rfl ?_
    show Steps p.tables e below (T18.setTop (mkF m 19 #[.val (.ref b1), .val (.int (18 : Int32))] [(.double (FP.i2d (18 : Int32))), (.int (17 : Int32)), (.ref b1)])) _
    refine X18.ldc2DoubleC hx hown (mvT hZ (hw _ (List.mem_of_getElem? (i := 6) rfl))) (g := (mkF m 19 #[.val (.ref b1), .val (.int (18 : Int32))] [(.double (FP.i2d (18 : Int32))), (.int (17 : Int32)), (.ref b1)])) rfl (hb hby d1_19) _ ?_
    show Steps p.tables e below (T18.setTop (mkF m 22 #[.val (.ref b1), .val (.int (18 : Int32))] [(.double (4626322717216342016 : UInt64)), (.double (FP.i2d (18 : Int32))), (.int (17 : Int32)), (.ref b1)])) _
    refine XS.ddivS X18.here hx rfl (hb hby d1_22) rfl (own_nn20 _) rfl ?_
    show Steps p.tables e below (T18.setTop (mkF m 23 #[.val (.ref b1), .val (.int (18 : Int32))] [(.double (FP.ddiv (FP.i2d (18 : Int32)) (4626322717216342016 : UInt64))), (.int (17 : Int32)), (.ref b1)])) _
    refine st19 _ ?_
    show Steps p.tables e below (T19.setTop (mkF m 24 #[.val (.ref b1), .val (.int (18 : Int32))] [])) _
    refine XS.iinc X19.here hx rfl (hb hby d1_24) rfl (l' := #[.val (.ref b1), .val (.int (19 : Int32))]) rfl ?_
    show Steps p.tables e below (T19.setTop (mkF m 27 #[.val (.ref b1), .val (.int (19 : Int32))] [])) _
    refine XS.goto X19.here hx rfl (pc0 := 27) (pc' := 7) rfl (hb hby d1_27) (by decide) (by decide) ?_
    show Steps p.tables e below (T19.setTop (mkF m 7 #[.val (.ref b1), .val (.int (19 : Int32))] [])) _
    refine XS.iloadN X19.here hx rfl (hb hby d1_7) rfl ?_
    show Steps p.tables e below (T19.setTop (mkF m 8 #[.val (.ref b1), .val (.int (19 : Int32))] [(.int (19 : Int32))])) _
    refine XS.bipush X19.here hx rfl (hb hby d1_8) ?_
    show Steps p.tables e below (T19.setTop (mkF m 10 #[.val (.ref b1), .val (.int (19 : Int32))] [(.int (19 : Int32)), (.int (19 : Int32))])) _
    refine XS.icmpNo X19.here hx rfl (hb hby d1_10) rfl (by decide) ?_
    show Steps p.tables e below (T19.setTop (mkF m 13 #[.val (.ref b1), .val (.int (19 : Int32))] [])) _
    refine XS.aloadN X19.here hx rfl (hb hby d1_13) rfl rfl ?_
    show Steps p.tables e below (T19.setTop (mkF m 14 #[.val (.ref b1), .val (.int (19 : Int32))] [(.ref b1)])) _
    refine XS.iloadN X19.here hx rfl (hb hby d1_14) rfl ?_
    show Steps p.tables e below (T19.setTop (mkF m 15 #[.val (.ref b1), .val (.int (19 : Int32))] [(.int (19 : Int32)), (.ref b1)])) _
    refine XS.iconst X19.here hx rfl (hb hby d1_15) ?_
    show Steps p.tables e below (T19.setTop (mkF m 16 #[.val (.ref b1), .val (.int (19 : Int32))] [(.int (1 : Int32)), (.int (19 : Int32)), (.ref b1)])) _
    refine XS.isub X19.here hx rfl (hb hby d1_16) rfl ?_
    show Steps p.tables e below (T19.setTop (mkF m 17 #[.val (.ref b1), .val (.int (19 : Int32))] [(.int (18 : Int32)), (.ref b1)])) _
    refine XS.iloadN X19.here hx rfl (hb hby d1_17) rfl ?_
    show Steps p.tables e below (T19.setTop (mkF m 18 #[.val (.ref b1), .val (.int (19 : Int32))] [(.int (19 : Int32)), (.int (18 : Int32)), (.ref b1)])) _
    refine XS.i2dS X19.here hx rfl (hb hby d1_18) rfl rfl ?_
    show Steps p.tables e below (T19.setTop (mkF m 19 #[.val (.ref b1), .val (.int (19 : Int32))] [(.double (FP.i2d (19 : Int32))), (.int (18 : Int32)), (.ref b1)])) _
    refine X19.ldc2DoubleC hx hown (mvT hZ (hw _ (List.mem_of_getElem? (i := 6) rfl))) (g := (mkF m 19 #[.val (.ref b1), .val (.int (19 : Int32))] [(.double (FP.i2d (19 : Int32))), (.int (18 : Int32)), (.ref b1)])) rfl (hb hby d1_19) _ ?_
    show Steps p.tables e below (T19.setTop (mkF m 22 #[.val (.ref b1), .val (.int (19 : Int32))] [(.double (4626322717216342016 : UInt64)), (.double (FP.i2d (19 : Int32))), (.int (18 : Int32)), (.ref b1)])) _
    refine XS.ddivS X19.here hx rfl (hb hby d1_22) rfl (own_nn20 _) rfl ?_
    show Steps p.tables e below (T19.setTop (mkF m 23 #[.val (.ref b1), .val (.int (19 : Int32))] [(.double (FP.ddiv (FP.i2d (19 : Int32)) (4626322717216342016 : UInt64))), (.int (18 : Int32)), (.ref b1)])) _
    refine st20 _ ?_
    show Steps p.tables e below (T20.setTop (mkF m 24 #[.val (.ref b1), .val (.int (19 : Int32))] [])) _
    refine XS.iinc X20.here hx rfl (hb hby d1_24) rfl (l' := #[.val (.ref b1), .val (.int (20 : Int32))]) rfl ?_
    show Steps p.tables e below (T20.setTop (mkF m 27 #[.val (.ref b1), .val (.int (20 : Int32))] [])) _
    refine XS.goto X20.here hx rfl (pc0 := 27) (pc' := 7) rfl (hb hby d1_27) (by decide) (by decide) ?_
    show Steps p.tables e below (T20.setTop (mkF m 7 #[.val (.ref b1), .val (.int (20 : Int32))] [])) _
    refine XS.iloadN X20.here hx rfl (hb hby d1_7) rfl ?_
    show Steps p.tables e below (T20.setTop (mkF m 8 #[.val (.ref b1), .val (.int (20 : Int32))] [(.int (20 : Int32))])) _
    refine XS.bipush X20.here hx rfl (hb hby d1_8) ?_
    show Steps p.tables e below (T20.setTop (mkF m 10 #[.val (.ref b1), .val (.int (20 : Int32))] [(.int (19 : Int32)), (.int (20 : Int32))])) _
    refine XS.icmpYes X20.here hx rfl (pc0 := 10) (pc' := 30) rfl (hb hby d1_10) rfl (by decide) (by decide) (by decide) ?_
    show Steps p.tables e below (T20.setTop (mkF m 30 #[.val (.ref b1), .val (.int (20 : Int32))] [])) _
    refine XS.aloadN X20.here hx rfl (hb hby d1_30) rfl rfl ?_
    show Steps p.tables e below (T20.setTop (mkF m 31 #[.val (.ref b1), .val (.int (20 : Int32))] [(.ref b1)])) _
    exact OwnF.retA X20 hx Bd.returns rfl rfl (hb hby d1_31) hr
  · show QD Z h0 n0 _ T20.heap _
    rw [e20]
    exact ⟨_, _, rfl, N20, K20, sz_b1, V20⟩
theorem pd_0 : parseMethodDescriptor "()[D" = some ⟨[], some (.array .double)⟩ := by decide +kernel
theorem pn_1 : plainName "com/example/damping/damping/mass/MassCurveDefaultDampingsPinLaw" = true := by first | (simp [plainName, overriddenIn]; done) | decide +kernel
theorem ef_rm0a (m : MethodId) (x0 : Int32) (x1 : Int32) : entryFrame m #[(.int x0), (.int x1)] maxLocals = mkF m 0 #[.val (.int x0), .val (.int x1), .unset, .unset, .unset] [] := by first | (simp [entryFrame, mkF, argsToLocals, Value.category, maxLocals]; done) | rfl
set_option maxRecDepth 65536 in
set_option maxHeartbeats 40000000 in
theorem rm0a (l : Launch) (Z : State) (a0 : Array Value) (hw : ∀ d ∈ tables_1, d.before a0 Z = true) (ws : List Jvm.Cond)  (p0 : Int32) (p1 : Int32) (ix : Int32) (v1 : UInt64) (h0 : Heap) (n0 : Nat) (Z0 : n0 ≤ h0.size) 
    (hix : ix = ((p0 &&& (2147483647 : Int32)) - ((p0 &&& (2147483647 : Int32)) / (19 : Int32)) * (19 : Int32)))
    (i0 : ¬ ix < 0)
    (i1 : ix < (19 : Int32))
    (u0 : own_vs.getD ix.toNatClampNeg (.double (0 : UInt64)) = .double (FP.ddiv (FP.i2d (ix + (1 : Int32))) (4626322717216342016 : UInt64)))
    (i2 : ¬ (ix + (1 : Int32)) < 0)
    (i3 : (ix + (1 : Int32)) < (19 : Int32))
    (u1 : own_vs.getD (ix + (1 : Int32)).toNatClampNeg (.double (0 : UInt64)) = .double v1)
    (b33 : ifCond.holds .eq (FP.cmpInt (-1) (FP.dcmp (FP.ddiv (FP.i2d (ix + (1 : Int32))) (4626322717216342016 : UInt64)) (FP.ddiv (FP.i2d (ix + (1 : Int32))) (4626322717216342016 : UInt64)))) = true)
    (b41 : if_icmp.holds .ge ix (18 : Int32) = false)
    (b53 : ifCond.holds .lt (FP.cmpInt 1 (FP.dcmp (FP.ddiv (FP.i2d (ix + (1 : Int32))) (4626322717216342016 : UInt64)) v1)) = true)
    (n69 : NoNaN64 (FP.dadd (FP.i2d (p1 &&& (255 : Int32))) (4611686018427387904 : UInt64)))
    (b103 : ifCond.holds .ne (FP.cmpInt (-1) (FP.dcmp (FP.ddiv (FP.i2d (ix + (1 : Int32))) (4626322717216342016 : UInt64)) (FP.ddiv (FP.i2d (ix + (1 : Int32))) (4626322717216342016 : UInt64)))) = false) :
    MetFree l x (head1 (Jvm.Cond.code x code maxLocals ret :: ws) room_1) (fun a U => a = #[(.int p0), (.int p1)] ∧ Z.Warmed39 U.vm ∧ U.heap = h0) (fun _ _ _ _ _ => True) (fun _ U o U' => ∃ v L, o = .returned v ∧ QL n0 v U'.heap L ∧ FrameEnd U o U' L 16 192) := by
  refine MetFree.of_bodySF (plainFor_of_name pn_1) hisR ?_
  intro p e s m args below meth c s₁ Bd hml0 hP hK
  obtain ⟨rfl, hZ, hh⟩ := hP
  have hx := Bd.exec
  have hby := Bd.bytes
  have hml : c.maxLocals = 5 := hml0
  have hown : s.vm.findClass "com/example/damping/damping/mass/MassCurveDefaultDampingsPinLaw" = some m.cls := findClass_of_methodNamed Bd.named
  have hnm := (name_of_methodNamed Bd.named Bd.method).1
  have X0 : Stand p l e room_1 s m #[(.int p0), (.int p1)] below meth c s₁ [] 0 0 := Stand.of_body Bd
  have e0 : s₁.heap = h0 := by rw [← hh, Bd.state]; rfl
  have N0 := Fr.nil n0
  have pre0 : ∀ t, Steps p.tables e below (s₁.setTop (mkF m 0 #[.val (.int p0), .val (.int p1), .unset, .unset, .unset] [])) t → Steps p.tables e below (s₁.setTop (entryFrame m #[(.int p0), (.int p1)] maxLocals)) t := fun t k => castTop (ef_rm0a m p0 p1) k
  obtain ⟨_, _, ⟨T1, L1, k1, n1⟩, -, X1, ⟨Lc1, hQ1, l1, y1, z1⟩, st1⟩ := Jvm.LawKit.callS X0 hx (y := (⟨"com/example/damping/damping/mass/MassCurve", "defaultDampings", "()[D"⟩ : MethodName)) hown (mvT hZ (hw _ (List.mem_of_getElem? (i := 1) rfl))) (mvT hZ (hw _ (List.mem_of_getElem? (i := 2) rfl))) (mvT hZ (hw _ (List.mem_of_getElem? (i := 3) rfl))) (mvT hZ (hw _ (List.mem_of_getElem? (i := 4) rfl))) (by decide) (backOf (W := 0) (rmD l Z a0 hw [] h0 n0 Z0) hZ (hw _ (List.mem_of_getElem? (i := 4) rfl)) (hw _ (List.mem_of_getElem? (i := 3) rfl)) (by decide) (by decide)) (g := (mkF m 8 #[.val (.int p0), .val (.int p1), .val (.int ix), .unset, .unset] [])) rfl (by rw [hml]; rfl) (argsL := []) (rest := []) (lenOf pd_0 rfl) rfl (by show 2 * 0 + _ ≤ _; exact Nat.le_of_eq rfl) (hb hby at_8) (fun _ _ => ⟨rfl, e0, (by decide : 0 + 1 ≤ _), (by decide : 0 + 19 ≤ _)⟩)
  dsimp only [Pt.U, Pt.locs, Pt.cells, Pt.slots] at X1 l1 y1 z1 st1 hQ1
  subst l1 y1 z1
  obtain ⟨a1, ka1, rfl, N1a, K1a, sz1, V1a⟩ := hQ1
  have g_a1 : n0 ≤ a1 := Nat.le_trans Z0 sz1
  have N1 := Fr.app N0 N1a
  obtain ⟨cl2, Ar2, -, S2, N2n, -, -⟩ := id V1a
  obtain ⟨cl3, Ar3, q3, S3, N3n, H3h, G3g⟩ := id V1a
  have hin3 : ¬ (ix < 0 ∨ cl3.slots.size ≤ (ix).toNatClampNeg) := inb_of S3 ⟨i0, i1⟩
  have hat3 : cl3.slots[(ix).toNatClampNeg]? = some (.double (FP.ddiv (FP.i2d (ix + (1 : Int32))) (4626322717216342016 : UInt64))) := Has.at H3h hin3 u0
  obtain ⟨cl4, Ar4, q4, S4, N4n, H4h, G4g⟩ := id V1a
  have hin4 : ¬ (ix < 0 ∨ cl4.slots.size ≤ (ix).toNatClampNeg) := inb_of S4 ⟨i0, i1⟩
  have hat4 : cl4.slots[(ix).toNatClampNeg]? = some (.double (FP.ddiv (FP.i2d (ix + (1 : Int32))) (4626322717216342016 : UInt64))) := Has.at H4h hin4 u0
  obtain ⟨cl5, Ar5, q5, S5, N5n, H5h, G5g⟩ := id V1a
  have hin5 : ¬ ((ix + (1 : Int32)) < 0 ∨ cl5.slots.size ≤ ((ix + (1 : Int32))).toNatClampNeg) := inb_of S5 ⟨i2, i3⟩
  have hat5 : cl5.slots[((ix + (1 : Int32))).toNatClampNeg]? = some (.double v1) := Has.at H5h hin5 u1
  obtain ⟨cl6, Ar6, q6, S6, N6n, H6h, G6g⟩ := id V1a
  have hin6 : ¬ (ix < 0 ∨ cl6.slots.size ≤ (ix).toNatClampNeg) := inb_of S6 ⟨i0, i1⟩
  obtain ⟨T6, h6, X6, e6, W6, st6⟩ := stD X1 hx hZ rfl Ar6 (j := ix) hin6 (g := (mkF m 70 #[.val (.int p0), .val (.int p1), .val (.int ix), .val (.ref a1), .unset] [(.double (FP.dadd (FP.i2d (p1 &&& (255 : Int32))) (4611686018427387904 : UInt64))), (.int ix), (.ref a1)])) rfl rfl (hb hby at_70)
  have lt_a1 : a1 < h6.size := by rw [W6.size]; exact Ar6.lt
  have N6 := Fr.snoc X6 N1 g_a1
  obtain ⟨_, _, ⟨T7, L7, k7, n7⟩, -, X7, ⟨Lc7, hQ7, l7, y7, z7⟩, st7⟩ := Jvm.LawKit.callS X6 hx (y := (⟨"com/example/damping/damping/mass/MassCurve", "defaultDampings", "()[D"⟩ : MethodName)) hown (mvT hZ (hw _ (List.mem_of_getElem? (i := 1) rfl))) (mvT hZ (hw _ (List.mem_of_getElem? (i := 2) rfl))) (mvT hZ (hw _ (List.mem_of_getElem? (i := 3) rfl))) (mvT hZ (hw _ (List.mem_of_getElem? (i := 4) rfl))) (by decide) (backOf (W := 0) (rmD l Z a0 hw [] h6 n0 (Nat.le_trans (Nat.le_trans Z0 K1a.1) (Keep.of_wr W6).1)) hZ (hw _ (List.mem_of_getElem? (i := 4) rfl)) (hw _ (List.mem_of_getElem? (i := 3) rfl)) (by decide) (by decide)) (g := (mkF m 71 #[.val (.int p0), .val (.int p1), .val (.int ix), .val (.ref a1), .unset] [])) rfl (by rw [hml]; rfl) (argsL := []) (rest := []) (lenOf pd_0 rfl) rfl (by show 2 * 0 + _ ≤ _; exact Nat.le_of_eq rfl) (hb hby at_71) (fun _ _ => ⟨rfl, e6, (by decide : 1 + 1 ≤ _), (by decide : 19 + 19 ≤ _)⟩)
  dsimp only [Pt.U, Pt.locs, Pt.cells, Pt.slots] at X7 l7 y7 z7 st7 hQ7
  subst l7 y7 z7
  obtain ⟨a7, ka7, rfl, N7a, K7a, sz7, V7a⟩ := hQ7
  have g_a7 : n0 ≤ a7 := Nat.le_trans (Nat.le_trans (Nat.le_trans Z0 K1a.1) (Keep.of_wr W6).1) sz7
  have N7 := Fr.app N6 N7a
  obtain ⟨cl8, Ar8, -, S8, N8n, -, -⟩ := id V7a
  obtain ⟨cl9, Ar9, q9, S9, N9n, H9h, G9g⟩ := id V7a
  have hin9 : ¬ (ix < 0 ∨ cl9.slots.size ≤ (ix).toNatClampNeg) := inb_of S9 ⟨i0, i1⟩
  have hat9 : cl9.slots[(ix).toNatClampNeg]? = some (.double (FP.ddiv (FP.i2d (ix + (1 : Int32))) (4626322717216342016 : UInt64))) := Has.at H9h hin9 u0
  obtain ⟨fs, hr, hrun, hended, hW, hsame⟩ := X7.leave (v := some (.int (1 : Int32))) (fun h => by rw [Bd.returns] at h; cases h)
  refine ⟨_, _, pre0 _ ?_, hrun, hended, _, _, rfl, ?_, ⟨_, rfl⟩, hW, hsame.mono (Nat.le_of_ble_eq_true rfl) (Nat.le_of_ble_eq_true rfl)⟩
  · show Steps p.tables e below (s₁.setTop (mkF m 0 #[.val (.int p0), .val (.int p1), .unset, .unset, .unset] [])) _
    refine XS.iloadN X0.here hx rfl (hb hby at_0) rfl ?_
    show Steps p.tables e below (s₁.setTop (mkF m 1 #[.val (.int p0), .val (.int p1), .unset, .unset, .unset] [(.int p0)])) _
    refine X0.ldcInt hx hown (mvT hZ (hw _ (List.mem_of_getElem? (i := 0) rfl))) (g := (mkF m 1 #[.val (.int p0), .val (.int p1), .unset, .unset, .unset] [(.int p0)])) rfl (hb hby at_1) _ ?_
    show Steps p.tables e below (s₁.setTop (mkF m 3 #[.val (.int p0), .val (.int p1), .unset, .unset, .unset] [(.int (2147483647 : Int32)), (.int p0)])) _
    refine XS.iand X0.here hx rfl (hb hby at_3) rfl ?_
    show Steps p.tables e below (s₁.setTop (mkF m 4 #[.val (.int p0), .val (.int p1), .unset, .unset, .unset] [(.int (p0 &&& (2147483647 : Int32)))])) _
    refine XS.bipush X0.here hx rfl (hb hby at_4) ?_
    show Steps p.tables e below (s₁.setTop (mkF m 6 #[.val (.int p0), .val (.int p1), .unset, .unset, .unset] [(.int (19 : Int32)), (.int (p0 &&& (2147483647 : Int32)))])) _
    refine XS.irem X0.here hx rfl (hb hby at_6) rfl (by decide) ?_
    show Steps p.tables e below (s₁.setTop (mkF m 7 #[.val (.int p0), .val (.int p1), .unset, .unset, .unset] [(.int ((p0 &&& (2147483647 : Int32)) - ((p0 &&& (2147483647 : Int32)) / (19 : Int32)) * (19 : Int32)))])) _
    rw [← hix]
    show Steps p.tables e below (s₁.setTop (mkF m 7 #[.val (.int p0), .val (.int p1), .unset, .unset, .unset] [(.int ix)])) _
    refine XS.istoreN X0.here hx rfl (hb hby at_7) rfl (l' := #[.val (.int p0), .val (.int p1), .val (.int ix), .unset, .unset]) rfl ?_
    show Steps p.tables e below (s₁.setTop (mkF m 8 #[.val (.int p0), .val (.int p1), .val (.int ix), .unset, .unset] [])) _
    refine st1 _ ?_
    show Steps p.tables e below (T1.setTop (mkF m 11 #[.val (.int p0), .val (.int p1), .val (.int ix), .unset, .unset] [(.ref a1)])) _
    refine XS.astoreN X1.here hx rfl (hb hby at_11) rfl rfl (l' := #[.val (.int p0), .val (.int p1), .val (.int ix), .val (.ref a1), .unset]) rfl ?_
    show Steps p.tables e below (T1.setTop (mkF m 12 #[.val (.int p0), .val (.int p1), .val (.int ix), .val (.ref a1), .unset] [])) _
    refine XS.aloadN X1.here hx rfl (hb hby at_12) rfl rfl ?_
    show Steps p.tables e below (T1.setTop (mkF m 13 #[.val (.int p0), .val (.int p1), .val (.int ix), .val (.ref a1), .unset] [(.ref a1)])) _
    refine X1.arraylength hx Ar2.1 (State.isArrayOf_alike hZ.alike Ar2.2.1) (g := (mkF m 13 #[.val (.int p0), .val (.int p1), .val (.int ix), .val (.ref a1), .unset] [(.ref a1)])) rfl rfl (hb hby at_13) _ ?_
    rw [len_of S2 N2n]
    show Steps p.tables e below (T1.setTop (mkF m 14 #[.val (.int p0), .val (.int p1), .val (.int ix), .val (.ref a1), .unset] [(.int (19 : Int32))])) _
    refine XS.bipush X1.here hx rfl (hb hby at_14) ?_
    show Steps p.tables e below (T1.setTop (mkF m 16 #[.val (.int p0), .val (.int p1), .val (.int ix), .val (.ref a1), .unset] [(.int (19 : Int32)), (.int (19 : Int32))])) _
    refine XS.icmpYes X1.here hx rfl (pc0 := 16) (pc' := 21) rfl (hb hby at_16) rfl (by decide) (by decide) (by decide) ?_
    show Steps p.tables e below (T1.setTop (mkF m 21 #[.val (.int p0), .val (.int p1), .val (.int ix), .val (.ref a1), .unset] [])) _
    refine XS.aloadN X1.here hx rfl (hb hby at_21) rfl rfl ?_
    show Steps p.tables e below (T1.setTop (mkF m 22 #[.val (.int p0), .val (.int p1), .val (.int ix), .val (.ref a1), .unset] [(.ref a1)])) _
    refine XS.iloadN X1.here hx rfl (hb hby at_22) rfl ?_
    show Steps p.tables e below (T1.setTop (mkF m 23 #[.val (.int p0), .val (.int p1), .val (.int ix), .val (.ref a1), .unset] [(.int ix), (.ref a1)])) _
    refine X1.daload hx (j := ix) (v := (.double (FP.ddiv (FP.i2d (ix + (1 : Int32))) (4626322717216342016 : UInt64)))) Ar3.1 (State.isArrayOf_alike hZ.alike Ar3.2.1) Ar3.2.2 hin3 hat3 (g := (mkF m 23 #[.val (.int p0), .val (.int p1), .val (.int ix), .val (.ref a1), .unset] [(.int ix), (.ref a1)])) rfl rfl (hb hby at_23) _ ?_
    show Steps p.tables e below (T1.setTop (mkF m 24 #[.val (.int p0), .val (.int p1), .val (.int ix), .val (.ref a1), .unset] [(.double (FP.ddiv (FP.i2d (ix + (1 : Int32))) (4626322717216342016 : UInt64)))])) _
    refine XS.iloadN X1.here hx rfl (hb hby at_24) rfl ?_
    show Steps p.tables e below (T1.setTop (mkF m 25 #[.val (.int p0), .val (.int p1), .val (.int ix), .val (.ref a1), .unset] [(.int ix), (.double (FP.ddiv (FP.i2d (ix + (1 : Int32))) (4626322717216342016 : UInt64)))])) _
    refine XS.iconst X1.here hx rfl (hb hby at_25) ?_
    show Steps p.tables e below (T1.setTop (mkF m 26 #[.val (.int p0), .val (.int p1), .val (.int ix), .val (.ref a1), .unset] [(.int (1 : Int32)), (.int ix), (.double (FP.ddiv (FP.i2d (ix + (1 : Int32))) (4626322717216342016 : UInt64)))])) _
    refine XS.iadd X1.here hx rfl (hb hby at_26) rfl ?_
    show Steps p.tables e below (T1.setTop (mkF m 27 #[.val (.int p0), .val (.int p1), .val (.int ix), .val (.ref a1), .unset] [(.int (ix + (1 : Int32))), (.double (FP.ddiv (FP.i2d (ix + (1 : Int32))) (4626322717216342016 : UInt64)))])) _
    refine XS.i2dS X1.here hx rfl (hb hby at_27) rfl rfl ?_
    show Steps p.tables e below (T1.setTop (mkF m 28 #[.val (.int p0), .val (.int p1), .val (.int ix), .val (.ref a1), .unset] [(.double (FP.i2d (ix + (1 : Int32)))), (.double (FP.ddiv (FP.i2d (ix + (1 : Int32))) (4626322717216342016 : UInt64)))])) _
    refine X1.ldc2DoubleC hx hown (mvT hZ (hw _ (List.mem_of_getElem? (i := 7) rfl))) (g := (mkF m 28 #[.val (.int p0), .val (.int p1), .val (.int ix), .val (.ref a1), .unset] [(.double (FP.i2d (ix + (1 : Int32)))), (.double (FP.ddiv (FP.i2d (ix + (1 : Int32))) (4626322717216342016 : UInt64)))])) rfl (hb hby at_28) _ ?_
    show Steps p.tables e below (T1.setTop (mkF m 31 #[.val (.int p0), .val (.int p1), .val (.int ix), .val (.ref a1), .unset] [(.double (4626322717216342016 : UInt64)), (.double (FP.i2d (ix + (1 : Int32)))), (.double (FP.ddiv (FP.i2d (ix + (1 : Int32))) (4626322717216342016 : UInt64)))])) _
    refine XS.ddivS X1.here hx rfl (hb hby at_31) rfl (own_nn20 _) rfl ?_
    show Steps p.tables e below (T1.setTop (mkF m 32 #[.val (.int p0), .val (.int p1), .val (.int ix), .val (.ref a1), .unset] [(.double (FP.ddiv (FP.i2d (ix + (1 : Int32))) (4626322717216342016 : UInt64))), (.double (FP.ddiv (FP.i2d (ix + (1 : Int32))) (4626322717216342016 : UInt64)))])) _
    refine XS.dcmpS X1.here hx rfl (hb hby at_32) rfl (cmpV_l _) ?_
    show Steps p.tables e below (T1.setTop (mkF m 33 #[.val (.int p0), .val (.int p1), .val (.int ix), .val (.ref a1), .unset] [(.int (FP.cmpInt (-1) (FP.dcmp (FP.ddiv (FP.i2d (ix + (1 : Int32))) (4626322717216342016 : UInt64)) (FP.ddiv (FP.i2d (ix + (1 : Int32))) (4626322717216342016 : UInt64)))))])) _
    refine XS.ifYes X1.here hx rfl (pc0 := 33) (pc' := 38) rfl (hb hby at_33) rfl b33 (by decide) (by decide) ?_
    show Steps p.tables e below (T1.setTop (mkF m 38 #[.val (.int p0), .val (.int p1), .val (.int ix), .val (.ref a1), .unset] [])) _
    refine XS.iloadN X1.here hx rfl (hb hby at_38) rfl ?_
    show Steps p.tables e below (T1.setTop (mkF m 39 #[.val (.int p0), .val (.int p1), .val (.int ix), .val (.ref a1), .unset] [(.int ix)])) _
    refine XS.bipush X1.here hx rfl (hb hby at_39) ?_
    show Steps p.tables e below (T1.setTop (mkF m 41 #[.val (.int p0), .val (.int p1), .val (.int ix), .val (.ref a1), .unset] [(.int (18 : Int32)), (.int ix)])) _
    refine XS.icmpNo X1.here hx rfl (hb hby at_41) rfl b41 ?_
    show Steps p.tables e below (T1.setTop (mkF m 44 #[.val (.int p0), .val (.int p1), .val (.int ix), .val (.ref a1), .unset] [])) _
    refine XS.aloadN X1.here hx rfl (hb hby at_44) rfl rfl ?_
    show Steps p.tables e below (T1.setTop (mkF m 45 #[.val (.int p0), .val (.int p1), .val (.int ix), .val (.ref a1), .unset] [(.ref a1)])) _
    refine XS.iloadN X1.here hx rfl (hb hby at_45) rfl ?_
    show Steps p.tables e below (T1.setTop (mkF m 46 #[.val (.int p0), .val (.int p1), .val (.int ix), .val (.ref a1), .unset] [(.int ix), (.ref a1)])) _
    refine X1.daload hx (j := ix) (v := (.double (FP.ddiv (FP.i2d (ix + (1 : Int32))) (4626322717216342016 : UInt64)))) Ar4.1 (State.isArrayOf_alike hZ.alike Ar4.2.1) Ar4.2.2 hin4 hat4 (g := (mkF m 46 #[.val (.int p0), .val (.int p1), .val (.int ix), .val (.ref a1), .unset] [(.int ix), (.ref a1)])) rfl rfl (hb hby at_46) _ ?_
    show Steps p.tables e below (T1.setTop (mkF m 47 #[.val (.int p0), .val (.int p1), .val (.int ix), .val (.ref a1), .unset] [(.double (FP.ddiv (FP.i2d (ix + (1 : Int32))) (4626322717216342016 : UInt64)))])) _
    refine XS.aloadN X1.here hx rfl (hb hby at_47) rfl rfl ?_
    show Steps p.tables e below (T1.setTop (mkF m 48 #[.val (.int p0), .val (.int p1), .val (.int ix), .val (.ref a1), .unset] [(.ref a1), (.double (FP.ddiv (FP.i2d (ix + (1 : Int32))) (4626322717216342016 : UInt64)))])) _
    refine XS.iloadN X1.here hx rfl (hb hby at_48) rfl ?_
    show Steps p.tables e below (T1.setTop (mkF m 49 #[.val (.int p0), .val (.int p1), .val (.int ix), .val (.ref a1), .unset] [(.int ix), (.ref a1), (.double (FP.ddiv (FP.i2d (ix + (1 : Int32))) (4626322717216342016 : UInt64)))])) _
    refine XS.iconst X1.here hx rfl (hb hby at_49) ?_
    show Steps p.tables e below (T1.setTop (mkF m 50 #[.val (.int p0), .val (.int p1), .val (.int ix), .val (.ref a1), .unset] [(.int (1 : Int32)), (.int ix), (.ref a1), (.double (FP.ddiv (FP.i2d (ix + (1 : Int32))) (4626322717216342016 : UInt64)))])) _
    refine XS.iadd X1.here hx rfl (hb hby at_50) rfl ?_
    show Steps p.tables e below (T1.setTop (mkF m 51 #[.val (.int p0), .val (.int p1), .val (.int ix), .val (.ref a1), .unset] [(.int (ix + (1 : Int32))), (.ref a1), (.double (FP.ddiv (FP.i2d (ix + (1 : Int32))) (4626322717216342016 : UInt64)))])) _
    refine X1.daload hx (j := (ix + (1 : Int32))) (v := (.double v1)) Ar5.1 (State.isArrayOf_alike hZ.alike Ar5.2.1) Ar5.2.2 hin5 hat5 (g := (mkF m 51 #[.val (.int p0), .val (.int p1), .val (.int ix), .val (.ref a1), .unset] [(.int (ix + (1 : Int32))), (.ref a1), (.double (FP.ddiv (FP.i2d (ix + (1 : Int32))) (4626322717216342016 : UInt64)))])) rfl rfl (hb hby at_51) _ ?_
    show Steps p.tables e below (T1.setTop (mkF m 52 #[.val (.int p0), .val (.int p1), .val (.int ix), .val (.ref a1), .unset] [(.double v1), (.double (FP.ddiv (FP.i2d (ix + (1 : Int32))) (4626322717216342016 : UInt64)))])) _
    refine XS.dcmpS X1.here hx rfl (hb hby at_52) rfl (cmpV_g _) ?_
    show Steps p.tables e below (T1.setTop (mkF m 53 #[.val (.int p0), .val (.int p1), .val (.int ix), .val (.ref a1), .unset] [(.int (FP.cmpInt 1 (FP.dcmp (FP.ddiv (FP.i2d (ix + (1 : Int32))) (4626322717216342016 : UInt64)) v1)))])) _
    refine XS.ifYes X1.here hx rfl (pc0 := 53) (pc' := 58) rfl (hb hby at_53) rfl b53 (by decide) (by decide) ?_
    show Steps p.tables e below (T1.setTop (mkF m 58 #[.val (.int p0), .val (.int p1), .val (.int ix), .val (.ref a1), .unset] [])) _
    refine XS.aloadN X1.here hx rfl (hb hby at_58) rfl rfl ?_
    show Steps p.tables e below (T1.setTop (mkF m 59 #[.val (.int p0), .val (.int p1), .val (.int ix), .val (.ref a1), .unset] [(.ref a1)])) _
    refine XS.iloadN X1.here hx rfl (hb hby at_59) rfl ?_
    show Steps p.tables e below (T1.setTop (mkF m 60 #[.val (.int p0), .val (.int p1), .val (.int ix), .val (.ref a1), .unset] [(.int ix), (.ref a1)])) _
    refine XS.iloadN X1.here hx rfl (hb hby at_60) rfl ?_
    show Steps p.tables e below (T1.setTop (mkF m 61 #[.val (.int p0), .val (.int p1), .val (.int ix), .val (.ref a1), .unset] [(.int p1), (.int ix), (.ref a1)])) _
    refine XS.sipush X1.here hx rfl (hb hby at_61) ?_
    show Steps p.tables e below (T1.setTop (mkF m 64 #[.val (.int p0), .val (.int p1), .val (.int ix), .val (.ref a1), .unset] [(.int (255 : Int32)), (.int p1), (.int ix), (.ref a1)])) _
    refine XS.iand X1.here hx rfl (hb hby at_64) rfl ?_
    show Steps p.tables e below (T1.setTop (mkF m 65 #[.val (.int p0), .val (.int p1), .val (.int ix), .val (.ref a1), .unset] [(.int (p1 &&& (255 : Int32))), (.int ix), (.ref a1)])) _
    refine XS.i2dS X1.here hx rfl (hb hby at_65) rfl rfl ?_
    show Steps p.tables e below (T1.setTop (mkF m 66 #[.val (.int p0), .val (.int p1), .val (.int ix), .val (.ref a1), .unset] [(.double (FP.i2d (p1 &&& (255 : Int32)))), (.int ix), (.ref a1)])) _
    refine X1.ldc2DoubleC hx hown (mvT hZ (hw _ (List.mem_of_getElem? (i := 8) rfl))) (g := (mkF m 66 #[.val (.int p0), .val (.int p1), .val (.int ix), .val (.ref a1), .unset] [(.double (FP.i2d (p1 &&& (255 : Int32)))), (.int ix), (.ref a1)])) rfl (hb hby at_66) _ ?_
    show Steps p.tables e below (T1.setTop (mkF m 69 #[.val (.int p0), .val (.int p1), .val (.int ix), .val (.ref a1), .unset] [(.double (4611686018427387904 : UInt64)), (.double (FP.i2d (p1 &&& (255 : Int32)))), (.int ix), (.ref a1)])) _
    refine XS.daddS X1.here hx rfl (hb hby at_69) rfl n69 rfl ?_
    show Steps p.tables e below (T1.setTop (mkF m 70 #[.val (.int p0), .val (.int p1), .val (.int ix), .val (.ref a1), .unset] [(.double (FP.dadd (FP.i2d (p1 &&& (255 : Int32))) (4611686018427387904 : UInt64))), (.int ix), (.ref a1)])) _
    refine st6 _ ?_
    show Steps p.tables e below (T6.setTop (mkF m 71 #[.val (.int p0), .val (.int p1), .val (.int ix), .val (.ref a1), .unset] [])) _
    refine st7 _ ?_
    show Steps p.tables e below (T7.setTop (mkF m 74 #[.val (.int p0), .val (.int p1), .val (.int ix), .val (.ref a1), .unset] [(.ref a7)])) _
    refine XS.astore X7.here hx rfl (hb hby at_74) rfl rfl (l' := #[.val (.int p0), .val (.int p1), .val (.int ix), .val (.ref a1), .val (.ref a7)]) rfl ?_
    show Steps p.tables e below (T7.setTop (mkF m 76 #[.val (.int p0), .val (.int p1), .val (.int ix), .val (.ref a1), .val (.ref a7)] [])) _
    refine XS.aload X7.here hx rfl (hb hby at_76) rfl rfl ?_
    show Steps p.tables e below (T7.setTop (mkF m 78 #[.val (.int p0), .val (.int p1), .val (.int ix), .val (.ref a1), .val (.ref a7)] [(.ref a7)])) _
    refine XS.aloadN X7.here hx rfl (hb hby at_78) rfl rfl ?_
    show Steps p.tables e below (T7.setTop (mkF m 79 #[.val (.int p0), .val (.int p1), .val (.int ix), .val (.ref a1), .val (.ref a7)] [(.ref a1), (.ref a7)])) _
    refine Jvm.RoadKit.acmp (g := (mkF m 79 #[.val (.int p0), .val (.int p1), .val (.int ix), .val (.ref a1), .val (.ref a7)] [(.ref a1), (.ref a7)])) X7 hx rfl rfl rfl (pc0 := 79) (pc' := 82) (same := false) rfl (hb hby at_79) rfl (decide_eq_false fun q => (Ne.symm (Nat.ne_of_lt (Nat.lt_of_lt_of_le lt_a1 sz7))) (Value.ref.inj q)) (by decide) (by decide) ?_
    show Steps p.tables e below (T7.setTop (mkF m 82 #[.val (.int p0), .val (.int p1), .val (.int ix), .val (.ref a1), .val (.ref a7)] [])) _
    refine XS.aload X7.here hx rfl (hb hby at_82) rfl rfl ?_
    show Steps p.tables e below (T7.setTop (mkF m 84 #[.val (.int p0), .val (.int p1), .val (.int ix), .val (.ref a1), .val (.ref a7)] [(.ref a7)])) _
    refine X7.arraylength hx Ar8.1 (State.isArrayOf_alike hZ.alike Ar8.2.1) (g := (mkF m 84 #[.val (.int p0), .val (.int p1), .val (.int ix), .val (.ref a1), .val (.ref a7)] [(.ref a7)])) rfl rfl (hb hby at_84) _ ?_
    rw [len_of S8 N8n]
    show Steps p.tables e below (T7.setTop (mkF m 85 #[.val (.int p0), .val (.int p1), .val (.int ix), .val (.ref a1), .val (.ref a7)] [(.int (19 : Int32))])) _
    refine XS.bipush X7.here hx rfl (hb hby at_85) ?_
    show Steps p.tables e below (T7.setTop (mkF m 87 #[.val (.int p0), .val (.int p1), .val (.int ix), .val (.ref a1), .val (.ref a7)] [(.int (19 : Int32)), (.int (19 : Int32))])) _
    refine XS.icmpNo X7.here hx rfl (hb hby at_87) rfl (by decide) ?_
    show Steps p.tables e below (T7.setTop (mkF m 90 #[.val (.int p0), .val (.int p1), .val (.int ix), .val (.ref a1), .val (.ref a7)] [])) _
    refine XS.aload X7.here hx rfl (hb hby at_90) rfl rfl ?_
    show Steps p.tables e below (T7.setTop (mkF m 92 #[.val (.int p0), .val (.int p1), .val (.int ix), .val (.ref a1), .val (.ref a7)] [(.ref a7)])) _
    refine XS.iloadN X7.here hx rfl (hb hby at_92) rfl ?_
    show Steps p.tables e below (T7.setTop (mkF m 93 #[.val (.int p0), .val (.int p1), .val (.int ix), .val (.ref a1), .val (.ref a7)] [(.int ix), (.ref a7)])) _
    refine X7.daload hx (j := ix) (v := (.double (FP.ddiv (FP.i2d (ix + (1 : Int32))) (4626322717216342016 : UInt64)))) Ar9.1 (State.isArrayOf_alike hZ.alike Ar9.2.1) Ar9.2.2 hin9 hat9 (g := (mkF m 93 #[.val (.int p0), .val (.int p1), .val (.int ix), .val (.ref a1), .val (.ref a7)] [(.int ix), (.ref a7)])) rfl rfl (hb hby at_93) _ ?_
    show Steps p.tables e below (T7.setTop (mkF m 94 #[.val (.int p0), .val (.int p1), .val (.int ix), .val (.ref a1), .val (.ref a7)] [(.double (FP.ddiv (FP.i2d (ix + (1 : Int32))) (4626322717216342016 : UInt64)))])) _
    refine XS.iloadN X7.here hx rfl (hb hby at_94) rfl ?_
    show Steps p.tables e below (T7.setTop (mkF m 95 #[.val (.int p0), .val (.int p1), .val (.int ix), .val (.ref a1), .val (.ref a7)] [(.int ix), (.double (FP.ddiv (FP.i2d (ix + (1 : Int32))) (4626322717216342016 : UInt64)))])) _
    refine XS.iconst X7.here hx rfl (hb hby at_95) ?_
    show Steps p.tables e below (T7.setTop (mkF m 96 #[.val (.int p0), .val (.int p1), .val (.int ix), .val (.ref a1), .val (.ref a7)] [(.int (1 : Int32)), (.int ix), (.double (FP.ddiv (FP.i2d (ix + (1 : Int32))) (4626322717216342016 : UInt64)))])) _
    refine XS.iadd X7.here hx rfl (hb hby at_96) rfl ?_
    show Steps p.tables e below (T7.setTop (mkF m 97 #[.val (.int p0), .val (.int p1), .val (.int ix), .val (.ref a1), .val (.ref a7)] [(.int (ix + (1 : Int32))), (.double (FP.ddiv (FP.i2d (ix + (1 : Int32))) (4626322717216342016 : UInt64)))])) _
    refine XS.i2dS X7.here hx rfl (hb hby at_97) rfl rfl ?_
    show Steps p.tables e below (T7.setTop (mkF m 98 #[.val (.int p0), .val (.int p1), .val (.int ix), .val (.ref a1), .val (.ref a7)] [(.double (FP.i2d (ix + (1 : Int32)))), (.double (FP.ddiv (FP.i2d (ix + (1 : Int32))) (4626322717216342016 : UInt64)))])) _
    refine X7.ldc2DoubleC hx hown (mvT hZ (hw _ (List.mem_of_getElem? (i := 7) rfl))) (g := (mkF m 98 #[.val (.int p0), .val (.int p1), .val (.int ix), .val (.ref a1), .val (.ref a7)] [(.double (FP.i2d (ix + (1 : Int32)))), (.double (FP.ddiv (FP.i2d (ix + (1 : Int32))) (4626322717216342016 : UInt64)))])) rfl (hb hby at_98) _ ?_
    show Steps p.tables e below (T7.setTop (mkF m 101 #[.val (.int p0), .val (.int p1), .val (.int ix), .val (.ref a1), .val (.ref a7)] [(.double (4626322717216342016 : UInt64)), (.double (FP.i2d (ix + (1 : Int32)))), (.double (FP.ddiv (FP.i2d (ix + (1 : Int32))) (4626322717216342016 : UInt64)))])) _
    refine XS.ddivS X7.here hx rfl (hb hby at_101) rfl (own_nn20 _) rfl ?_
    show Steps p.tables e below (T7.setTop (mkF m 102 #[.val (.int p0), .val (.int p1), .val (.int ix), .val (.ref a1), .val (.ref a7)] [(.double (FP.ddiv (FP.i2d (ix + (1 : Int32))) (4626322717216342016 : UInt64))), (.double (FP.ddiv (FP.i2d (ix + (1 : Int32))) (4626322717216342016 : UInt64)))])) _
    refine XS.dcmpS X7.here hx rfl (hb hby at_102) rfl (cmpV_l _) ?_
    show Steps p.tables e below (T7.setTop (mkF m 103 #[.val (.int p0), .val (.int p1), .val (.int ix), .val (.ref a1), .val (.ref a7)] [(.int (FP.cmpInt (-1) (FP.dcmp (FP.ddiv (FP.i2d (ix + (1 : Int32))) (4626322717216342016 : UInt64)) (FP.ddiv (FP.i2d (ix + (1 : Int32))) (4626322717216342016 : UInt64)))))])) _
    refine XS.ifNo X7.here hx rfl (hb hby at_103) rfl b103 ?_
    show Steps p.tables e below (T7.setTop (mkF m 106 #[.val (.int p0), .val (.int p1), .val (.int ix), .val (.ref a1), .val (.ref a7)] [])) _
    refine XS.iconst X7.here hx rfl (hb hby at_106) ?_
    show Steps p.tables e below (T7.setTop (mkF m 107 #[.val (.int p0), .val (.int p1), .val (.int ix), .val (.ref a1), .val (.ref a7)] [(.int (1 : Int32))])) _
    refine XS.goto X7.here hx rfl (pc0 := 107) (pc' := 111) rfl (hb hby at_107) (by decide) (by decide) ?_
    show Steps p.tables e below (T7.setTop (mkF m 111 #[.val (.int p0), .val (.int p1), .val (.int ix), .val (.ref a1), .val (.ref a7)] [(.int (1 : Int32))])) _
    exact retN X7 hx (t := .boolean) Bd.returns (by simp) (hb hby at_111) hr
  · show QL n0 _ T7.heap _
    exact ⟨rfl, N7⟩
theorem ef_rm0b (m : MethodId) (x0 : Int32) (x1 : Int32) : entryFrame m #[(.int x0), (.int x1)] maxLocals = mkF m 0 #[.val (.int x0), .val (.int x1), .unset, .unset, .unset] [] := by first | (simp [entryFrame, mkF, argsToLocals, Value.category, maxLocals]; done) | rfl
set_option maxRecDepth 65536 in
set_option maxHeartbeats 40000000 in
theorem rm0b (l : Launch) (Z : State) (a0 : Array Value) (hw : ∀ d ∈ tables_1, d.before a0 Z = true) (ws : List Jvm.Cond)  (p0 : Int32) (p1 : Int32) (ix : Int32) (h0 : Heap) (n0 : Nat) (Z0 : n0 ≤ h0.size) 
    (hix : ix = ((p0 &&& (2147483647 : Int32)) - ((p0 &&& (2147483647 : Int32)) / (19 : Int32)) * (19 : Int32)))
    (i0 : ¬ ix < 0)
    (i1 : ix < (19 : Int32))
    (u0 : own_vs.getD ix.toNatClampNeg (.double (0 : UInt64)) = .double (FP.ddiv (FP.i2d (ix + (1 : Int32))) (4626322717216342016 : UInt64)))
    (b33 : ifCond.holds .eq (FP.cmpInt (-1) (FP.dcmp (FP.ddiv (FP.i2d (ix + (1 : Int32))) (4626322717216342016 : UInt64)) (FP.ddiv (FP.i2d (ix + (1 : Int32))) (4626322717216342016 : UInt64)))) = true)
    (b41 : if_icmp.holds .ge ix (18 : Int32) = true)
    (n69 : NoNaN64 (FP.dadd (FP.i2d (p1 &&& (255 : Int32))) (4611686018427387904 : UInt64)))
    (b103 : ifCond.holds .ne (FP.cmpInt (-1) (FP.dcmp (FP.ddiv (FP.i2d (ix + (1 : Int32))) (4626322717216342016 : UInt64)) (FP.ddiv (FP.i2d (ix + (1 : Int32))) (4626322717216342016 : UInt64)))) = false) :
    MetFree l x (head1 (Jvm.Cond.code x code maxLocals ret :: ws) room_1) (fun a U => a = #[(.int p0), (.int p1)] ∧ Z.Warmed39 U.vm ∧ U.heap = h0) (fun _ _ _ _ _ => True) (fun _ U o U' => ∃ v L, o = .returned v ∧ QL n0 v U'.heap L ∧ FrameEnd U o U' L 16 192) := by
  refine MetFree.of_bodySF (plainFor_of_name pn_1) hisR ?_
  intro p e s m args below meth c s₁ Bd hml0 hP hK
  obtain ⟨rfl, hZ, hh⟩ := hP
  have hx := Bd.exec
  have hby := Bd.bytes
  have hml : c.maxLocals = 5 := hml0
  have hown : s.vm.findClass "com/example/damping/damping/mass/MassCurveDefaultDampingsPinLaw" = some m.cls := findClass_of_methodNamed Bd.named
  have hnm := (name_of_methodNamed Bd.named Bd.method).1
  have X0 : Stand p l e room_1 s m #[(.int p0), (.int p1)] below meth c s₁ [] 0 0 := Stand.of_body Bd
  have e0 : s₁.heap = h0 := by rw [← hh, Bd.state]; rfl
  have N0 := Fr.nil n0
  have pre0 : ∀ t, Steps p.tables e below (s₁.setTop (mkF m 0 #[.val (.int p0), .val (.int p1), .unset, .unset, .unset] [])) t → Steps p.tables e below (s₁.setTop (entryFrame m #[(.int p0), (.int p1)] maxLocals)) t := fun t k => castTop (ef_rm0b m p0 p1) k
  obtain ⟨_, _, ⟨T1, L1, k1, n1⟩, -, X1, ⟨Lc1, hQ1, l1, y1, z1⟩, st1⟩ := Jvm.LawKit.callS X0 hx (y := (⟨"com/example/damping/damping/mass/MassCurve", "defaultDampings", "()[D"⟩ : MethodName)) hown (mvT hZ (hw _ (List.mem_of_getElem? (i := 1) rfl))) (mvT hZ (hw _ (List.mem_of_getElem? (i := 2) rfl))) (mvT hZ (hw _ (List.mem_of_getElem? (i := 3) rfl))) (mvT hZ (hw _ (List.mem_of_getElem? (i := 4) rfl))) (by decide) (backOf (W := 0) (rmD l Z a0 hw [] h0 n0 Z0) hZ (hw _ (List.mem_of_getElem? (i := 4) rfl)) (hw _ (List.mem_of_getElem? (i := 3) rfl)) (by decide) (by decide)) (g := (mkF m 8 #[.val (.int p0), .val (.int p1), .val (.int ix), .unset, .unset] [])) rfl (by rw [hml]; rfl) (argsL := []) (rest := []) (lenOf pd_0 rfl) rfl (by show 2 * 0 + _ ≤ _; exact Nat.le_of_eq rfl) (hb hby at_8) (fun _ _ => ⟨rfl, e0, (by decide : 0 + 1 ≤ _), (by decide : 0 + 19 ≤ _)⟩)
  dsimp only [Pt.U, Pt.locs, Pt.cells, Pt.slots] at X1 l1 y1 z1 st1 hQ1
  subst l1 y1 z1
  obtain ⟨a1, ka1, rfl, N1a, K1a, sz1, V1a⟩ := hQ1
  have g_a1 : n0 ≤ a1 := Nat.le_trans Z0 sz1
  have N1 := Fr.app N0 N1a
  obtain ⟨cl2, Ar2, -, S2, N2n, -, -⟩ := id V1a
  obtain ⟨cl3, Ar3, q3, S3, N3n, H3h, G3g⟩ := id V1a
  have hin3 : ¬ (ix < 0 ∨ cl3.slots.size ≤ (ix).toNatClampNeg) := inb_of S3 ⟨i0, i1⟩
  have hat3 : cl3.slots[(ix).toNatClampNeg]? = some (.double (FP.ddiv (FP.i2d (ix + (1 : Int32))) (4626322717216342016 : UInt64))) := Has.at H3h hin3 u0
  obtain ⟨cl4, Ar4, q4, S4, N4n, H4h, G4g⟩ := id V1a
  have hin4 : ¬ (ix < 0 ∨ cl4.slots.size ≤ (ix).toNatClampNeg) := inb_of S4 ⟨i0, i1⟩
  obtain ⟨T4, h4, X4, e4, W4, st4⟩ := stD X1 hx hZ rfl Ar4 (j := ix) hin4 (g := (mkF m 70 #[.val (.int p0), .val (.int p1), .val (.int ix), .val (.ref a1), .unset] [(.double (FP.dadd (FP.i2d (p1 &&& (255 : Int32))) (4611686018427387904 : UInt64))), (.int ix), (.ref a1)])) rfl rfl (hb hby at_70)
  have lt_a1 : a1 < h4.size := by rw [W4.size]; exact Ar4.lt
  have N4 := Fr.snoc X4 N1 g_a1
  obtain ⟨_, _, ⟨T5, L5, k5, n5⟩, -, X5, ⟨Lc5, hQ5, l5, y5, z5⟩, st5⟩ := Jvm.LawKit.callS X4 hx (y := (⟨"com/example/damping/damping/mass/MassCurve", "defaultDampings", "()[D"⟩ : MethodName)) hown (mvT hZ (hw _ (List.mem_of_getElem? (i := 1) rfl))) (mvT hZ (hw _ (List.mem_of_getElem? (i := 2) rfl))) (mvT hZ (hw _ (List.mem_of_getElem? (i := 3) rfl))) (mvT hZ (hw _ (List.mem_of_getElem? (i := 4) rfl))) (by decide) (backOf (W := 0) (rmD l Z a0 hw [] h4 n0 (Nat.le_trans (Nat.le_trans Z0 K1a.1) (Keep.of_wr W4).1)) hZ (hw _ (List.mem_of_getElem? (i := 4) rfl)) (hw _ (List.mem_of_getElem? (i := 3) rfl)) (by decide) (by decide)) (g := (mkF m 71 #[.val (.int p0), .val (.int p1), .val (.int ix), .val (.ref a1), .unset] [])) rfl (by rw [hml]; rfl) (argsL := []) (rest := []) (lenOf pd_0 rfl) rfl (by show 2 * 0 + _ ≤ _; exact Nat.le_of_eq rfl) (hb hby at_71) (fun _ _ => ⟨rfl, e4, (by decide : 1 + 1 ≤ _), (by decide : 19 + 19 ≤ _)⟩)
  dsimp only [Pt.U, Pt.locs, Pt.cells, Pt.slots] at X5 l5 y5 z5 st5 hQ5
  subst l5 y5 z5
  obtain ⟨a5, ka5, rfl, N5a, K5a, sz5, V5a⟩ := hQ5
  have g_a5 : n0 ≤ a5 := Nat.le_trans (Nat.le_trans (Nat.le_trans Z0 K1a.1) (Keep.of_wr W4).1) sz5
  have N5 := Fr.app N4 N5a
  obtain ⟨cl6, Ar6, -, S6, N6n, -, -⟩ := id V5a
  obtain ⟨cl7, Ar7, q7, S7, N7n, H7h, G7g⟩ := id V5a
  have hin7 : ¬ (ix < 0 ∨ cl7.slots.size ≤ (ix).toNatClampNeg) := inb_of S7 ⟨i0, i1⟩
  have hat7 : cl7.slots[(ix).toNatClampNeg]? = some (.double (FP.ddiv (FP.i2d (ix + (1 : Int32))) (4626322717216342016 : UInt64))) := Has.at H7h hin7 u0
  obtain ⟨fs, hr, hrun, hended, hW, hsame⟩ := X5.leave (v := some (.int (1 : Int32))) (fun h => by rw [Bd.returns] at h; cases h)
  refine ⟨_, _, pre0 _ ?_, hrun, hended, _, _, rfl, ?_, ⟨_, rfl⟩, hW, hsame.mono (Nat.le_of_ble_eq_true rfl) (Nat.le_of_ble_eq_true rfl)⟩
  · show Steps p.tables e below (s₁.setTop (mkF m 0 #[.val (.int p0), .val (.int p1), .unset, .unset, .unset] [])) _
    refine XS.iloadN X0.here hx rfl (hb hby at_0) rfl ?_
    show Steps p.tables e below (s₁.setTop (mkF m 1 #[.val (.int p0), .val (.int p1), .unset, .unset, .unset] [(.int p0)])) _
    refine X0.ldcInt hx hown (mvT hZ (hw _ (List.mem_of_getElem? (i := 0) rfl))) (g := (mkF m 1 #[.val (.int p0), .val (.int p1), .unset, .unset, .unset] [(.int p0)])) rfl (hb hby at_1) _ ?_
    show Steps p.tables e below (s₁.setTop (mkF m 3 #[.val (.int p0), .val (.int p1), .unset, .unset, .unset] [(.int (2147483647 : Int32)), (.int p0)])) _
    refine XS.iand X0.here hx rfl (hb hby at_3) rfl ?_
    show Steps p.tables e below (s₁.setTop (mkF m 4 #[.val (.int p0), .val (.int p1), .unset, .unset, .unset] [(.int (p0 &&& (2147483647 : Int32)))])) _
    refine XS.bipush X0.here hx rfl (hb hby at_4) ?_
    show Steps p.tables e below (s₁.setTop (mkF m 6 #[.val (.int p0), .val (.int p1), .unset, .unset, .unset] [(.int (19 : Int32)), (.int (p0 &&& (2147483647 : Int32)))])) _
    refine XS.irem X0.here hx rfl (hb hby at_6) rfl (by decide) ?_
    show Steps p.tables e below (s₁.setTop (mkF m 7 #[.val (.int p0), .val (.int p1), .unset, .unset, .unset] [(.int ((p0 &&& (2147483647 : Int32)) - ((p0 &&& (2147483647 : Int32)) / (19 : Int32)) * (19 : Int32)))])) _
    rw [← hix]
    show Steps p.tables e below (s₁.setTop (mkF m 7 #[.val (.int p0), .val (.int p1), .unset, .unset, .unset] [(.int ix)])) _
    refine XS.istoreN X0.here hx rfl (hb hby at_7) rfl (l' := #[.val (.int p0), .val (.int p1), .val (.int ix), .unset, .unset]) rfl ?_
    show Steps p.tables e below (s₁.setTop (mkF m 8 #[.val (.int p0), .val (.int p1), .val (.int ix), .unset, .unset] [])) _
    refine st1 _ ?_
    show Steps p.tables e below (T1.setTop (mkF m 11 #[.val (.int p0), .val (.int p1), .val (.int ix), .unset, .unset] [(.ref a1)])) _
    refine XS.astoreN X1.here hx rfl (hb hby at_11) rfl rfl (l' := #[.val (.int p0), .val (.int p1), .val (.int ix), .val (.ref a1), .unset]) rfl ?_
    show Steps p.tables e below (T1.setTop (mkF m 12 #[.val (.int p0), .val (.int p1), .val (.int ix), .val (.ref a1), .unset] [])) _
    refine XS.aloadN X1.here hx rfl (hb hby at_12) rfl rfl ?_
    show Steps p.tables e below (T1.setTop (mkF m 13 #[.val (.int p0), .val (.int p1), .val (.int ix), .val (.ref a1), .unset] [(.ref a1)])) _
    refine X1.arraylength hx Ar2.1 (State.isArrayOf_alike hZ.alike Ar2.2.1) (g := (mkF m 13 #[.val (.int p0), .val (.int p1), .val (.int ix), .val (.ref a1), .unset] [(.ref a1)])) rfl rfl (hb hby at_13) _ ?_
    rw [len_of S2 N2n]
    show Steps p.tables e below (T1.setTop (mkF m 14 #[.val (.int p0), .val (.int p1), .val (.int ix), .val (.ref a1), .unset] [(.int (19 : Int32))])) _
    refine XS.bipush X1.here hx rfl (hb hby at_14) ?_
    show Steps p.tables e below (T1.setTop (mkF m 16 #[.val (.int p0), .val (.int p1), .val (.int ix), .val (.ref a1), .unset] [(.int (19 : Int32)), (.int (19 : Int32))])) _
    refine XS.icmpYes X1.here hx rfl (pc0 := 16) (pc' := 21) rfl (hb hby at_16) rfl (by decide) (by decide) (by decide) ?_
    show Steps p.tables e below (T1.setTop (mkF m 21 #[.val (.int p0), .val (.int p1), .val (.int ix), .val (.ref a1), .unset] [])) _
    refine XS.aloadN X1.here hx rfl (hb hby at_21) rfl rfl ?_
    show Steps p.tables e below (T1.setTop (mkF m 22 #[.val (.int p0), .val (.int p1), .val (.int ix), .val (.ref a1), .unset] [(.ref a1)])) _
    refine XS.iloadN X1.here hx rfl (hb hby at_22) rfl ?_
    show Steps p.tables e below (T1.setTop (mkF m 23 #[.val (.int p0), .val (.int p1), .val (.int ix), .val (.ref a1), .unset] [(.int ix), (.ref a1)])) _
    refine X1.daload hx (j := ix) (v := (.double (FP.ddiv (FP.i2d (ix + (1 : Int32))) (4626322717216342016 : UInt64)))) Ar3.1 (State.isArrayOf_alike hZ.alike Ar3.2.1) Ar3.2.2 hin3 hat3 (g := (mkF m 23 #[.val (.int p0), .val (.int p1), .val (.int ix), .val (.ref a1), .unset] [(.int ix), (.ref a1)])) rfl rfl (hb hby at_23) _ ?_
    show Steps p.tables e below (T1.setTop (mkF m 24 #[.val (.int p0), .val (.int p1), .val (.int ix), .val (.ref a1), .unset] [(.double (FP.ddiv (FP.i2d (ix + (1 : Int32))) (4626322717216342016 : UInt64)))])) _
    refine XS.iloadN X1.here hx rfl (hb hby at_24) rfl ?_
    show Steps p.tables e below (T1.setTop (mkF m 25 #[.val (.int p0), .val (.int p1), .val (.int ix), .val (.ref a1), .unset] [(.int ix), (.double (FP.ddiv (FP.i2d (ix + (1 : Int32))) (4626322717216342016 : UInt64)))])) _
    refine XS.iconst X1.here hx rfl (hb hby at_25) ?_
    show Steps p.tables e below (T1.setTop (mkF m 26 #[.val (.int p0), .val (.int p1), .val (.int ix), .val (.ref a1), .unset] [(.int (1 : Int32)), (.int ix), (.double (FP.ddiv (FP.i2d (ix + (1 : Int32))) (4626322717216342016 : UInt64)))])) _
    refine XS.iadd X1.here hx rfl (hb hby at_26) rfl ?_
    show Steps p.tables e below (T1.setTop (mkF m 27 #[.val (.int p0), .val (.int p1), .val (.int ix), .val (.ref a1), .unset] [(.int (ix + (1 : Int32))), (.double (FP.ddiv (FP.i2d (ix + (1 : Int32))) (4626322717216342016 : UInt64)))])) _
    refine XS.i2dS X1.here hx rfl (hb hby at_27) rfl rfl ?_
    show Steps p.tables e below (T1.setTop (mkF m 28 #[.val (.int p0), .val (.int p1), .val (.int ix), .val (.ref a1), .unset] [(.double (FP.i2d (ix + (1 : Int32)))), (.double (FP.ddiv (FP.i2d (ix + (1 : Int32))) (4626322717216342016 : UInt64)))])) _
    refine X1.ldc2DoubleC hx hown (mvT hZ (hw _ (List.mem_of_getElem? (i := 7) rfl))) (g := (mkF m 28 #[.val (.int p0), .val (.int p1), .val (.int ix), .val (.ref a1), .unset] [(.double (FP.i2d (ix + (1 : Int32)))), (.double (FP.ddiv (FP.i2d (ix + (1 : Int32))) (4626322717216342016 : UInt64)))])) rfl (hb hby at_28) _ ?_
    show Steps p.tables e below (T1.setTop (mkF m 31 #[.val (.int p0), .val (.int p1), .val (.int ix), .val (.ref a1), .unset] [(.double (4626322717216342016 : UInt64)), (.double (FP.i2d (ix + (1 : Int32)))), (.double (FP.ddiv (FP.i2d (ix + (1 : Int32))) (4626322717216342016 : UInt64)))])) _
    refine XS.ddivS X1.here hx rfl (hb hby at_31) rfl (own_nn20 _) rfl ?_
    show Steps p.tables e below (T1.setTop (mkF m 32 #[.val (.int p0), .val (.int p1), .val (.int ix), .val (.ref a1), .unset] [(.double (FP.ddiv (FP.i2d (ix + (1 : Int32))) (4626322717216342016 : UInt64))), (.double (FP.ddiv (FP.i2d (ix + (1 : Int32))) (4626322717216342016 : UInt64)))])) _
    refine XS.dcmpS X1.here hx rfl (hb hby at_32) rfl (cmpV_l _) ?_
    show Steps p.tables e below (T1.setTop (mkF m 33 #[.val (.int p0), .val (.int p1), .val (.int ix), .val (.ref a1), .unset] [(.int (FP.cmpInt (-1) (FP.dcmp (FP.ddiv (FP.i2d (ix + (1 : Int32))) (4626322717216342016 : UInt64)) (FP.ddiv (FP.i2d (ix + (1 : Int32))) (4626322717216342016 : UInt64)))))])) _
    refine XS.ifYes X1.here hx rfl (pc0 := 33) (pc' := 38) rfl (hb hby at_33) rfl b33 (by decide) (by decide) ?_
    show Steps p.tables e below (T1.setTop (mkF m 38 #[.val (.int p0), .val (.int p1), .val (.int ix), .val (.ref a1), .unset] [])) _
    refine XS.iloadN X1.here hx rfl (hb hby at_38) rfl ?_
    show Steps p.tables e below (T1.setTop (mkF m 39 #[.val (.int p0), .val (.int p1), .val (.int ix), .val (.ref a1), .unset] [(.int ix)])) _
    refine XS.bipush X1.here hx rfl (hb hby at_39) ?_
    show Steps p.tables e below (T1.setTop (mkF m 41 #[.val (.int p0), .val (.int p1), .val (.int ix), .val (.ref a1), .unset] [(.int (18 : Int32)), (.int ix)])) _
    refine XS.icmpYes X1.here hx rfl (pc0 := 41) (pc' := 58) rfl (hb hby at_41) rfl b41 (by decide) (by decide) ?_
    show Steps p.tables e below (T1.setTop (mkF m 58 #[.val (.int p0), .val (.int p1), .val (.int ix), .val (.ref a1), .unset] [])) _
    refine XS.aloadN X1.here hx rfl (hb hby at_58) rfl rfl ?_
    show Steps p.tables e below (T1.setTop (mkF m 59 #[.val (.int p0), .val (.int p1), .val (.int ix), .val (.ref a1), .unset] [(.ref a1)])) _
    refine XS.iloadN X1.here hx rfl (hb hby at_59) rfl ?_
    show Steps p.tables e below (T1.setTop (mkF m 60 #[.val (.int p0), .val (.int p1), .val (.int ix), .val (.ref a1), .unset] [(.int ix), (.ref a1)])) _
    refine XS.iloadN X1.here hx rfl (hb hby at_60) rfl ?_
    show Steps p.tables e below (T1.setTop (mkF m 61 #[.val (.int p0), .val (.int p1), .val (.int ix), .val (.ref a1), .unset] [(.int p1), (.int ix), (.ref a1)])) _
    refine XS.sipush X1.here hx rfl (hb hby at_61) ?_
    show Steps p.tables e below (T1.setTop (mkF m 64 #[.val (.int p0), .val (.int p1), .val (.int ix), .val (.ref a1), .unset] [(.int (255 : Int32)), (.int p1), (.int ix), (.ref a1)])) _
    refine XS.iand X1.here hx rfl (hb hby at_64) rfl ?_
    show Steps p.tables e below (T1.setTop (mkF m 65 #[.val (.int p0), .val (.int p1), .val (.int ix), .val (.ref a1), .unset] [(.int (p1 &&& (255 : Int32))), (.int ix), (.ref a1)])) _
    refine XS.i2dS X1.here hx rfl (hb hby at_65) rfl rfl ?_
    show Steps p.tables e below (T1.setTop (mkF m 66 #[.val (.int p0), .val (.int p1), .val (.int ix), .val (.ref a1), .unset] [(.double (FP.i2d (p1 &&& (255 : Int32)))), (.int ix), (.ref a1)])) _
    refine X1.ldc2DoubleC hx hown (mvT hZ (hw _ (List.mem_of_getElem? (i := 8) rfl))) (g := (mkF m 66 #[.val (.int p0), .val (.int p1), .val (.int ix), .val (.ref a1), .unset] [(.double (FP.i2d (p1 &&& (255 : Int32)))), (.int ix), (.ref a1)])) rfl (hb hby at_66) _ ?_
    show Steps p.tables e below (T1.setTop (mkF m 69 #[.val (.int p0), .val (.int p1), .val (.int ix), .val (.ref a1), .unset] [(.double (4611686018427387904 : UInt64)), (.double (FP.i2d (p1 &&& (255 : Int32)))), (.int ix), (.ref a1)])) _
    refine XS.daddS X1.here hx rfl (hb hby at_69) rfl n69 rfl ?_
    show Steps p.tables e below (T1.setTop (mkF m 70 #[.val (.int p0), .val (.int p1), .val (.int ix), .val (.ref a1), .unset] [(.double (FP.dadd (FP.i2d (p1 &&& (255 : Int32))) (4611686018427387904 : UInt64))), (.int ix), (.ref a1)])) _
    refine st4 _ ?_
    show Steps p.tables e below (T4.setTop (mkF m 71 #[.val (.int p0), .val (.int p1), .val (.int ix), .val (.ref a1), .unset] [])) _
    refine st5 _ ?_
    show Steps p.tables e below (T5.setTop (mkF m 74 #[.val (.int p0), .val (.int p1), .val (.int ix), .val (.ref a1), .unset] [(.ref a5)])) _
    refine XS.astore X5.here hx rfl (hb hby at_74) rfl rfl (l' := #[.val (.int p0), .val (.int p1), .val (.int ix), .val (.ref a1), .val (.ref a5)]) rfl ?_
    show Steps p.tables e below (T5.setTop (mkF m 76 #[.val (.int p0), .val (.int p1), .val (.int ix), .val (.ref a1), .val (.ref a5)] [])) _
    refine XS.aload X5.here hx rfl (hb hby at_76) rfl rfl ?_
    show Steps p.tables e below (T5.setTop (mkF m 78 #[.val (.int p0), .val (.int p1), .val (.int ix), .val (.ref a1), .val (.ref a5)] [(.ref a5)])) _
    refine XS.aloadN X5.here hx rfl (hb hby at_78) rfl rfl ?_
    show Steps p.tables e below (T5.setTop (mkF m 79 #[.val (.int p0), .val (.int p1), .val (.int ix), .val (.ref a1), .val (.ref a5)] [(.ref a1), (.ref a5)])) _
    refine Jvm.RoadKit.acmp (g := (mkF m 79 #[.val (.int p0), .val (.int p1), .val (.int ix), .val (.ref a1), .val (.ref a5)] [(.ref a1), (.ref a5)])) X5 hx rfl rfl rfl (pc0 := 79) (pc' := 82) (same := false) rfl (hb hby at_79) rfl (decide_eq_false fun q => (Ne.symm (Nat.ne_of_lt (Nat.lt_of_lt_of_le lt_a1 sz5))) (Value.ref.inj q)) (by decide) (by decide) ?_
    show Steps p.tables e below (T5.setTop (mkF m 82 #[.val (.int p0), .val (.int p1), .val (.int ix), .val (.ref a1), .val (.ref a5)] [])) _
    refine XS.aload X5.here hx rfl (hb hby at_82) rfl rfl ?_
    show Steps p.tables e below (T5.setTop (mkF m 84 #[.val (.int p0), .val (.int p1), .val (.int ix), .val (.ref a1), .val (.ref a5)] [(.ref a5)])) _
    refine X5.arraylength hx Ar6.1 (State.isArrayOf_alike hZ.alike Ar6.2.1) (g := (mkF m 84 #[.val (.int p0), .val (.int p1), .val (.int ix), .val (.ref a1), .val (.ref a5)] [(.ref a5)])) rfl rfl (hb hby at_84) _ ?_
    rw [len_of S6 N6n]
    show Steps p.tables e below (T5.setTop (mkF m 85 #[.val (.int p0), .val (.int p1), .val (.int ix), .val (.ref a1), .val (.ref a5)] [(.int (19 : Int32))])) _
    refine XS.bipush X5.here hx rfl (hb hby at_85) ?_
    show Steps p.tables e below (T5.setTop (mkF m 87 #[.val (.int p0), .val (.int p1), .val (.int ix), .val (.ref a1), .val (.ref a5)] [(.int (19 : Int32)), (.int (19 : Int32))])) _
    refine XS.icmpNo X5.here hx rfl (hb hby at_87) rfl (by decide) ?_
    show Steps p.tables e below (T5.setTop (mkF m 90 #[.val (.int p0), .val (.int p1), .val (.int ix), .val (.ref a1), .val (.ref a5)] [])) _
    refine XS.aload X5.here hx rfl (hb hby at_90) rfl rfl ?_
    show Steps p.tables e below (T5.setTop (mkF m 92 #[.val (.int p0), .val (.int p1), .val (.int ix), .val (.ref a1), .val (.ref a5)] [(.ref a5)])) _
    refine XS.iloadN X5.here hx rfl (hb hby at_92) rfl ?_
    show Steps p.tables e below (T5.setTop (mkF m 93 #[.val (.int p0), .val (.int p1), .val (.int ix), .val (.ref a1), .val (.ref a5)] [(.int ix), (.ref a5)])) _
    refine X5.daload hx (j := ix) (v := (.double (FP.ddiv (FP.i2d (ix + (1 : Int32))) (4626322717216342016 : UInt64)))) Ar7.1 (State.isArrayOf_alike hZ.alike Ar7.2.1) Ar7.2.2 hin7 hat7 (g := (mkF m 93 #[.val (.int p0), .val (.int p1), .val (.int ix), .val (.ref a1), .val (.ref a5)] [(.int ix), (.ref a5)])) rfl rfl (hb hby at_93) _ ?_
    show Steps p.tables e below (T5.setTop (mkF m 94 #[.val (.int p0), .val (.int p1), .val (.int ix), .val (.ref a1), .val (.ref a5)] [(.double (FP.ddiv (FP.i2d (ix + (1 : Int32))) (4626322717216342016 : UInt64)))])) _
    refine XS.iloadN X5.here hx rfl (hb hby at_94) rfl ?_
    show Steps p.tables e below (T5.setTop (mkF m 95 #[.val (.int p0), .val (.int p1), .val (.int ix), .val (.ref a1), .val (.ref a5)] [(.int ix), (.double (FP.ddiv (FP.i2d (ix + (1 : Int32))) (4626322717216342016 : UInt64)))])) _
    refine XS.iconst X5.here hx rfl (hb hby at_95) ?_
    show Steps p.tables e below (T5.setTop (mkF m 96 #[.val (.int p0), .val (.int p1), .val (.int ix), .val (.ref a1), .val (.ref a5)] [(.int (1 : Int32)), (.int ix), (.double (FP.ddiv (FP.i2d (ix + (1 : Int32))) (4626322717216342016 : UInt64)))])) _
    refine XS.iadd X5.here hx rfl (hb hby at_96) rfl ?_
    show Steps p.tables e below (T5.setTop (mkF m 97 #[.val (.int p0), .val (.int p1), .val (.int ix), .val (.ref a1), .val (.ref a5)] [(.int (ix + (1 : Int32))), (.double (FP.ddiv (FP.i2d (ix + (1 : Int32))) (4626322717216342016 : UInt64)))])) _
    refine XS.i2dS X5.here hx rfl (hb hby at_97) rfl rfl ?_
    show Steps p.tables e below (T5.setTop (mkF m 98 #[.val (.int p0), .val (.int p1), .val (.int ix), .val (.ref a1), .val (.ref a5)] [(.double (FP.i2d (ix + (1 : Int32)))), (.double (FP.ddiv (FP.i2d (ix + (1 : Int32))) (4626322717216342016 : UInt64)))])) _
    refine X5.ldc2DoubleC hx hown (mvT hZ (hw _ (List.mem_of_getElem? (i := 7) rfl))) (g := (mkF m 98 #[.val (.int p0), .val (.int p1), .val (.int ix), .val (.ref a1), .val (.ref a5)] [(.double (FP.i2d (ix + (1 : Int32)))), (.double (FP.ddiv (FP.i2d (ix + (1 : Int32))) (4626322717216342016 : UInt64)))])) rfl (hb hby at_98) _ ?_
    show Steps p.tables e below (T5.setTop (mkF m 101 #[.val (.int p0), .val (.int p1), .val (.int ix), .val (.ref a1), .val (.ref a5)] [(.double (4626322717216342016 : UInt64)), (.double (FP.i2d (ix + (1 : Int32)))), (.double (FP.ddiv (FP.i2d (ix + (1 : Int32))) (4626322717216342016 : UInt64)))])) _
    refine XS.ddivS X5.here hx rfl (hb hby at_101) rfl (own_nn20 _) rfl ?_
    show Steps p.tables e below (T5.setTop (mkF m 102 #[.val (.int p0), .val (.int p1), .val (.int ix), .val (.ref a1), .val (.ref a5)] [(.double (FP.ddiv (FP.i2d (ix + (1 : Int32))) (4626322717216342016 : UInt64))), (.double (FP.ddiv (FP.i2d (ix + (1 : Int32))) (4626322717216342016 : UInt64)))])) _
    refine XS.dcmpS X5.here hx rfl (hb hby at_102) rfl (cmpV_l _) ?_
    show Steps p.tables e below (T5.setTop (mkF m 103 #[.val (.int p0), .val (.int p1), .val (.int ix), .val (.ref a1), .val (.ref a5)] [(.int (FP.cmpInt (-1) (FP.dcmp (FP.ddiv (FP.i2d (ix + (1 : Int32))) (4626322717216342016 : UInt64)) (FP.ddiv (FP.i2d (ix + (1 : Int32))) (4626322717216342016 : UInt64)))))])) _
    refine XS.ifNo X5.here hx rfl (hb hby at_103) rfl b103 ?_
    show Steps p.tables e below (T5.setTop (mkF m 106 #[.val (.int p0), .val (.int p1), .val (.int ix), .val (.ref a1), .val (.ref a5)] [])) _
    refine XS.iconst X5.here hx rfl (hb hby at_106) ?_
    show Steps p.tables e below (T5.setTop (mkF m 107 #[.val (.int p0), .val (.int p1), .val (.int ix), .val (.ref a1), .val (.ref a5)] [(.int (1 : Int32))])) _
    refine XS.goto X5.here hx rfl (pc0 := 107) (pc' := 111) rfl (hb hby at_107) (by decide) (by decide) ?_
    show Steps p.tables e below (T5.setTop (mkF m 111 #[.val (.int p0), .val (.int p1), .val (.int ix), .val (.ref a1), .val (.ref a5)] [(.int (1 : Int32))])) _
    exact retN X5 hx (t := .boolean) Bd.returns (by simp) (hb hby at_111) hr
  · show QL n0 _ T5.heap _
    exact ⟨rfl, N5⟩
section Law
open Jvm.FP.Core Jvm.OwnF Jvm.Kit
def own_ix (p : Int32) : Int32 := (p &&& (2147483647 : Int32)) - ((p &&& (2147483647 : Int32)) / (19 : Int32)) * (19 : Int32)
theorem own_ix_range (p : Int32) : 0 ≤ (own_ix p).toInt ∧ (own_ix p).toInt < 19 := irem_range (n := 19) and_range (by decide)
def own_q (x : Int32) : UInt64 := FP.ddiv (FP.i2d x) (4626322717216342016 : UInt64)
theorem own_all : ∀ k : Fin 19, own_vs.getD (Int32.ofNat k.val).toNatClampNeg (.double (0 : UInt64)) = .double (own_q (Int32.ofNat k.val + 1)) ∧ ¬ (Int32.ofNat k.val) < 0 ∧ (Int32.ofNat k.val) < (19 : Int32) := by decide +kernel
theorem own_lt : ∀ k : Fin 18, own_vs.getD (Int32.ofNat k.val + 1).toNatClampNeg (.double (0 : UInt64)) = .double (own_q (Int32.ofNat k.val + 1 + 1)) ∧ ¬ (Int32.ofNat k.val + 1) < 0 ∧ (Int32.ofNat k.val + 1) < (19 : Int32) ∧ ifCond.holds .lt (FP.cmpInt 1 (FP.dcmp (own_q (Int32.ofNat k.val + 1)) (own_q (Int32.ofNat k.val + 1 + 1)))) = true ∧ if_icmp.holds .ge (Int32.ofNat k.val) (18 : Int32) = false := by decide +kernel
theorem own_b33 (x : Int32) : ifCond.holds .eq (FP.cmpInt (-1) (FP.dcmp (own_q x) (own_q x))) = true := by
  exact if_l_eq (dcmp_self (own_20n x)) (by decide)
theorem own_b103 (x : Int32) : ifCond.holds .ne (FP.cmpInt (-1) (FP.dcmp (own_q x) (own_q x))) = false := by
  exact if_l_eq (dcmp_self (own_20n x)) (by decide)
theorem own_two : DFin 4611686018427387904 := ⟨false, 2 ^ 52, -51, by decide +kernel⟩
theorem own_n69 (p : Int32) : NoNaN64 (FP.dadd (FP.i2d (p &&& (255 : Int32))) (4611686018427387904 : UInt64)) := noNaN (dadd_ne_nan (i2d_fin' _) own_two)
end Law
theorem own_rm0 (l : Launch) (Z : State) (a0 : Array Value) (hw : ∀ d ∈ tables_1, d.before a0 Z = true) (ws : List Jvm.Cond) (p0 p1 : Int32) (h0 : Heap) (n0 : Nat) (Z0 : n0 ≤ h0.size) :
    MetFree l x (head1 (Jvm.Cond.code x code maxLocals ret :: ws) room_1) (fun a U => a = #[(.int p0), (.int p1)] ∧ Z.Warmed39 U.vm ∧ U.heap = h0) (fun _ _ _ _ _ => True) (fun _ U o U' => ∃ v L, o = .returned v ∧ QL n0 v U'.heap L ∧ FrameEnd U o U' L 16 192) := by
  obtain ⟨r1, r2⟩ := own_ix_range p0
  obtain ⟨k, hk, hx⟩ := OwnF.i32_of_lt (n := 19) r1 r2
  obtain ⟨u0, i0, i1⟩ := own_all ⟨k, hk⟩
  by_cases h18 : k < 18
  · obtain ⟨u1, i2, i3, b53, b41⟩ := own_lt ⟨k, h18⟩
    exact rm0a l Z a0 hw ws p0 p1 (Int32.ofNat k) (own_q (Int32.ofNat k + 1 + 1)) h0 n0 Z0 hx.symm i0 i1 u0 i2 i3 u1 (own_b33 _) b41 b53 (own_n69 p1) (own_b103 _)
  · obtain rfl : k = 18 := by omega
    exact rm0b l Z a0 hw ws p0 p1 (Int32.ofNat 18) h0 n0 Z0 hx.symm i0 i1 u0 (own_b33 _) (by decide) (own_n69 p1) (own_b103 _)

set_option maxRecDepth 65536 in
set_option maxHeartbeats 40000000 in
theorem comes_1 {Post : Tables → Env → Array Value → State → Outcome → State → Prop} (hpost : ∀ tb e args s v u, (limb_1_1.after args s (.returned v) u = true ∧ limb_1_2.after args s (.returned v) u = true ∧ True) → FrameEnd s (.returned v) u (Jvm.fieldLocs frame_1_writes args s ++ Jvm.arrayLocs frame_1_arrays args s ++ Jvm.staticLocs frame_1_statics s) 16 192 → Post tb e args s (.returned v) u) :
    ArmFor flags0 classFile x code maxLocals ret World_1 tables_1 room_1 Calls_1 rest_1 Pre_1 Post := by
  intro l hfl _ _ p e ha hc hk s m args below hf hA hF happ hP
  obtain ⟨hcalls, hrest, hpre⟩ := hP
  obtain ⟨-, -, -, hnamed, -, -, -, hat⟩ := (Spec.applies_iff hf).mp happ
  obtain ⟨hg, hn⟩ := and_e (Cond.before_iff.mp (show (Jvm.Cond.and given_1 narrow_1).before args s = true from hpre))
  obtain ⟨hcnt, g0⟩ := and_e hg
  obtain ⟨k0, g1⟩ := and_e g0
  obtain ⟨w0, w1, rfl⟩ : ∃ w0 w1 : Value, args = #[w0, w1] := by
    have hs : args.size = 2 := by simpa [Cond.value, given_1] using hcnt
    obtain ⟨L⟩ := args
    match L, hs with
    | [w0, w1], _ => exact ⟨w0, w1, rfl⟩
  have hw := fun d (hd : d ∈ tables_1) => atoms_spec (ws := Jvm.Cond.code x code maxLocals ret :: tables_1) hat d (List.mem_cons_of_mem _ hd)
  have hfit : Fit s := fun {y c} hc i hi => by
    obtain ⟨ha, rfl⟩ := Array.getElem?_eq_some_iff.mp hc
    have q := List.all_eq_true.mp ((Array.all_eq_true_iff_forall_mem.mp hF) _ (Array.getElem_mem ha)) i (List.mem_range.mpr hi)
    simpa [Array.getElem?_eq_getElem hi] using q
  obtain ⟨i0, ei0⟩ := is_v k0
  obtain rfl : w0 = (.int i0) := Option.some.inj ei0
  obtain ⟨i1, ei1⟩ := is_v g1
  obtain rfl : w1 = (.int i1) := Option.some.inj ei1
  obtain ⟨n, o, h1, h2, h3, _, L, rfl, ⟨rfl, N⟩, hq⟩ := own_rm0 l s _ hw tables_1 i0 i1 s.heap s.heap.size (Nat.le_refl _) p e ha hc hk s m _ below hf ((Spec.applies_iff_loose hf).mp happ).1 ⟨rfl, State.Warmed39.refl s, rfl⟩ trivial
  refine ⟨n, _, h1, h2, h3, hpost _ _ _ _ _ _ ⟨Cond.after_iff.mpr rfl, Cond.after_iff.mpr (eq_i res_at (Term.int_eval (1)) rfl), trivial⟩ ⟨hq.1, hq.2.1, (hq.2.2.sift fun y hy => Or.inr (N y hy)).mono (by decide) (by decide)⟩⟩
theorem main_1_1 : Claimed_1_1 := comes_1 fun _ _ _ _ _ _ h hF => ⟨h.1, hF⟩
theorem main_1_2 : Claimed_1_2 := comes_1 fun _ _ _ _ _ _ h hF => ⟨h.2.1, hF⟩
end Jvm.Pilot.@@N@@
namespace Jvm.Pilot.@@N@@
open Jvm Jvm.ClassFile Sem Op Lib Jvm.Free Jvm.Stand Jvm.Pilot.@@N@@.Jvm.D
/-! MADE BY PROGRAM (witnessworld.py) out of the Statement's table words and the real class files: 11 classes; the members and pool entries that the words name. The judged class is class 1, her method 1. -/
namespace start1
open Jvm.ClassFile
def u (s : String) : CpInfo := .utf8 (stringToUtf16 s)
/-- a pool by its gaps: so many unusable entries, then the entry; so many at the end -/
def gap : Nat → List CpInfo → List CpInfo
  | 0, r => r
  | n + 1, r => .unusable :: gap n r
def poolList (es : List (Nat × CpInfo)) (last : Nat) : List CpInfo := es.foldr (fun e r => gap e.1 (e.2 :: r)) (gap last [])
def pool (es : List (Nat × CpInfo)) (last : Nat) : Array CpInfo := ⟨poolList es last⟩
def fileOf (pool : Array CpInfo) (this : Nat) (attrs : Array Attribute := #[]) (ms : Array MethodInfo := #[]) (fl : Nat := 33) (sup : Nat := 0) (ifs : Array Nat := #[]) (fds : Array FieldInfo := #[]) : ClassFile where
  minorVersion := 0
  majorVersion := 65
  constantPool := pool
  accessFlags := fl
  thisClass := this
  superClass := sup
  interfaces := ifs
  fields := fds
  methods := ms
  attributes := attrs
def plain (name : String) (sup : Option ClassId) : Class where
  name := name
  kind := .ordinary
  loader := none
  accessFlags := 33
  super := sup
  interfaces := #[]
  cf := none
  fields := #[]
  methods := #[]
  instanceTypes := #[]
  staticTypes := #[]
  resolved := #[]
  callSites := []
  init := .initialized
  statics := none
  mirror := none

def pool0 : Array CpInfo := pool [(5, u "<init>"), (0, u "()V"), (1, .class_ 10), (1, u "java/lang/Object")] 113

def k0m0 : Method := { name := "<init>", desc := "()V", sig := { parameters := [], returnType := none }, accessFlags := 1, code := none }
/-- java/lang/Object -/
def k0 : Class := { plain "java/lang/Object" none with
  accessFlags := 33
  interfaces := #[]
  cf := some (fileOf pool0 8 #[] #[{ accessFlags := 1, nameIndex := 5, descriptorIndex := 6, attributes := #[] }] 33 0 #[] #[])
  fields := #[]
  methods := #[k0m0]
  instanceTypes := #[]
  staticTypes := #[]
  resolved := Array.replicate 124 none
  statics := none }

def pool1 : Array CpInfo := pool [(2, .class_ 4), (1, u "java/lang/Object"), (0, u "<init>"), (0, u "()V"), (0, .integer 2147483647), (0, .methodref 9 10), (0, .class_ 11), (0, .nameAndType 12 13), (0, u "com/example/damping/damping/mass/MassCurve"), (0, u "defaultDampings"), (0, u "()[D"), (0, .double 4626322717216342016), (1, .double 4611686018427387904), (1, .class_ 19), (0, u "com/example/damping/damping/mass/MassCurveDefaultDampingsPinLaw"), (2, u "law"), (0, u "(II)Z")] 5

def k1m0 : Method := { name := "<init>", desc := "()V", sig := { parameters := [], returnType := none }, accessFlags := 1, code := none }
def k1c1 : Code := { maxStack := 6, maxLocals := 5, code := code, exceptionTable := #[], attributes := #[] }
def k1m1 : Method := { name := "law", desc := "(II)Z", sig := { parameters := [.int, .int], returnType := some .boolean }, accessFlags := 9, code := some k1c1 }
/-- com/example/damping/damping/mass/MassCurveDefaultDampingsPinLaw -/
def k1 : Class := { plain "com/example/damping/damping/mass/MassCurveDefaultDampingsPinLaw" (some 0) with
  accessFlags := 49
  interfaces := #[]
  cf := some (fileOf pool1 18 #[] #[{ accessFlags := 1, nameIndex := 5, descriptorIndex := 6, attributes := #[] }, { accessFlags := 9, nameIndex := 22, descriptorIndex := 23, attributes := #[] }] 49 2 #[] #[])
  fields := #[]
  methods := #[k1m0, k1m1]
  instanceTypes := #[]
  staticTypes := #[]
  resolved := Array.replicate 29 none
  statics := none }

def pool2 : Array CpInfo := pool [(2, .class_ 4), (1, u "java/lang/Object"), (3, .class_ 10), (1, u "com/example/damping/damping/mass/MassCurve"), (0, u "partition"), (0, u "Ljava/util/List;"), (2, u "masses"), (0, u "Ljava/util/List;"), (0, .double 4626322717216342016), (18, .class_ 37), (0, u "com/example/damping/damping/mass/MassCurve$PowerMethod"), (19, .class_ 59), (1, u "com/example/damping/damping/mass/MassCurve$PartHoldings"), (43, u "DEFAULT_TWENTIETHS"), (0, u "I"), (7, u "defaultDampings"), (0, u "()[D")] 16

def k2c0 : Code := { maxStack := 6, maxLocals := 2, code := prog_22_method_2_code, exceptionTable := #[], attributes := #[] }
def k2m0 : Method := { name := "defaultDampings", desc := "()[D", sig := { parameters := [], returnType := some (.array .double) }, accessFlags := 9, code := some k2c0 }
/-- com/example/damping/damping/mass/MassCurve -/
def k2 : Class := { plain "com/example/damping/damping/mass/MassCurve" (some 0) with
  accessFlags := 49
  interfaces := #[]
  cf := some (fileOf pool2 8 #[.nestMembers #[36, 57]] #[{ accessFlags := 9, nameIndex := 112, descriptorIndex := 113, attributes := #[] }] 49 2 #[] #[{ accessFlags := 26, nameIndex := 103, descriptorIndex := 104, attributes := #[] }, { accessFlags := 18, nameIndex := 11, descriptorIndex := 12, attributes := #[] }, { accessFlags := 18, nameIndex := 15, descriptorIndex := 16, attributes := #[] }])
  fields := #[{ name := "DEFAULT_TWENTIETHS", type := .int, accessFlags := 26, slot := 0, constantValue := 0 }, { name := "partition", type := (.object "java/util/List"), accessFlags := 18, slot := 0, constantValue := 0 }, { name := "masses", type := (.object "java/util/List"), accessFlags := 18, slot := 1, constantValue := 0 }]
  methods := #[k2m0]
  instanceTypes := #[(.object "java/util/List"), (.object "java/util/List")]
  staticTypes := #[.int]
  resolved := Array.replicate 130 none
  statics := none }

def pool3 : Array CpInfo := pool [(1, u "java/lang/Cloneable"), (0, .class_ 1), (0, u "java/lang/Object"), (0, .class_ 3)] 3

/-- java/lang/Cloneable -/
def k3 : Class := { plain "java/lang/Cloneable" (some 0) with
  accessFlags := 1537
  interfaces := #[]
  cf := some (fileOf pool3 2 #[] #[] 1537 4 #[] #[])
  fields := #[]
  methods := #[]
  instanceTypes := #[]
  staticTypes := #[]
  resolved := Array.replicate 8 none
  statics := none }

def pool4 : Array CpInfo := pool [(1, u "java/io/Serializable"), (0, .class_ 1), (0, u "java/lang/Object"), (0, .class_ 3)] 3

/-- java/io/Serializable -/
def k4 : Class := { plain "java/io/Serializable" (some 0) with
  accessFlags := 1537
  interfaces := #[]
  cf := some (fileOf pool4 2 #[] #[] 1537 4 #[] #[])
  fields := #[]
  methods := #[]
  instanceTypes := #[]
  staticTypes := #[]
  resolved := Array.replicate 8 none
  statics := none }

/-- the primitive byte -/
def k5 : Class := { plain "byte" none with kind := .primitive 'B', accessFlags := 0x411 }
/-- [B -/
def k6 : Class := { plain "[B" (some 0) with kind := .array 5 .byte, interfaces := #[3, 4], accessFlags := 1041 }

/-- the primitive double -/
def k7 : Class := { plain "double" none with kind := .primitive 'D', accessFlags := 0x411 }
/-- [D -/
def k8 : Class := { plain "[D" (some 0) with kind := .array 7 .double, interfaces := #[3, 4], accessFlags := 1041 }

/-- the primitive int -/
def k9 : Class := { plain "int" none with kind := .primitive 'I', accessFlags := 0x411 }
/-- [I -/
def k10 : Class := { plain "[I" (some 0) with kind := .array 9 .int, interfaces := #[3, 4], accessFlags := 1041 }

def heap : Heap := #[]
def classes : Array Class := #[k0, k1, k2, k3, k4, k5, k6, k7, k8, k9, k10]
def interned : List (Array UInt16 × Addr) := []
def slotsUsed : Nat := 0
def theMethod : MethodId := ⟨1, 1⟩
def args0 : Array Value := #[.int 5, .int 3]
def aboutOver (below : List Frame) : State where
  vm := { classes := classes, interned := interned.toArray }
  heap := heap
  slotsUsed := slotsUsed
  threads := #[{ frames := .invoking theMethod args0 :: below }]
def below0 : List Frame := [.native { method := ⟨0, 0⟩, args := #[] }]
def about1 : State := aboutOver below0
def p0 : Program := .bare "" "" ""
def e0 : Env := launch0.env 0 0 0
theorem w_frames : about1.frames = Frame.invoking theMethod args0 :: below0 := rfl
set_option maxRecDepth 65536 in
theorem w_args : argsFit about1.vm theMethod args0 = true := by decide +kernel
set_option maxRecDepth 65536 in
theorem w_heap : heapFits about1 = true := by decide +kernel
set_option maxRecDepth 65536 in
theorem w_runnable : about1.curStatus? = some .runnable := by decide +kernel
set_option maxRecDepth 65536 in
theorem w_alone : about1.alone = true := by decide +kernel
set_option maxRecDepth 65536 in
theorem w_named : about1.methodNamed? x = some theMethod := by decide +kernel
set_option maxRecDepth 65536 in
theorem w_hears : about1.hears theMethod below0 = true := by decide +kernel
set_option maxRecDepth 65536 in
theorem w_ripe : about1.ripe theMethod args0 below0 = true := by decide +kernel
theorem w_running : about1.status = .running := rfl
set_option maxRecDepth 65536 in
theorem w_room : about1.hasRoom e0.platform room_1 = true :=
  launch0.hasRoom_least _ room_1 (by decide +kernel) (by decide +kernel) (by decide +kernel) (by decide +kernel) (by decide +kernel) (by decide +kernel)
theorem allAtoms_all (ts : List Jvm.Cond) (a : Array Jvm.Value) (st : Jvm.State) : (allAtoms ts).before a st = ts.all (fun c => c.before a st) := by
  induction ts with
  | nil => rfl
  | cons c t ih =>
    show (Jvm.Cond.and c (allAtoms t)).before a st = _
    rw [Jvm.Cond.before_and, ih, List.all_cons]
def words1 : List Jvm.Cond := Jvm.Cond.code x code maxLocals ret :: tables_1
/-- a 'code' word, met by the world's own term for the bytes: nothing is compared byte by byte -/
theorem code_word {y : MethodName} {bytes : ByteArray} {mx : Nat} {rt : Option FieldType} {a : Array Value} {s : State} {m : MethodId} {meth : Method} {c : Code} (h1 : s.methodNamed? y = some m) (h2 : s.vm.method? m = some meth) (h3 : meth.code = some c) (h4 : c.code = bytes)
    (h5 : (c.maxLocals == mx && c.exceptionTable.isEmpty && decide (c.maxStack ≤ mostOperands) && decide (meth.sig.returnType = rt) && !meth.locks && decide (parseMethodDescriptor y.desc = some meth.sig)) = true) : (Jvm.Cond.code y bytes mx rt).before a s = true := by
  simp only [Bool.and_eq_true, beq_iff_eq, Bool.not_eq_true', decide_eq_true_eq] at h5
  obtain ⟨⟨⟨⟨⟨g1, g2⟩, g3⟩, g4⟩, g5⟩, g6⟩ := h5
  simp [Cond.before, Cond.holds, Cond.value, h1, h2, h3, h4, g1, g2, g3, g4, g5, g6]
def isCode : Jvm.Cond → Bool
  | .code _ _ _ _ => true
  | _ => false
theorem all_split {L : List Jvm.Cond} {P : Jvm.Cond → Bool} (h1 : L.all (fun c => isCode c || P c) = true) (h2 : ∀ c ∈ L.filter isCode, P c = true) : L.all P = true := by
  refine List.all_eq_true.mpr fun c hc => ?_
  have h := List.all_eq_true.mp h1 c hc
  rcases Bool.eq_false_or_eq_true (isCode c) with hi | hi
  · exact h2 c (List.mem_filter.mpr ⟨hc, hi⟩)
  · simpa [hi] using h
set_option maxRecDepth 65536 in
theorem w_c0 : (Jvm.Cond.code x code maxLocals ret).before args0 about1 = true := code_word (m := ⟨1, 1⟩) (meth := k1m1) (c := k1c1) (by decide +kernel) rfl rfl rfl (by decide +kernel)
set_option maxRecDepth 65536 in
theorem w_c1 : (Jvm.Cond.code ({ cls := "com/example/damping/damping/mass/MassCurve", name := "defaultDampings", desc := "()[D" } : Jvm.MethodName) prog_22_method_2_code (2 : Nat) (Option.some (Jvm.ClassFile.FieldType.array Jvm.ClassFile.FieldType.double))).before args0 about1 = true := code_word (m := ⟨2, 0⟩) (meth := k2m0) (c := k2c0) (by decide +kernel) rfl rfl rfl (by decide +kernel)
def codes1 : List Jvm.Cond := [Jvm.Cond.code x code maxLocals ret, Jvm.Cond.code ({ cls := "com/example/damping/damping/mass/MassCurve", name := "defaultDampings", desc := "()[D" } : Jvm.MethodName) prog_22_method_2_code (2 : Nat) (Option.some (Jvm.ClassFile.FieldType.array Jvm.ClassFile.FieldType.double))]
set_option maxRecDepth 65536 in
theorem codes_eq : words1.filter isCode = codes1 := rfl
theorem w_codes : ∀ c ∈ words1.filter isCode, c.before args0 about1 = true := by
  rw [codes_eq]
  intro c hc
  simp only [codes1, List.mem_cons, List.not_mem_nil, or_false] at hc
  rcases hc with rfl | rfl
  · exact w_c0
  · exact w_c1
set_option maxRecDepth 65536 in
theorem w_t1 : words1.all (fun c => isCode c || c.before args0 about1) = true := by decide +kernel
theorem w_tables : (allAtoms (Jvm.Cond.code x code maxLocals ret :: tables_1)).before args0 about1 = true := by
  rw [allAtoms_all]
  show words1.all (fun c => c.before args0 about1) = true
  refine all_split ?_ w_codes
  rw [w_t1]
set_option maxRecDepth 65536 in
theorem w_case : (Jvm.Cond.and given_1 narrow_1).before args0 about1 = true := by decide +kernel
theorem w_applies : (headSpec (Jvm.Cond.code x code maxLocals ret :: tables_1) room_1).applies x e0.platform about1 = true :=
  (Spec.applies_iff w_frames).mpr ⟨w_running, w_runnable, w_alone, w_named, w_hears, w_ripe, w_room, w_tables⟩
theorem atStart : AtStart classFile x code maxLocals ret World_1 tables_1 room_1 Calls_1 rest_1 Pre_1 launch0 p0 e0 about1 theMethod args0 below0 :=
  ⟨lists_1, trivial, launch0.admits_env _ _ _, launch0.least_env, fairChoices_fair.cas, fairChoices_fair.clock, w_frames, w_args, w_heap, w_applies, trivial, trivial, w_case⟩
end start1
theorem witness_1 : WitnessClaimed_1 := ⟨start1.p0, start1.e0, start1.about1, start1.theMethod, start1.args0, start1.below0, start1.atStart⟩
end Jvm.Pilot.@@N@@
