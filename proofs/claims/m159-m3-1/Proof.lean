import JvmDerived
import JvmDerived.Pilot.@@N@@Statement
import JvmDerived.Pilot.@@N@@Code
set_option linter.unusedVariables false
set_option linter.unusedSimpArgs false
@@BLOCK:NumsL.lean.txt@@
namespace Jvm.OwnF
open Sem ClassFile Op Lib Jvm.Stand Jvm.Free Jvm.LawKit Jvm.RoadKit Jvm.Free.Fl
section Ret
variable {p : Program} {l : Launch} {e : Env} {R : Room} {s : State} {m : MethodId} {args : Array Value} {below : List Frame} {meth : Method} {c : Code} {T : State} {locs : List Loc} {cells slots : Nat}
theorem retD (X : Stand p l e R s m args below meth c T locs cells slots) (hx : p.tables.exec = Jvm.exec) {pc : Nat} {Ls : Array Slot} {z : UInt64} {rest : List Value} (hret : meth.sig.returnType = some .double) (hd : decode c.code pc = .ok (.dreturn, 1)) {fs : List Frame}
    (hl : ∀ (f : JFrame) (acts : List Action), f.method = m → f.locked = none → f.entered = [] → (doReturn e (T.setTop f) acts (some (.double z))).1 = T.setFrames fs) : Steps p.tables e below (T.setTop (mkF m pc Ls (.double z :: rest))) (T.setFrames fs) :=
  retOut X hx hret rfl (Or.inr (Or.inr (Or.inl ⟨rfl, rfl, z, rfl⟩))) hd hl
theorem retJ (X : Stand p l e R s m args below meth c T locs cells slots) (hx : p.tables.exec = Jvm.exec) {pc : Nat} {Ls : Array Slot} {z : Int64} {rest : List Value} (hret : meth.sig.returnType = some .long) (hd : decode c.code pc = .ok (.lreturn, 1)) {fs : List Frame}
    (hl : ∀ (f : JFrame) (acts : List Action), f.method = m → f.locked = none → f.entered = [] → (doReturn e (T.setTop f) acts (some (.long z))).1 = T.setFrames fs) : Steps p.tables e below (T.setTop (mkF m pc Ls (.long z :: rest))) (T.setFrames fs) :=
  retOut X hx hret rfl (Or.inr (Or.inl ⟨rfl, rfl, z, rfl⟩)) hd hl
theorem retI (X : Stand p l e R s m args below meth c T locs cells slots) (hx : p.tables.exec = Jvm.exec) {pc : Nat} {Ls : Array Slot} {z : Int32} {rest : List Value} (hret : meth.sig.returnType = some .int) (hd : decode c.code pc = .ok (.ireturn, 1)) {fs : List Frame}
    (hl : ∀ (f : JFrame) (acts : List Action), f.method = m → f.locked = none → f.entered = [] → (doReturn e (T.setTop f) acts (some (.int z))).1 = T.setFrames fs) : Steps p.tables e below (T.setTop (mkF m pc Ls (.int z :: rest))) (T.setFrames fs) :=
  retOut X hx hret rfl (Or.inl ⟨rfl, Or.inl rfl, z, rfl⟩) hd hl
theorem retA (X : Stand p l e R s m args below meth c T locs cells slots) (hx : p.tables.exec = Jvm.exec) {pc : Nat} {Ls : Array Slot} {w : Value} {t : FieldType} {rest : List Value} (hret : meth.sig.returnType = some t) (ht : t.isReference = true) (hw : w.isRef = true) (hd : decode c.code pc = .ok (.areturn, 1)) {fs : List Frame}
    (hl : ∀ (f : JFrame) (acts : List Action), f.method = m → f.locked = none → f.entered = [] → (doReturn e (T.setTop f) acts (some w)).1 = T.setFrames fs) : Steps p.tables e below (T.setTop (mkF m pc Ls (w :: rest))) (T.setFrames fs) :=
  retOut X hx hret (by rcases ref_cases hw with rfl | ⟨a, rfl⟩ <;> cases t <;> first | rfl | (cases ht; done)) (Or.inr (Or.inr (Or.inr (Or.inr ⟨rfl, ht, hw⟩)))) hd hl
end Ret
end Jvm.OwnF
namespace Jvm.OwnF
open Jvm.FP.Core
/-- a double's magnitude, in units of 2^-1074 -/
def Zm (a : UInt64) : Nat := zmag b64 (val64 a)
/-- a double's value, in units of 2^-1074 -/
def Zv (a : UInt64) : Int := zval b64 (val64 a)
theorem one64_pow : one64 = 2 ^ 1074 := rfl
theorem fin_form {a : UInt64} (h : DFin a) : ∃ s c q, val64 a = .fin s c q ∧ b64.qmin ≤ q ∧ Zm a = c * 2 ^ (q + 1074).toNat ∧ sgn (val64 a) = s := by
  obtain ⟨s, c, q, e⟩ := h
  have f := val64_fits a
  rw [e] at f
  refine ⟨s, c, q, e, f.2.1, ?_, by rw [e]; rfl⟩
  unfold Zm
  rw [e]
  show c * 2 ^ (q - b64.qmin).toNat = _
  rw [qmin_b64, show q - (-1074) = q + 1074 by omega]
theorem ddiv_form {a b : UInt64} (ha : DFin a) (hb : DFin b) (hz : Zm b ≠ 0) :
    val64 (ddiv a b) = roundRatio b64 (sgn (val64 a) != sgn (val64 b)) (Zm a) (Zm b) 0 := by
  obtain ⟨s, c, q, ea, hq, za, sa⟩ := fin_form ha
  obtain ⟨t, d, r, eb, hr, zb, sb⟩ := fin_form hb
  rw [qmin_b64] at hq hr
  have hd : d ≠ 0 := fun h => hz (by rw [zb, h, Nat.zero_mul])
  rw [val64_ddiv, sa, sb, za, zb, ea, eb]
  show (if d = 0 then _ else roundRatio b64 (s != t) c d (q - r)) = _
  rw [if_neg hd]
  refine roundRatio_congr (Nat.pos_of_ne_zero hd) (Nat.mul_pos (Nat.pos_of_ne_zero hd) (Nat.two_pow_pos _)) ?_
  have e1 : (q - r - 0).toNat + (r + 1074).toNat = (q + 1074).toNat + (0 - (q - r)).toNat := by omega
  calc c * (d * 2 ^ (r + 1074).toNat) * 2 ^ (q - r - 0).toNat = c * d * (2 ^ ((q - r - 0).toNat + (r + 1074).toNat)) := by
        rw [Nat.pow_add]; simp only [Nat.mul_assoc, Nat.mul_comm, Nat.mul_left_comm]
    _ = c * d * (2 ^ ((q + 1074).toNat + (0 - (q - r)).toNat)) := by rw [e1]
    _ = c * 2 ^ (q + 1074).toNat * d * 2 ^ (0 - (q - r)).toNat := by
        rw [Nat.pow_add]; simp only [Nat.mul_assoc, Nat.mul_comm, Nat.mul_left_comm]
theorem inU (A : Nat) : inUnits A 0 (-1074) = A * one64 := rfl
theorem ddiv_ne_nan {a b : UInt64} (ha : DFin a) (hb : DFin b) (hz : Zm b ≠ 0) : val64 (ddiv a b) ≠ .nan := by
  rw [ddiv_form ha hb hz]; exact roundRatio_ne_nan _ _ _ _ _
theorem ddiv_sgn {a b : UInt64} (ha : DFin a) (hb : DFin b) (hz : Zm b ≠ 0) : sgn (val64 (ddiv a b)) = (sgn (val64 a) != sgn (val64 b)) := by
  rw [ddiv_form ha hb hz]; exact sgn_roundRatio _ _ _ _ _
theorem ddiv_le {a b v : UInt64} (ha : DFin a) (hb : DFin b) (hz : Zm b ≠ 0) (hv : val64 v ≠ .nan) (h : Zm a * one64 ≤ Zm v * Zm b) : Zm (ddiv a b) ≤ Zm v := by
  unfold Zm
  rw [ddiv_form ha hb hz]
  refine zmag_roundRatio_le good_b64 (Nat.pos_of_ne_zero hz) (val64_fits v) hv (e0 := -1074) (by decide) (by decide) ?_
  rw [inU, show (b64.qmin - -1074).toNat = 0 by decide, Nat.pow_zero, Nat.mul_one]
  exact h
theorem ddiv_ge {a b v : UInt64} (ha : DFin a) (hb : DFin b) (hz : Zm b ≠ 0) (h : Zm v * Zm b ≤ Zm a * one64) : Zm v ≤ Zm (ddiv a b) := by
  show _ ≤ zmag b64 _
  rw [ddiv_form ha hb hz]
  refine zmag_roundRatio_ge good_b64 (Nat.pos_of_ne_zero hz) (val64_fits v) (e0 := -1074) (by decide) (by decide) ?_
  rw [inU, show (b64.qmin - -1074).toNat = 0 by decide, Nat.pow_zero, Nat.mul_one]
  exact h
theorem fin_iff_Zm {a : UInt64} (h : val64 a ≠ .nan) : DFin a ↔ Zm a < Zm 9218868437227405312 := by
  have hi : val64 9218868437227405312 = .inf false := by decide +kernel
  constructor
  · intro hf
    have := hf.zval_lt
    unfold Zm
    rw [hi]
    exact this
  · intro hl
    cases e : val64 a with
    | nan => exact absurd e h
    | inf s => unfold Zm at hl; rw [hi, e] at hl; exact absurd hl (Nat.lt_irrefl _)
    | fin s c q => exact ⟨s, c, q, e⟩
theorem fin_of_le {a v : UInt64} (h : val64 a ≠ .nan) (hv : DFin v) (hl : Zm a ≤ Zm v) : DFin a :=
  (fin_iff_Zm h).mpr (Nat.lt_of_le_of_lt hl ((fin_iff_Zm hv.ne_nan).mp hv))
theorem Zv_pos {a : UInt64} (hs : sgn (val64 a) = false) : Zv a = (Zm a : Int) := by
  unfold Zv Zm zval signed
  rw [hs]; simp
theorem Zv_neg {a : UInt64} (hs : sgn (val64 a) = true) : Zv a = -(Zm a : Int) := by
  unfold Zv Zm zval signed
  rw [hs]; simp
theorem cmp_Zv {a b : UInt64} (ha : val64 a ≠ .nan) (hb : val64 b ≠ .nan) : dcmp a b = some (compare (Zv a) (Zv b)) := dcmp_zval ha hb
theorem Zm_DInt {i : Int} {a : UInt64} (h : DInt i a) : Zm a = i.natAbs * one64 := by
  have h1 := DInt_zval h
  have h2 : (zval b64 (val64 a)).natAbs = Zm a := by unfold zval Zm; exact natAbs_signed _ _
  rw [← h2, h1, Int.natAbs_mul]; rfl
theorem DInt_fin {i : Int} {a : UInt64} (h : DInt i a) : DFin a := by
  unfold DInt at h
  cases e : val64 a with
  | nan => rw [e] at h; exact h.elim
  | inf s => rw [e] at h; exact h.elim
  | fin s c q => exact ⟨s, c, q, e⟩
theorem DInt_sgn {i : Int} {a : UInt64} (h : DInt i a) (hi : i ≠ 0) : sgn (val64 a) = decide (i < 0) := by
  obtain ⟨s, c, q, e⟩ := DInt_fin h
  unfold DInt at h
  rw [e] at h ⊢
  exact whole_sign h hi
/-- equal magnitudes, equal signs, nonzero: the same double -/
theorem eq_of_Zm {a b : UInt64} (ha : val64 a ≠ .nan) (hb : val64 b ≠ .nan) (hs : sgn (val64 a) = sgn (val64 b)) (hm : Zm a = Zm b) (hz : Zm b ≠ 0) : a = b := by
  refine eq_bits (fun hzz => hz ?_) ?_
  · obtain ⟨s, q, e⟩ := hzz
    unfold Zm; rw [e]; exact Nat.zero_mul _
  · rw [cmp_Zv ha hb]
    have : Zv a = Zv b := by unfold Zv zval; rw [hs]; show signed _ (Zm a) = signed _ (Zm b); rw [hm]
    rw [this, compare_self_int]
theorem pos_gt_zero {a : UInt64} (ha : val64 a ≠ .nan) (hs : sgn (val64 a) = false) (hm : Zm a ≠ 0) : dcmp a 0 = some .gt := by
  rw [cmp_Zv ha (by rw [val64_zero]; nofun), Zv_pos hs, show Zv 0 = 0 from zval64_zero, Option.some.injEq, compare_gt_iff]
  omega
theorem cmp_pos {a b : UInt64} (ha : val64 a ≠ .nan) (hb : val64 b ≠ .nan) (hsa : sgn (val64 a) = false) (hsb : sgn (val64 b) = false) : dcmp a b = some (compare (Zm a : Int) (Zm b : Int)) := by
  rw [cmp_Zv ha hb, Zv_pos hsa, Zv_pos hsb]
theorem le_pos {a b : UInt64} (ha : val64 a ≠ .nan) (hb : val64 b ≠ .nan) (hsa : sgn (val64 a) = false) (hsb : sgn (val64 b) = false) (h : Zm a ≤ Zm b) : dcmp a b = some .lt ∨ dcmp a b = some .eq := by
  rw [cmp_pos ha hb hsa hsb, Option.some.injEq, Option.some.injEq, compare_lt_iff, compare_eq_iff]
  omega
theorem lt_pos {a b : UInt64} (ha : val64 a ≠ .nan) (hb : val64 b ≠ .nan) (hsa : sgn (val64 a) = false) (hsb : sgn (val64 b) = false) (h : Zm a < Zm b) : dcmp a b = some .lt := by
  rw [cmp_pos ha hb hsa hsb, Option.some.injEq, compare_lt_iff]
  omega
theorem dadd_le {a b v : UInt64} (ha : DFin a) (hb : DFin b) (hv : val64 v ≠ .nan) (h : Zv a + Zv b ≤ Zv v) : Zv (dadd a b) ≤ Zv v := by
  unfold Zv; rw [val64_dadd]; exact sum_le good_b64 ha hb (val64_fits a) (val64_fits b) (val64_fits v) hv h
theorem dadd_ge {a b v : UInt64} (ha : DFin a) (hb : DFin b) (hv : val64 v ≠ .nan) (h : Zv v ≤ Zv a + Zv b) : Zv v ≤ Zv (dadd a b) := by
  unfold Zv; rw [val64_dadd]; exact sum_ge good_b64 ha hb (val64_fits a) (val64_fits b) (val64_fits v) hv h
theorem fin_negate {a : UInt64} (h : DFin a) : ∃ s c q, negate (val64 a) = .fin s c q := by
  obtain ⟨s, c, q, e⟩ := h; rw [e]; exact ⟨_, _, _, rfl⟩
theorem dsub_le {a b v : UInt64} (ha : DFin a) (hb : DFin b) (hv : val64 v ≠ .nan) (h : Zv a - Zv b ≤ Zv v) : Zv (dsub a b) ≤ Zv v := by
  unfold Zv; rw [val64_dsub]
  refine sum_le good_b64 ha (fin_negate hb) (val64_fits a) (negate_fits (val64_fits b)) (val64_fits v) hv ?_
  rw [zval_negate]; unfold Zv at h; omega
theorem dsub_ge {a b v : UInt64} (ha : DFin a) (hb : DFin b) (hv : val64 v ≠ .nan) (h : Zv v ≤ Zv a - Zv b) : Zv v ≤ Zv (dsub a b) := by
  unfold Zv; rw [val64_dsub]
  refine sum_ge good_b64 ha (fin_negate hb) (val64_fits a) (negate_fits (val64_fits b)) (val64_fits v) hv ?_
  rw [zval_negate]; unfold Zv at h; omega
theorem dadd_ne_nan {a b : UInt64} (ha : DFin a) (hb : DFin b) : val64 (dadd a b) ≠ .nan := (notNaN_iff _).mp (dadd_out ha.notNaN hb)
theorem dsub_ne_nan {a b : UInt64} (ha : DFin a) (hb : DFin b) : val64 (dsub a b) ≠ .nan := (notNaN_iff _).mp (dsub_out ha.notNaN hb)
theorem dmul_ne_nan {a b : UInt64} (ha : DFin a) (hb : DFin b) : val64 (dmul a b) ≠ .nan := (notNaN_iff _).mp (dmul_out ha hb)
theorem dmul_form {a b : UInt64} (ha : DFin a) (hb : DFin b) : val64 (dmul a b) = roundRatio b64 (sgn (val64 a) != sgn (val64 b)) (Zm a * Zm b) 1 (-2148) := by
  obtain ⟨s, c, q, ea, hq, za, sa⟩ := fin_form ha
  obtain ⟨t, d, r, eb, hr, zb, sb⟩ := fin_form hb
  rw [qmin_b64] at hq hr
  rw [val64_dmul, sa, sb, za, zb, ea, eb]
  show roundRatio b64 (s != t) (c * d) 1 (q + r) = _
  refine roundRatio_congr (by decide) (by decide) ?_
  rw [show (-2148 - (q + r)).toNat = 0 by omega, show (q + r - -2148).toNat = (q + 1074).toNat + (r + 1074).toNat by omega, Nat.pow_add]
  simp only [Nat.mul_assoc, Nat.mul_comm, Nat.mul_left_comm, Nat.pow_zero, Nat.mul_one, Nat.one_mul]
theorem dmul_sgn {a b : UInt64} (ha : DFin a) (hb : DFin b) : sgn (val64 (dmul a b)) = (sgn (val64 a) != sgn (val64 b)) := by
  rw [dmul_form ha hb]; exact sgn_roundRatio _ _ _ _ _
theorem inU2 (A : Nat) : inUnits A (-2148) (-2148) = A := by unfold inUnits; rw [Int.sub_self]; exact Nat.mul_one _
theorem dmul_le {a b v : UInt64} (ha : DFin a) (hb : DFin b) (hv : val64 v ≠ .nan) (h : Zm a * Zm b ≤ Zm v * one64) : Zm (dmul a b) ≤ Zm v := by
  unfold Zm
  rw [dmul_form ha hb]
  refine zmag_roundRatio_le good_b64 (by decide) (val64_fits v) hv (e0 := -2148) (by decide) (by decide) ?_
  rw [inU2, Nat.mul_one, show (b64.qmin - -2148).toNat = 1074 by decide]
  exact h
theorem dmul_ge {a b v : UInt64} (ha : DFin a) (hb : DFin b) (h : Zm v * one64 ≤ Zm a * Zm b) : Zm v ≤ Zm (dmul a b) := by
  show _ ≤ zmag b64 _
  rw [dmul_form ha hb]
  refine zmag_roundRatio_ge good_b64 (by decide) (val64_fits v) (e0 := -2148) (by decide) (by decide) ?_
  rw [inU2, Nat.mul_one, show (b64.qmin - -2148).toNat = 1074 by decide]
  exact h
theorem noNaN {a : UInt64} (h : val64 a ≠ .nan) : Jvm.Free.Fl.NoNaN64 a := Jvm.Free.Fl.val64_no.mpr h
/-- powers of two up to 2^62, as a shift leaves them -/
theorem pow_l2d : ∀ k : Fin 63, val64 (l2d ((1 : Int64) <<< ((Int32.ofNat k.val) &&& 0x3f).toInt64)) = .fin false (2 ^ 52) ((k.val : Int) - 52) := by decide +kernel
theorem i32_of_lt {x : Int32} {n : Nat} (h0 : 0 ≤ x.toInt) (h : x.toInt < n) : ∃ k : Nat, k < n ∧ x = Int32.ofNat k := by
  refine ⟨x.toInt.toNat, by omega, ?_⟩
  apply Int32.toInt_inj.mp
  have := x.toInt_lt
  rw [Int32.toInt_ofNat_of_lt (by omega)]
  omega
theorem shl_l2d {x : Int32} (h0 : 0 ≤ x.toInt) (h : x.toInt < 63) : ∃ k : Nat, k < 63 ∧ x.toInt = k ∧ DFin (l2d ((1 : Int64) <<< (x &&& 0x3f).toInt64)) ∧ sgn (val64 (l2d ((1 : Int64) <<< (x &&& 0x3f).toInt64))) = false ∧ Zm (l2d ((1 : Int64) <<< (x &&& 0x3f).toInt64)) = 2 ^ k * one64 := by
  obtain ⟨k, hk, rfl⟩ := i32_of_lt (n := 63) h0 (by omega)
  have hp := pow_l2d ⟨k, hk⟩
  have hv : (Int32.ofNat k).toInt = k := Int32.toInt_ofNat_of_lt (by omega)
  refine ⟨k, hk, hv, ⟨_, _, _, hp⟩, by rw [hp]; rfl, ?_⟩
  unfold Zm
  rw [hp]
  show 2 ^ 52 * 2 ^ ((k : Int) - 52 - b64.qmin).toNat = _
  rw [qmin_b64, one64_pow, ← Nat.pow_add, ← Nat.pow_add]
  congr 1
  omega
theorem irem_range {x n : Int32} (hx : 0 ≤ x.toInt) (hn : 0 < n.toInt) : 0 ≤ (x - x / n * n).toInt ∧ (x - x / n * n).toInt < n.toInt := by
  have h1 : x - x / n * n = x % n := irem_eq_mod x n
  rw [h1, Int32.toInt_mod]
  exact ⟨Int.tmod_nonneg _ hx, by have := Int.tmod_lt_of_pos x.toInt hn; omega⟩
theorem and_bounds (x : Int32) {m : Int32} (hm : 0 ≤ m.toInt) : 0 ≤ (x &&& m).toInt ∧ (x &&& m).toInt ≤ m.toInt := by
  have h1 : (x &&& m).toInt = (x.toBitVec &&& m.toBitVec).toInt := rfl
  have h2 : m.toInt = m.toBitVec.toInt := rfl
  rw [h2, BitVec.toInt_eq_toNat_cond] at hm
  rw [h1, h2, BitVec.toInt_eq_toNat_cond, BitVec.toInt_eq_toNat_cond, BitVec.toNat_and]
  have h3 := Nat.and_le_right (n := x.toBitVec.toNat) (m := m.toBitVec.toNat)
  have h4 := m.toBitVec.isLt
  split at hm
  · rw [if_pos (by omega), if_pos (by omega)]; omega
  · omega
theorem and_range {x : Int32} : 0 ≤ (x &&& 2147483647).toInt := (and_bounds x (by decide)).1
theorem Zm_one : Zm 4607182418800017408 = one64 := by unfold Zm; decide +kernel
theorem fin_one : DFin 4607182418800017408 := ⟨false, 2 ^ 52, -52, by decide +kernel⟩
theorem sgn_one : sgn (val64 4607182418800017408) = false := by decide +kernel
theorem pow_split (m n : Nat) (h : m + n = 1074) : 2 ^ m * 2 ^ n = one64 := by rw [← Nat.pow_add, h]; rfl
theorem i2d_fin' (x : Int32) : DFin (i2d x) := DInt_fin (i2d_int x)
theorem i2d_Zm (x : Int32) : Zm (i2d x) = x.toInt.natAbs * one64 := Zm_DInt (i2d_int x)
theorem i2d_sgn {x : Int32} (h : 0 < x.toInt) : sgn (val64 (i2d x)) = false := by rw [DInt_sgn (i2d_int x) (by omega)]; simp; omega
theorem Zm_ne {a : UInt64} {n : Nat} (h : Zm a = n * one64) (hn : n ≠ 0) : Zm a ≠ 0 := by
  rw [h]; exact Nat.mul_ne_zero hn (by have := one64_pos; omega)
theorem if_l_gt {cd : Jvm.ClassFile.Cond} {a b : UInt64} {r : Bool} (h : Jvm.FP.dcmp a b = some .gt) (hr : Jvm.Op.ifCond.holds cd 1 = r) : Jvm.Op.ifCond.holds cd (Jvm.FP.cmpInt (-1) (Jvm.FP.dcmp a b)) = r := by rw [h]; exact hr
theorem if_l_eq {cd : Jvm.ClassFile.Cond} {a b : UInt64} {r : Bool} (h : Jvm.FP.dcmp a b = some .eq) (hr : Jvm.Op.ifCond.holds cd 0 = r) : Jvm.Op.ifCond.holds cd (Jvm.FP.cmpInt (-1) (Jvm.FP.dcmp a b)) = r := by rw [h]; exact hr
theorem if_l_lt {cd : Jvm.ClassFile.Cond} {a b : UInt64} {r : Bool} (h : Jvm.FP.dcmp a b = some .lt) (hr : Jvm.Op.ifCond.holds cd (-1) = r) : Jvm.Op.ifCond.holds cd (Jvm.FP.cmpInt (-1) (Jvm.FP.dcmp a b)) = r := by rw [h]; exact hr
theorem if_g_gt {cd : Jvm.ClassFile.Cond} {a b : UInt64} {r : Bool} (h : Jvm.FP.dcmp a b = some .gt) (hr : Jvm.Op.ifCond.holds cd 1 = r) : Jvm.Op.ifCond.holds cd (Jvm.FP.cmpInt 1 (Jvm.FP.dcmp a b)) = r := by rw [h]; exact hr
theorem if_g_eq {cd : Jvm.ClassFile.Cond} {a b : UInt64} {r : Bool} (h : Jvm.FP.dcmp a b = some .eq) (hr : Jvm.Op.ifCond.holds cd 0 = r) : Jvm.Op.ifCond.holds cd (Jvm.FP.cmpInt 1 (Jvm.FP.dcmp a b)) = r := by rw [h]; exact hr
theorem if_g_lt {cd : Jvm.ClassFile.Cond} {a b : UInt64} {r : Bool} (h : Jvm.FP.dcmp a b = some .lt) (hr : Jvm.Op.ifCond.holds cd (-1) = r) : Jvm.Op.ifCond.holds cd (Jvm.FP.cmpInt 1 (Jvm.FP.dcmp a b)) = r := by rw [h]; exact hr
theorem cmpl_gt {a b : UInt64} (h : Jvm.FP.dcmp a b = some .gt) : Jvm.FP.cmpInt (-1) (Jvm.FP.dcmp a b) = 1 := by rw [h]; rfl
theorem cmpg_gt {a b : UInt64} (h : Jvm.FP.dcmp a b = some .gt) : Jvm.FP.cmpInt 1 (Jvm.FP.dcmp a b) = 1 := by rw [h]; rfl
theorem cmpl_lt {a b : UInt64} (h : Jvm.FP.dcmp a b = some .lt) : Jvm.FP.cmpInt (-1) (Jvm.FP.dcmp a b) = -1 := by rw [h]; rfl
theorem cmpg_lt {a b : UInt64} (h : Jvm.FP.dcmp a b = some .lt) : Jvm.FP.cmpInt 1 (Jvm.FP.dcmp a b) = -1 := by rw [h]; rfl
theorem cmpl_eq {a b : UInt64} (h : Jvm.FP.dcmp a b = some .eq) : Jvm.FP.cmpInt (-1) (Jvm.FP.dcmp a b) = 0 := by rw [h]; rfl
theorem cmpg_eq {a b : UInt64} (h : Jvm.FP.dcmp a b = some .eq) : Jvm.FP.cmpInt 1 (Jvm.FP.dcmp a b) = 0 := by rw [h]; rfl
end Jvm.OwnF
namespace Jvm.Pilot.@@N@@
open Jvm Jvm.ClassFile Sem Op Lib Jvm.Free Jvm.Free.Fl Jvm.Stand Jvm.LawKit Jvm.RoadKit Bundle Jvm.Pilot.@@N@@.Jvm.D
def QP (r : Option Value) (h0 : Heap) (n0 : Nat) (v : Option Value) (h : Heap) (L : List Loc) : Prop := v = r ∧ Fr n0 L ∧ h = h0
def QL (n0 : Nat) (v : Option Value) (h : Heap) (L : List Loc) : Prop := v = some (.int 1) ∧ Fr n0 L
theorem d1_0 : decode prog_31_method_6_code 0 = .ok (.dload_n 0, 1) := by decide +kernel
theorem d1_1 : decode prog_31_method_6_code 1 = .ok (.dconst 0, 1) := by decide +kernel
theorem d1_2 : decode prog_31_method_6_code 2 = .ok (.dcmp .l, 1) := by decide +kernel
theorem d1_3 : decode prog_31_method_6_code 3 = .ok (.ifCond .le 9, 3) := by decide +kernel
theorem d1_6 : decode prog_31_method_6_code 6 = .ok (.dload_n 0, 1) := by decide +kernel
theorem d1_7 : decode prog_31_method_6_code 7 = .ok (.dconst 1, 1) := by decide +kernel
theorem d1_8 : decode prog_31_method_6_code 8 = .ok (.dcmp .g, 1) := by decide +kernel
theorem d1_9 : decode prog_31_method_6_code 9 = .ok (.ifCond .lt 17, 3) := by decide +kernel
theorem d1_26 : decode prog_31_method_6_code 26 = .ok (.return_, 1) := by decide +kernel
theorem pn_0 : plainName "com/example/damping/damping/rank/PageRank" = true := by first | (simp [plainName, overriddenIn]; done) | decide +kernel
theorem ef_rmC (m : MethodId) (x0 : UInt64) : entryFrame m #[(.double x0)] 2 = mkF m 0 #[.val (.double x0), .second] [] := by first | (simp [entryFrame, mkF, argsToLocals, Value.category]; done) | rfl
set_option maxRecDepth 65536 in
set_option maxHeartbeats 40000000 in
theorem rmC (l : Launch) (Z : State) (a0 : Array Value) (hw : ∀ d ∈ tables_1, d.before a0 Z = true) (ws : List Jvm.Cond)  (p0 : UInt64) (h0 : Heap) (n0 : Nat) (Z0 : n0 ≤ h0.size) 
    (b3 : ifCond.holds .le (FP.cmpInt (-1) (FP.dcmp p0 FP.dconst0)) = false)
    (b9 : ifCond.holds .lt (FP.cmpInt 1 (FP.dcmp p0 FP.dconst1)) = true) :
    MetFree l (⟨"com/example/damping/damping/rank/PageRank", "checkDamping", "(D)V"⟩ : MethodName) (head1 (Jvm.Cond.code (⟨"com/example/damping/damping/rank/PageRank", "checkDamping", "(D)V"⟩ : MethodName) prog_31_method_6_code 2 none :: ws) ({ frames := 0, cells := 0, slots := 0, locals := 0 } : Room)) (fun a U => a = #[(.double p0)] ∧ Z.Warmed39 U.vm ∧ U.heap = h0) (fun _ _ _ _ _ => True) (fun _ U o U' => ∃ v L, o = .returned v ∧ QP none h0 n0 v U'.heap L ∧ FrameEnd U o U' L ({ frames := 0, cells := 0, slots := 0, locals := 0 } : Room).cells ({ frames := 0, cells := 0, slots := 0, locals := 0 } : Room).slots) := by
  refine MetFree.of_bodySF (plainFor_of_name pn_0) hisR ?_
  intro p e s m args below meth c s₁ Bd hml0 hP hK
  obtain ⟨rfl, hZ, hh⟩ := hP
  have hx := Bd.exec
  have hby := Bd.bytes
  have hml : c.maxLocals = 2 := hml0
  have hown : s.vm.findClass "com/example/damping/damping/rank/PageRank" = some m.cls := findClass_of_methodNamed Bd.named
  have hnm := (name_of_methodNamed Bd.named Bd.method).1
  have X0 : Stand p l e ({ frames := 0, cells := 0, slots := 0, locals := 0 } : Room) s m #[(.double p0)] below meth c s₁ [] 0 0 := Stand.of_body Bd
  have e0 : s₁.heap = h0 := by rw [← hh, Bd.state]; rfl
  have N0 := Fr.nil n0
  have pre0 : ∀ t, Steps p.tables e below (s₁.setTop (mkF m 0 #[.val (.double p0), .second] [])) t → Steps p.tables e below (s₁.setTop (entryFrame m #[(.double p0)] 2)) t := fun t k => castTop (ef_rmC m p0) k
  obtain ⟨fs, hr, hrun, hended, hW, hsame⟩ := X0.leave (v := none) (fun _ => rfl)
  refine ⟨_, _, pre0 _ ?_, hrun, hended, _, _, rfl, ?_, ⟨_, rfl⟩, hW, hsame.mono (Nat.le_of_ble_eq_true rfl) (Nat.le_of_ble_eq_true rfl)⟩
  · show Steps p.tables e below (s₁.setTop (mkF m 0 #[.val (.double p0), .second] [])) _
    refine XS.dloadN X0.here hx rfl (hb hby d1_0) rfl ?_
    show Steps p.tables e below (s₁.setTop (mkF m 1 #[.val (.double p0), .second] [(.double p0)])) _
    refine XS.dconst0 X0.here hx rfl (hb hby d1_1) rfl ?_
    show Steps p.tables e below (s₁.setTop (mkF m 2 #[.val (.double p0), .second] [(.double FP.dconst0), (.double p0)])) _
    refine XS.dcmpS X0.here hx rfl (hb hby d1_2) rfl (cmpV_l _) ?_
    show Steps p.tables e below (s₁.setTop (mkF m 3 #[.val (.double p0), .second] [(.int (FP.cmpInt (-1) (FP.dcmp p0 FP.dconst0)))])) _
    refine XS.ifNo X0.here hx rfl (hb hby d1_3) rfl b3 ?_
    show Steps p.tables e below (s₁.setTop (mkF m 6 #[.val (.double p0), .second] [])) _
    refine XS.dloadN X0.here hx rfl (hb hby d1_6) rfl ?_
    show Steps p.tables e below (s₁.setTop (mkF m 7 #[.val (.double p0), .second] [(.double p0)])) _
    refine XS.dconst1 X0.here hx rfl (hb hby d1_7) rfl ?_
    show Steps p.tables e below (s₁.setTop (mkF m 8 #[.val (.double p0), .second] [(.double FP.dconst1), (.double p0)])) _
    refine XS.dcmpS X0.here hx rfl (hb hby d1_8) rfl (cmpV_g _) ?_
    show Steps p.tables e below (s₁.setTop (mkF m 9 #[.val (.double p0), .second] [(.int (FP.cmpInt 1 (FP.dcmp p0 FP.dconst1)))])) _
    refine XS.ifYes X0.here hx rfl (pc0 := 9) (pc' := 26) rfl (hb hby d1_9) rfl b9 (by decide) (by decide) ?_
    show Steps p.tables e below (s₁.setTop (mkF m 26 #[.val (.double p0), .second] [])) _
    exact X0.returnOut hx Bd.returns (hb hby d1_26) hr
  · show QP none h0 n0 _ s₁.heap _
    rw [e0]
    exact ⟨rfl, N0, rfl⟩
theorem pd_0 : parseMethodDescriptor "(D)V" = some ⟨[.double], none⟩ := by decide +kernel
theorem pn_1 : plainName "com/example/damping/damping/rank/PageRankCheckDampingPinLaw" = true := by first | (simp [plainName, overriddenIn]; done) | decide +kernel
theorem ef_rm0_0 (m : MethodId) (x0 : Int32) (x1 : Int32) (x2 : Int32) : entryFrame m #[(.int x0), (.int x1), (.int x2)] maxLocals = mkF m 0 #[.val (.int x0), .val (.int x1), .val (.int x2), .unset, .unset, .unset, .unset] [] := by first | (simp [entryFrame, mkF, argsToLocals, Value.category, maxLocals]; done) | rfl
set_option maxRecDepth 65536 in
set_option maxHeartbeats 40000000 in
theorem rm0_0 (l : Launch) (Z : State) (a0 : Array Value) (hw : ∀ d ∈ tables_1, d.before a0 Z = true) (ws : List Jvm.Cond)  (p0 : Int32) (p1 : Int32) (p2 : Int32) (h0 : Heap) (n0 : Nat) (Z0 : n0 ≤ h0.size) 
    (b7 : ifCond.holds .ne (p2 &&& (3 : Int32)) = false)
    (c1 : ifCond.holds .le (FP.cmpInt (-1) (FP.dcmp (1 : UInt64) FP.dconst0)) = false)
    (c2 : ifCond.holds .lt (FP.cmpInt 1 (FP.dcmp (1 : UInt64) FP.dconst1)) = true)
    (b80 : ifCond.holds .le (FP.cmpInt (-1) (FP.dcmp (1 : UInt64) FP.dconst0)) = false)
    (b86 : ifCond.holds .ge (FP.cmpInt 1 (FP.dcmp (1 : UInt64) FP.dconst1)) = false) :
    MetFree l x (head1 (Jvm.Cond.code x code maxLocals ret :: ws) room_1) (fun a U => a = #[(.int p0), (.int p1), (.int p2)] ∧ Z.Warmed39 U.vm ∧ U.heap = h0) (fun _ _ _ _ _ => True) (fun _ U o U' => ∃ v L, o = .returned v ∧ QL n0 v U'.heap L ∧ FrameEnd U o U' L 0 0) := by
  refine MetFree.of_bodySF (plainFor_of_name pn_1) hisR ?_
  intro p e s m args below meth c s₁ Bd hml0 hP hK
  obtain ⟨rfl, hZ, hh⟩ := hP
  have hx := Bd.exec
  have hby := Bd.bytes
  have hml : c.maxLocals = 7 := hml0
  have hown : s.vm.findClass "com/example/damping/damping/rank/PageRankCheckDampingPinLaw" = some m.cls := findClass_of_methodNamed Bd.named
  have hnm := (name_of_methodNamed Bd.named Bd.method).1
  have X0 : Stand p l e room_1 s m #[(.int p0), (.int p1), (.int p2)] below meth c s₁ [] 0 0 := Stand.of_body Bd
  have e0 : s₁.heap = h0 := by rw [← hh, Bd.state]; rfl
  have N0 := Fr.nil n0
  have pre0 : ∀ t, Steps p.tables e below (s₁.setTop (mkF m 0 #[.val (.int p0), .val (.int p1), .val (.int p2), .unset, .unset, .unset, .unset] [])) t → Steps p.tables e below (s₁.setTop (entryFrame m #[(.int p0), (.int p1), (.int p2)] maxLocals)) t := fun t k => castTop (ef_rm0_0 m p0 p1 p2) k
  obtain ⟨_, _, ⟨T1, L1, k1, n1⟩, -, X1, ⟨Lc1, hQ1, l1, y1, z1⟩, st1⟩ := Jvm.LawKit.callS X0 hx (y := (⟨"com/example/damping/damping/rank/PageRank", "checkDamping", "(D)V"⟩ : MethodName)) hown (mvT hZ (hw _ (List.mem_of_getElem? (i := 2) rfl))) (mvT hZ (hw _ (List.mem_of_getElem? (i := 3) rfl))) (mvT hZ (hw _ (List.mem_of_getElem? (i := 4) rfl))) (mvT hZ (hw _ (List.mem_of_getElem? (i := 5) rfl))) (by decide) (backOf (W := 0) (rmC l Z a0 hw [] (1 : UInt64) h0 n0 Z0 c1 c2) hZ (hw _ (List.mem_of_getElem? (i := 5) rfl)) (hw _ (List.mem_of_getElem? (i := 4) rfl)) (by decide) (by decide)) (g := (mkF m 74 #[.val (.int p0), .val (.int p1), .val (.int p2), .val (.double (1 : UInt64)), .second, .val (.int (p2 &&& (3 : Int32))), .unset] [(.double (1 : UInt64))])) rfl (by rw [hml]; rfl) (argsL := [(.double (1 : UInt64))]) (rest := []) (lenOf pd_0 rfl) rfl (by show 2 * 0 + _ ≤ _; exact Nat.le_of_eq rfl) (hb hby at_74) (fun _ _ => ⟨rfl, e0, (by decide : 0 + 0 ≤ _), (by decide : 0 + 0 ≤ _)⟩)
  dsimp only [Pt.U, Pt.locs, Pt.cells, Pt.slots] at X1 l1 y1 z1 st1 hQ1
  subst l1 y1 z1
  obtain ⟨rfl, N1a, e1⟩ := hQ1
  have N1 := Fr.app N0 N1a
  obtain ⟨fs, hr, hrun, hended, hW, hsame⟩ := X1.leave (v := some (.int (1 : Int32))) (fun h => by rw [Bd.returns] at h; cases h)
  refine ⟨_, _, pre0 _ ?_, hrun, hended, _, _, rfl, ?_, ⟨_, rfl⟩, hW, hsame.mono (Nat.le_of_ble_eq_true rfl) (Nat.le_of_ble_eq_true rfl)⟩
  · show Steps p.tables e below (s₁.setTop (mkF m 0 #[.val (.int p0), .val (.int p1), .val (.int p2), .unset, .unset, .unset, .unset] [])) _
    refine XS.iloadN X0.here hx rfl (hb hby at_0) rfl ?_
    show Steps p.tables e below (s₁.setTop (mkF m 1 #[.val (.int p0), .val (.int p1), .val (.int p2), .unset, .unset, .unset, .unset] [(.int p2)])) _
    refine XS.iconst X0.here hx rfl (hb hby at_1) ?_
    show Steps p.tables e below (s₁.setTop (mkF m 2 #[.val (.int p0), .val (.int p1), .val (.int p2), .unset, .unset, .unset, .unset] [(.int (3 : Int32)), (.int p2)])) _
    refine XS.iand X0.here hx rfl (hb hby at_2) rfl ?_
    show Steps p.tables e below (s₁.setTop (mkF m 3 #[.val (.int p0), .val (.int p1), .val (.int p2), .unset, .unset, .unset, .unset] [(.int (p2 &&& (3 : Int32)))])) _
    refine XS.istore X0.here hx rfl (hb hby at_3) rfl (l' := #[.val (.int p0), .val (.int p1), .val (.int p2), .unset, .unset, .val (.int (p2 &&& (3 : Int32))), .unset]) rfl ?_
    show Steps p.tables e below (s₁.setTop (mkF m 5 #[.val (.int p0), .val (.int p1), .val (.int p2), .unset, .unset, .val (.int (p2 &&& (3 : Int32))), .unset] [])) _
    refine XS.iload X0.here hx rfl (hb hby at_5) rfl ?_
    show Steps p.tables e below (s₁.setTop (mkF m 7 #[.val (.int p0), .val (.int p1), .val (.int p2), .unset, .unset, .val (.int (p2 &&& (3 : Int32))), .unset] [(.int (p2 &&& (3 : Int32)))])) _
    refine XS.ifNo X0.here hx rfl (hb hby at_7) rfl b7 ?_
    show Steps p.tables e below (s₁.setTop (mkF m 10 #[.val (.int p0), .val (.int p1), .val (.int p2), .unset, .unset, .val (.int (p2 &&& (3 : Int32))), .unset] [])) _
    refine X0.ldc2DoubleC hx hown (mvT hZ (hw _ (List.mem_of_getElem? (i := 7) rfl))) (g := (mkF m 10 #[.val (.int p0), .val (.int p1), .val (.int p2), .unset, .unset, .val (.int (p2 &&& (3 : Int32))), .unset] [])) rfl (hb hby at_10) _ ?_
    show Steps p.tables e below (s₁.setTop (mkF m 13 #[.val (.int p0), .val (.int p1), .val (.int p2), .unset, .unset, .val (.int (p2 &&& (3 : Int32))), .unset] [(.double (1 : UInt64))])) _
    refine XS.dstoreN X0.here hx rfl (hb hby at_13) rfl (l' := #[.val (.int p0), .val (.int p1), .val (.int p2), .val (.double (1 : UInt64)), .second, .val (.int (p2 &&& (3 : Int32))), .unset]) rfl ?_
    show Steps p.tables e below (s₁.setTop (mkF m 14 #[.val (.int p0), .val (.int p1), .val (.int p2), .val (.double (1 : UInt64)), .second, .val (.int (p2 &&& (3 : Int32))), .unset] [])) _
    refine XS.goto X0.here hx rfl (pc0 := 14) (pc' := 73) rfl (hb hby at_14) (by decide) (by decide) ?_
    show Steps p.tables e below (s₁.setTop (mkF m 73 #[.val (.int p0), .val (.int p1), .val (.int p2), .val (.double (1 : UInt64)), .second, .val (.int (p2 &&& (3 : Int32))), .unset] [])) _
    refine XS.dloadN X0.here hx rfl (hb hby at_73) rfl ?_
    show Steps p.tables e below (s₁.setTop (mkF m 74 #[.val (.int p0), .val (.int p1), .val (.int p2), .val (.double (1 : UInt64)), .second, .val (.int (p2 &&& (3 : Int32))), .unset] [(.double (1 : UInt64))])) _
    refine st1 _ ?_
    show Steps p.tables e below (T1.setTop (mkF m 77 #[.val (.int p0), .val (.int p1), .val (.int p2), .val (.double (1 : UInt64)), .second, .val (.int (p2 &&& (3 : Int32))), .unset] [])) _
    refine XS.dloadN X1.here hx rfl (hb hby at_77) rfl ?_
    show Steps p.tables e below (T1.setTop (mkF m 78 #[.val (.int p0), .val (.int p1), .val (.int p2), .val (.double (1 : UInt64)), .second, .val (.int (p2 &&& (3 : Int32))), .unset] [(.double (1 : UInt64))])) _
    refine XS.dconst0 X1.here hx rfl (hb hby at_78) rfl ?_
    show Steps p.tables e below (T1.setTop (mkF m 79 #[.val (.int p0), .val (.int p1), .val (.int p2), .val (.double (1 : UInt64)), .second, .val (.int (p2 &&& (3 : Int32))), .unset] [(.double FP.dconst0), (.double (1 : UInt64))])) _
    refine XS.dcmpS X1.here hx rfl (hb hby at_79) rfl (cmpV_l _) ?_
    show Steps p.tables e below (T1.setTop (mkF m 80 #[.val (.int p0), .val (.int p1), .val (.int p2), .val (.double (1 : UInt64)), .second, .val (.int (p2 &&& (3 : Int32))), .unset] [(.int (FP.cmpInt (-1) (FP.dcmp (1 : UInt64) FP.dconst0)))])) _
    refine XS.ifNo X1.here hx rfl (hb hby at_80) rfl b80 ?_
    show Steps p.tables e below (T1.setTop (mkF m 83 #[.val (.int p0), .val (.int p1), .val (.int p2), .val (.double (1 : UInt64)), .second, .val (.int (p2 &&& (3 : Int32))), .unset] [])) _
    refine XS.dloadN X1.here hx rfl (hb hby at_83) rfl ?_
    show Steps p.tables e below (T1.setTop (mkF m 84 #[.val (.int p0), .val (.int p1), .val (.int p2), .val (.double (1 : UInt64)), .second, .val (.int (p2 &&& (3 : Int32))), .unset] [(.double (1 : UInt64))])) _
    refine XS.dconst1 X1.here hx rfl (hb hby at_84) rfl ?_
    show Steps p.tables e below (T1.setTop (mkF m 85 #[.val (.int p0), .val (.int p1), .val (.int p2), .val (.double (1 : UInt64)), .second, .val (.int (p2 &&& (3 : Int32))), .unset] [(.double FP.dconst1), (.double (1 : UInt64))])) _
    refine XS.dcmpS X1.here hx rfl (hb hby at_85) rfl (cmpV_g _) ?_
    show Steps p.tables e below (T1.setTop (mkF m 86 #[.val (.int p0), .val (.int p1), .val (.int p2), .val (.double (1 : UInt64)), .second, .val (.int (p2 &&& (3 : Int32))), .unset] [(.int (FP.cmpInt 1 (FP.dcmp (1 : UInt64) FP.dconst1)))])) _
    refine XS.ifNo X1.here hx rfl (hb hby at_86) rfl b86 ?_
    show Steps p.tables e below (T1.setTop (mkF m 89 #[.val (.int p0), .val (.int p1), .val (.int p2), .val (.double (1 : UInt64)), .second, .val (.int (p2 &&& (3 : Int32))), .unset] [])) _
    refine XS.iconst X1.here hx rfl (hb hby at_89) ?_
    show Steps p.tables e below (T1.setTop (mkF m 90 #[.val (.int p0), .val (.int p1), .val (.int p2), .val (.double (1 : UInt64)), .second, .val (.int (p2 &&& (3 : Int32))), .unset] [(.int (1 : Int32))])) _
    refine XS.goto X1.here hx rfl (pc0 := 90) (pc' := 94) rfl (hb hby at_90) (by decide) (by decide) ?_
    show Steps p.tables e below (T1.setTop (mkF m 94 #[.val (.int p0), .val (.int p1), .val (.int p2), .val (.double (1 : UInt64)), .second, .val (.int (p2 &&& (3 : Int32))), .unset] [(.int (1 : Int32))])) _
    exact retN X1 hx (t := .boolean) Bd.returns (by simp) (hb hby at_94) hr
  · show QL n0 _ T1.heap _
    exact ⟨rfl, N1⟩
theorem ef_rm0_1 (m : MethodId) (x0 : Int32) (x1 : Int32) (x2 : Int32) : entryFrame m #[(.int x0), (.int x1), (.int x2)] maxLocals = mkF m 0 #[.val (.int x0), .val (.int x1), .val (.int x2), .unset, .unset, .unset, .unset] [] := by first | (simp [entryFrame, mkF, argsToLocals, Value.category, maxLocals]; done) | rfl
set_option maxRecDepth 65536 in
set_option maxHeartbeats 40000000 in
theorem rm0_1 (l : Launch) (Z : State) (a0 : Array Value) (hw : ∀ d ∈ tables_1, d.before a0 Z = true) (ws : List Jvm.Cond)  (p0 : Int32) (p1 : Int32) (p2 : Int32) (h0 : Heap) (n0 : Nat) (Z0 : n0 ≤ h0.size) 
    (b7 : ifCond.holds .ne (p2 &&& (3 : Int32)) = true)
    (b20 : if_icmp.holds .ne (p2 &&& (3 : Int32)) (1 : Int32) = false)
    (c1 : ifCond.holds .le (FP.cmpInt (-1) (FP.dcmp (4607182418800017407 : UInt64) FP.dconst0)) = false)
    (c2 : ifCond.holds .lt (FP.cmpInt 1 (FP.dcmp (4607182418800017407 : UInt64) FP.dconst1)) = true)
    (b80 : ifCond.holds .le (FP.cmpInt (-1) (FP.dcmp (4607182418800017407 : UInt64) FP.dconst0)) = false)
    (b86 : ifCond.holds .ge (FP.cmpInt 1 (FP.dcmp (4607182418800017407 : UInt64) FP.dconst1)) = false) :
    MetFree l x (head1 (Jvm.Cond.code x code maxLocals ret :: ws) room_1) (fun a U => a = #[(.int p0), (.int p1), (.int p2)] ∧ Z.Warmed39 U.vm ∧ U.heap = h0) (fun _ _ _ _ _ => True) (fun _ U o U' => ∃ v L, o = .returned v ∧ QL n0 v U'.heap L ∧ FrameEnd U o U' L 0 0) := by
  refine MetFree.of_bodySF (plainFor_of_name pn_1) hisR ?_
  intro p e s m args below meth c s₁ Bd hml0 hP hK
  obtain ⟨rfl, hZ, hh⟩ := hP
  have hx := Bd.exec
  have hby := Bd.bytes
  have hml : c.maxLocals = 7 := hml0
  have hown : s.vm.findClass "com/example/damping/damping/rank/PageRankCheckDampingPinLaw" = some m.cls := findClass_of_methodNamed Bd.named
  have hnm := (name_of_methodNamed Bd.named Bd.method).1
  have X0 : Stand p l e room_1 s m #[(.int p0), (.int p1), (.int p2)] below meth c s₁ [] 0 0 := Stand.of_body Bd
  have e0 : s₁.heap = h0 := by rw [← hh, Bd.state]; rfl
  have N0 := Fr.nil n0
  have pre0 : ∀ t, Steps p.tables e below (s₁.setTop (mkF m 0 #[.val (.int p0), .val (.int p1), .val (.int p2), .unset, .unset, .unset, .unset] [])) t → Steps p.tables e below (s₁.setTop (entryFrame m #[(.int p0), (.int p1), (.int p2)] maxLocals)) t := fun t k => castTop (ef_rm0_1 m p0 p1 p2) k
  obtain ⟨_, _, ⟨T1, L1, k1, n1⟩, -, X1, ⟨Lc1, hQ1, l1, y1, z1⟩, st1⟩ := Jvm.LawKit.callS X0 hx (y := (⟨"com/example/damping/damping/rank/PageRank", "checkDamping", "(D)V"⟩ : MethodName)) hown (mvT hZ (hw _ (List.mem_of_getElem? (i := 2) rfl))) (mvT hZ (hw _ (List.mem_of_getElem? (i := 3) rfl))) (mvT hZ (hw _ (List.mem_of_getElem? (i := 4) rfl))) (mvT hZ (hw _ (List.mem_of_getElem? (i := 5) rfl))) (by decide) (backOf (W := 0) (rmC l Z a0 hw [] (4607182418800017407 : UInt64) h0 n0 Z0 c1 c2) hZ (hw _ (List.mem_of_getElem? (i := 5) rfl)) (hw _ (List.mem_of_getElem? (i := 4) rfl)) (by decide) (by decide)) (g := (mkF m 74 #[.val (.int p0), .val (.int p1), .val (.int p2), .val (.double (4607182418800017407 : UInt64)), .second, .val (.int (p2 &&& (3 : Int32))), .unset] [(.double (4607182418800017407 : UInt64))])) rfl (by rw [hml]; rfl) (argsL := [(.double (4607182418800017407 : UInt64))]) (rest := []) (lenOf pd_0 rfl) rfl (by show 2 * 0 + _ ≤ _; exact Nat.le_of_eq rfl) (hb hby at_74) (fun _ _ => ⟨rfl, e0, (by decide : 0 + 0 ≤ _), (by decide : 0 + 0 ≤ _)⟩)
  dsimp only [Pt.U, Pt.locs, Pt.cells, Pt.slots] at X1 l1 y1 z1 st1 hQ1
  subst l1 y1 z1
  obtain ⟨rfl, N1a, e1⟩ := hQ1
  have N1 := Fr.app N0 N1a
  obtain ⟨fs, hr, hrun, hended, hW, hsame⟩ := X1.leave (v := some (.int (1 : Int32))) (fun h => by rw [Bd.returns] at h; cases h)
  refine ⟨_, _, pre0 _ ?_, hrun, hended, _, _, rfl, ?_, ⟨_, rfl⟩, hW, hsame.mono (Nat.le_of_ble_eq_true rfl) (Nat.le_of_ble_eq_true rfl)⟩
  · show Steps p.tables e below (s₁.setTop (mkF m 0 #[.val (.int p0), .val (.int p1), .val (.int p2), .unset, .unset, .unset, .unset] [])) _
    refine XS.iloadN X0.here hx rfl (hb hby at_0) rfl ?_
    show Steps p.tables e below (s₁.setTop (mkF m 1 #[.val (.int p0), .val (.int p1), .val (.int p2), .unset, .unset, .unset, .unset] [(.int p2)])) _
    refine XS.iconst X0.here hx rfl (hb hby at_1) ?_
    show Steps p.tables e below (s₁.setTop (mkF m 2 #[.val (.int p0), .val (.int p1), .val (.int p2), .unset, .unset, .unset, .unset] [(.int (3 : Int32)), (.int p2)])) _
    refine XS.iand X0.here hx rfl (hb hby at_2) rfl ?_
    show Steps p.tables e below (s₁.setTop (mkF m 3 #[.val (.int p0), .val (.int p1), .val (.int p2), .unset, .unset, .unset, .unset] [(.int (p2 &&& (3 : Int32)))])) _
    refine XS.istore X0.here hx rfl (hb hby at_3) rfl (l' := #[.val (.int p0), .val (.int p1), .val (.int p2), .unset, .unset, .val (.int (p2 &&& (3 : Int32))), .unset]) rfl ?_
    show Steps p.tables e below (s₁.setTop (mkF m 5 #[.val (.int p0), .val (.int p1), .val (.int p2), .unset, .unset, .val (.int (p2 &&& (3 : Int32))), .unset] [])) _
    refine XS.iload X0.here hx rfl (hb hby at_5) rfl ?_
    show Steps p.tables e below (s₁.setTop (mkF m 7 #[.val (.int p0), .val (.int p1), .val (.int p2), .unset, .unset, .val (.int (p2 &&& (3 : Int32))), .unset] [(.int (p2 &&& (3 : Int32)))])) _
    refine XS.ifYes X0.here hx rfl (pc0 := 7) (pc' := 17) rfl (hb hby at_7) rfl b7 (by decide) (by decide) ?_
    show Steps p.tables e below (s₁.setTop (mkF m 17 #[.val (.int p0), .val (.int p1), .val (.int p2), .unset, .unset, .val (.int (p2 &&& (3 : Int32))), .unset] [])) _
    refine XS.iload X0.here hx rfl (hb hby at_17) rfl ?_
    show Steps p.tables e below (s₁.setTop (mkF m 19 #[.val (.int p0), .val (.int p1), .val (.int p2), .unset, .unset, .val (.int (p2 &&& (3 : Int32))), .unset] [(.int (p2 &&& (3 : Int32)))])) _
    refine XS.iconst X0.here hx rfl (hb hby at_19) ?_
    show Steps p.tables e below (s₁.setTop (mkF m 20 #[.val (.int p0), .val (.int p1), .val (.int p2), .unset, .unset, .val (.int (p2 &&& (3 : Int32))), .unset] [(.int (1 : Int32)), (.int (p2 &&& (3 : Int32)))])) _
    refine XS.icmpNo X0.here hx rfl (hb hby at_20) rfl b20 ?_
    show Steps p.tables e below (s₁.setTop (mkF m 23 #[.val (.int p0), .val (.int p1), .val (.int p2), .unset, .unset, .val (.int (p2 &&& (3 : Int32))), .unset] [])) _
    refine X0.ldc2DoubleC hx hown (mvT hZ (hw _ (List.mem_of_getElem? (i := 6) rfl))) (g := (mkF m 23 #[.val (.int p0), .val (.int p1), .val (.int p2), .unset, .unset, .val (.int (p2 &&& (3 : Int32))), .unset] [])) rfl (hb hby at_23) _ ?_
    show Steps p.tables e below (s₁.setTop (mkF m 26 #[.val (.int p0), .val (.int p1), .val (.int p2), .unset, .unset, .val (.int (p2 &&& (3 : Int32))), .unset] [(.double (4607182418800017407 : UInt64))])) _
    refine XS.dstoreN X0.here hx rfl (hb hby at_26) rfl (l' := #[.val (.int p0), .val (.int p1), .val (.int p2), .val (.double (4607182418800017407 : UInt64)), .second, .val (.int (p2 &&& (3 : Int32))), .unset]) rfl ?_
    show Steps p.tables e below (s₁.setTop (mkF m 27 #[.val (.int p0), .val (.int p1), .val (.int p2), .val (.double (4607182418800017407 : UInt64)), .second, .val (.int (p2 &&& (3 : Int32))), .unset] [])) _
    refine XS.goto X0.here hx rfl (pc0 := 27) (pc' := 73) rfl (hb hby at_27) (by decide) (by decide) ?_
    show Steps p.tables e below (s₁.setTop (mkF m 73 #[.val (.int p0), .val (.int p1), .val (.int p2), .val (.double (4607182418800017407 : UInt64)), .second, .val (.int (p2 &&& (3 : Int32))), .unset] [])) _
    refine XS.dloadN X0.here hx rfl (hb hby at_73) rfl ?_
    show Steps p.tables e below (s₁.setTop (mkF m 74 #[.val (.int p0), .val (.int p1), .val (.int p2), .val (.double (4607182418800017407 : UInt64)), .second, .val (.int (p2 &&& (3 : Int32))), .unset] [(.double (4607182418800017407 : UInt64))])) _
    refine st1 _ ?_
    show Steps p.tables e below (T1.setTop (mkF m 77 #[.val (.int p0), .val (.int p1), .val (.int p2), .val (.double (4607182418800017407 : UInt64)), .second, .val (.int (p2 &&& (3 : Int32))), .unset] [])) _
    refine XS.dloadN X1.here hx rfl (hb hby at_77) rfl ?_
    show Steps p.tables e below (T1.setTop (mkF m 78 #[.val (.int p0), .val (.int p1), .val (.int p2), .val (.double (4607182418800017407 : UInt64)), .second, .val (.int (p2 &&& (3 : Int32))), .unset] [(.double (4607182418800017407 : UInt64))])) _
    refine XS.dconst0 X1.here hx rfl (hb hby at_78) rfl ?_
    show Steps p.tables e below (T1.setTop (mkF m 79 #[.val (.int p0), .val (.int p1), .val (.int p2), .val (.double (4607182418800017407 : UInt64)), .second, .val (.int (p2 &&& (3 : Int32))), .unset] [(.double FP.dconst0), (.double (4607182418800017407 : UInt64))])) _
    refine XS.dcmpS X1.here hx rfl (hb hby at_79) rfl (cmpV_l _) ?_
    show Steps p.tables e below (T1.setTop (mkF m 80 #[.val (.int p0), .val (.int p1), .val (.int p2), .val (.double (4607182418800017407 : UInt64)), .second, .val (.int (p2 &&& (3 : Int32))), .unset] [(.int (FP.cmpInt (-1) (FP.dcmp (4607182418800017407 : UInt64) FP.dconst0)))])) _
    refine XS.ifNo X1.here hx rfl (hb hby at_80) rfl b80 ?_
    show Steps p.tables e below (T1.setTop (mkF m 83 #[.val (.int p0), .val (.int p1), .val (.int p2), .val (.double (4607182418800017407 : UInt64)), .second, .val (.int (p2 &&& (3 : Int32))), .unset] [])) _
    refine XS.dloadN X1.here hx rfl (hb hby at_83) rfl ?_
    show Steps p.tables e below (T1.setTop (mkF m 84 #[.val (.int p0), .val (.int p1), .val (.int p2), .val (.double (4607182418800017407 : UInt64)), .second, .val (.int (p2 &&& (3 : Int32))), .unset] [(.double (4607182418800017407 : UInt64))])) _
    refine XS.dconst1 X1.here hx rfl (hb hby at_84) rfl ?_
    show Steps p.tables e below (T1.setTop (mkF m 85 #[.val (.int p0), .val (.int p1), .val (.int p2), .val (.double (4607182418800017407 : UInt64)), .second, .val (.int (p2 &&& (3 : Int32))), .unset] [(.double FP.dconst1), (.double (4607182418800017407 : UInt64))])) _
    refine XS.dcmpS X1.here hx rfl (hb hby at_85) rfl (cmpV_g _) ?_
    show Steps p.tables e below (T1.setTop (mkF m 86 #[.val (.int p0), .val (.int p1), .val (.int p2), .val (.double (4607182418800017407 : UInt64)), .second, .val (.int (p2 &&& (3 : Int32))), .unset] [(.int (FP.cmpInt 1 (FP.dcmp (4607182418800017407 : UInt64) FP.dconst1)))])) _
    refine XS.ifNo X1.here hx rfl (hb hby at_86) rfl b86 ?_
    show Steps p.tables e below (T1.setTop (mkF m 89 #[.val (.int p0), .val (.int p1), .val (.int p2), .val (.double (4607182418800017407 : UInt64)), .second, .val (.int (p2 &&& (3 : Int32))), .unset] [])) _
    refine XS.iconst X1.here hx rfl (hb hby at_89) ?_
    show Steps p.tables e below (T1.setTop (mkF m 90 #[.val (.int p0), .val (.int p1), .val (.int p2), .val (.double (4607182418800017407 : UInt64)), .second, .val (.int (p2 &&& (3 : Int32))), .unset] [(.int (1 : Int32))])) _
    refine XS.goto X1.here hx rfl (pc0 := 90) (pc' := 94) rfl (hb hby at_90) (by decide) (by decide) ?_
    show Steps p.tables e below (T1.setTop (mkF m 94 #[.val (.int p0), .val (.int p1), .val (.int p2), .val (.double (4607182418800017407 : UInt64)), .second, .val (.int (p2 &&& (3 : Int32))), .unset] [(.int (1 : Int32))])) _
    exact retN X1 hx (t := .boolean) Bd.returns (by simp) (hb hby at_94) hr
  · show QL n0 _ T1.heap _
    exact ⟨rfl, N1⟩
theorem ef_rm0_2 (m : MethodId) (x0 : Int32) (x1 : Int32) (x2 : Int32) : entryFrame m #[(.int x0), (.int x1), (.int x2)] maxLocals = mkF m 0 #[.val (.int x0), .val (.int x1), .val (.int x2), .unset, .unset, .unset, .unset] [] := by first | (simp [entryFrame, mkF, argsToLocals, Value.category, maxLocals]; done) | rfl
set_option maxRecDepth 65536 in
set_option maxHeartbeats 40000000 in
theorem rm0_2 (l : Launch) (Z : State) (a0 : Array Value) (hw : ∀ d ∈ tables_1, d.before a0 Z = true) (ws : List Jvm.Cond)  (p0 : Int32) (p1 : Int32) (p2 : Int32) (h0 : Heap) (n0 : Nat) (Z0 : n0 ≤ h0.size) 
    (b7 : ifCond.holds .ne (p2 &&& (3 : Int32)) = true)
    (b20 : if_icmp.holds .ne (p2 &&& (3 : Int32)) (1 : Int32) = true)
    (b33 : if_icmp.holds .ne (p2 &&& (3 : Int32)) (2 : Int32) = false)
    (n50 : NoNaN64 (FP.ddiv (FP.i2d ((p0 &&& (1073741823 : Int32)) + (1 : Int32))) (4742290407625326592 : UInt64)))
    (c1 : ifCond.holds .le (FP.cmpInt (-1) (FP.dcmp (FP.ddiv (FP.i2d ((p0 &&& (1073741823 : Int32)) + (1 : Int32))) (4742290407625326592 : UInt64)) FP.dconst0)) = false)
    (c2 : ifCond.holds .lt (FP.cmpInt 1 (FP.dcmp (FP.ddiv (FP.i2d ((p0 &&& (1073741823 : Int32)) + (1 : Int32))) (4742290407625326592 : UInt64)) FP.dconst1)) = true)
    (b80 : ifCond.holds .le (FP.cmpInt (-1) (FP.dcmp (FP.ddiv (FP.i2d ((p0 &&& (1073741823 : Int32)) + (1 : Int32))) (4742290407625326592 : UInt64)) FP.dconst0)) = false)
    (b86 : ifCond.holds .ge (FP.cmpInt 1 (FP.dcmp (FP.ddiv (FP.i2d ((p0 &&& (1073741823 : Int32)) + (1 : Int32))) (4742290407625326592 : UInt64)) FP.dconst1)) = false) :
    MetFree l x (head1 (Jvm.Cond.code x code maxLocals ret :: ws) room_1) (fun a U => a = #[(.int p0), (.int p1), (.int p2)] ∧ Z.Warmed39 U.vm ∧ U.heap = h0) (fun _ _ _ _ _ => True) (fun _ U o U' => ∃ v L, o = .returned v ∧ QL n0 v U'.heap L ∧ FrameEnd U o U' L 0 0) := by
  refine MetFree.of_bodySF (plainFor_of_name pn_1) hisR ?_
  intro p e s m args below meth c s₁ Bd hml0 hP hK
  obtain ⟨rfl, hZ, hh⟩ := hP
  have hx := Bd.exec
  have hby := Bd.bytes
  have hml : c.maxLocals = 7 := hml0
  have hown : s.vm.findClass "com/example/damping/damping/rank/PageRankCheckDampingPinLaw" = some m.cls := findClass_of_methodNamed Bd.named
  have hnm := (name_of_methodNamed Bd.named Bd.method).1
  have X0 : Stand p l e room_1 s m #[(.int p0), (.int p1), (.int p2)] below meth c s₁ [] 0 0 := Stand.of_body Bd
  have e0 : s₁.heap = h0 := by rw [← hh, Bd.state]; rfl
  have N0 := Fr.nil n0
  have pre0 : ∀ t, Steps p.tables e below (s₁.setTop (mkF m 0 #[.val (.int p0), .val (.int p1), .val (.int p2), .unset, .unset, .unset, .unset] [])) t → Steps p.tables e below (s₁.setTop (entryFrame m #[(.int p0), (.int p1), (.int p2)] maxLocals)) t := fun t k => castTop (ef_rm0_2 m p0 p1 p2) k
  obtain ⟨_, _, ⟨T1, L1, k1, n1⟩, -, X1, ⟨Lc1, hQ1, l1, y1, z1⟩, st1⟩ := Jvm.LawKit.callS X0 hx (y := (⟨"com/example/damping/damping/rank/PageRank", "checkDamping", "(D)V"⟩ : MethodName)) hown (mvT hZ (hw _ (List.mem_of_getElem? (i := 2) rfl))) (mvT hZ (hw _ (List.mem_of_getElem? (i := 3) rfl))) (mvT hZ (hw _ (List.mem_of_getElem? (i := 4) rfl))) (mvT hZ (hw _ (List.mem_of_getElem? (i := 5) rfl))) (by decide) (backOf (W := 0) (rmC l Z a0 hw [] (FP.ddiv (FP.i2d ((p0 &&& (1073741823 : Int32)) + (1 : Int32))) (4742290407625326592 : UInt64)) h0 n0 Z0 c1 c2) hZ (hw _ (List.mem_of_getElem? (i := 5) rfl)) (hw _ (List.mem_of_getElem? (i := 4) rfl)) (by decide) (by decide)) (g := (mkF m 74 #[.val (.int p0), .val (.int p1), .val (.int p2), .val (.double (FP.ddiv (FP.i2d ((p0 &&& (1073741823 : Int32)) + (1 : Int32))) (4742290407625326592 : UInt64))), .second, .val (.int (p2 &&& (3 : Int32))), .val (.int (p0 &&& (1073741823 : Int32)))] [(.double (FP.ddiv (FP.i2d ((p0 &&& (1073741823 : Int32)) + (1 : Int32))) (4742290407625326592 : UInt64)))])) rfl (by rw [hml]; rfl) (argsL := [(.double (FP.ddiv (FP.i2d ((p0 &&& (1073741823 : Int32)) + (1 : Int32))) (4742290407625326592 : UInt64)))]) (rest := []) (lenOf pd_0 rfl) rfl (by show 2 * 0 + _ ≤ _; exact Nat.le_of_eq rfl) (hb hby at_74) (fun _ _ => ⟨rfl, e0, (by decide : 0 + 0 ≤ _), (by decide : 0 + 0 ≤ _)⟩)
  dsimp only [Pt.U, Pt.locs, Pt.cells, Pt.slots] at X1 l1 y1 z1 st1 hQ1
  subst l1 y1 z1
  obtain ⟨rfl, N1a, e1⟩ := hQ1
  have N1 := Fr.app N0 N1a
  obtain ⟨fs, hr, hrun, hended, hW, hsame⟩ := X1.leave (v := some (.int (1 : Int32))) (fun h => by rw [Bd.returns] at h; cases h)
  refine ⟨_, _, pre0 _ ?_, hrun, hended, _, _, rfl, ?_, ⟨_, rfl⟩, hW, hsame.mono (Nat.le_of_ble_eq_true rfl) (Nat.le_of_ble_eq_true rfl)⟩
  · show Steps p.tables e below (s₁.setTop (mkF m 0 #[.val (.int p0), .val (.int p1), .val (.int p2), .unset, .unset, .unset, .unset] [])) _
    refine XS.iloadN X0.here hx rfl (hb hby at_0) rfl ?_
    show Steps p.tables e below (s₁.setTop (mkF m 1 #[.val (.int p0), .val (.int p1), .val (.int p2), .unset, .unset, .unset, .unset] [(.int p2)])) _
    refine XS.iconst X0.here hx rfl (hb hby at_1) ?_
    show Steps p.tables e below (s₁.setTop (mkF m 2 #[.val (.int p0), .val (.int p1), .val (.int p2), .unset, .unset, .unset, .unset] [(.int (3 : Int32)), (.int p2)])) _
    refine XS.iand X0.here hx rfl (hb hby at_2) rfl ?_
    show Steps p.tables e below (s₁.setTop (mkF m 3 #[.val (.int p0), .val (.int p1), .val (.int p2), .unset, .unset, .unset, .unset] [(.int (p2 &&& (3 : Int32)))])) _
    refine XS.istore X0.here hx rfl (hb hby at_3) rfl (l' := #[.val (.int p0), .val (.int p1), .val (.int p2), .unset, .unset, .val (.int (p2 &&& (3 : Int32))), .unset]) rfl ?_
    show Steps p.tables e below (s₁.setTop (mkF m 5 #[.val (.int p0), .val (.int p1), .val (.int p2), .unset, .unset, .val (.int (p2 &&& (3 : Int32))), .unset] [])) _
    refine XS.iload X0.here hx rfl (hb hby at_5) rfl ?_
    show Steps p.tables e below (s₁.setTop (mkF m 7 #[.val (.int p0), .val (.int p1), .val (.int p2), .unset, .unset, .val (.int (p2 &&& (3 : Int32))), .unset] [(.int (p2 &&& (3 : Int32)))])) _
    refine XS.ifYes X0.here hx rfl (pc0 := 7) (pc' := 17) rfl (hb hby at_7) rfl b7 (by decide) (by decide) ?_
    show Steps p.tables e below (s₁.setTop (mkF m 17 #[.val (.int p0), .val (.int p1), .val (.int p2), .unset, .unset, .val (.int (p2 &&& (3 : Int32))), .unset] [])) _
    refine XS.iload X0.here hx rfl (hb hby at_17) rfl ?_
    show Steps p.tables e below (s₁.setTop (mkF m 19 #[.val (.int p0), .val (.int p1), .val (.int p2), .unset, .unset, .val (.int (p2 &&& (3 : Int32))), .unset] [(.int (p2 &&& (3 : Int32)))])) _
    refine XS.iconst X0.here hx rfl (hb hby at_19) ?_
    show Steps p.tables e below (s₁.setTop (mkF m 20 #[.val (.int p0), .val (.int p1), .val (.int p2), .unset, .unset, .val (.int (p2 &&& (3 : Int32))), .unset] [(.int (1 : Int32)), (.int (p2 &&& (3 : Int32)))])) _
    refine XS.icmpYes X0.here hx rfl (pc0 := 20) (pc' := 30) rfl (hb hby at_20) rfl b20 (by decide) (by decide) ?_
    show Steps p.tables e below (s₁.setTop (mkF m 30 #[.val (.int p0), .val (.int p1), .val (.int p2), .unset, .unset, .val (.int (p2 &&& (3 : Int32))), .unset] [])) _
    refine XS.iload X0.here hx rfl (hb hby at_30) rfl ?_
    show Steps p.tables e below (s₁.setTop (mkF m 32 #[.val (.int p0), .val (.int p1), .val (.int p2), .unset, .unset, .val (.int (p2 &&& (3 : Int32))), .unset] [(.int (p2 &&& (3 : Int32)))])) _
    refine XS.iconst X0.here hx rfl (hb hby at_32) ?_
    show Steps p.tables e below (s₁.setTop (mkF m 33 #[.val (.int p0), .val (.int p1), .val (.int p2), .unset, .unset, .val (.int (p2 &&& (3 : Int32))), .unset] [(.int (2 : Int32)), (.int (p2 &&& (3 : Int32)))])) _
    refine XS.icmpNo X0.here hx rfl (hb hby at_33) rfl b33 ?_
    show Steps p.tables e below (s₁.setTop (mkF m 36 #[.val (.int p0), .val (.int p1), .val (.int p2), .unset, .unset, .val (.int (p2 &&& (3 : Int32))), .unset] [])) _
    refine XS.iloadN X0.here hx rfl (hb hby at_36) rfl ?_
    show Steps p.tables e below (s₁.setTop (mkF m 37 #[.val (.int p0), .val (.int p1), .val (.int p2), .unset, .unset, .val (.int (p2 &&& (3 : Int32))), .unset] [(.int p0)])) _
    refine X0.ldcInt hx hown (mvT hZ (hw _ (List.mem_of_getElem? (i := 0) rfl))) (g := (mkF m 37 #[.val (.int p0), .val (.int p1), .val (.int p2), .unset, .unset, .val (.int (p2 &&& (3 : Int32))), .unset] [(.int p0)])) rfl (hb hby at_37) _ ?_
    show Steps p.tables e below (s₁.setTop (mkF m 39 #[.val (.int p0), .val (.int p1), .val (.int p2), .unset, .unset, .val (.int (p2 &&& (3 : Int32))), .unset] [(.int (1073741823 : Int32)), (.int p0)])) _
    refine XS.iand X0.here hx rfl (hb hby at_39) rfl ?_
    show Steps p.tables e below (s₁.setTop (mkF m 40 #[.val (.int p0), .val (.int p1), .val (.int p2), .unset, .unset, .val (.int (p2 &&& (3 : Int32))), .unset] [(.int (p0 &&& (1073741823 : Int32)))])) _
    refine XS.istore X0.here hx rfl (hb hby at_40) rfl (l' := #[.val (.int p0), .val (.int p1), .val (.int p2), .unset, .unset, .val (.int (p2 &&& (3 : Int32))), .val (.int (p0 &&& (1073741823 : Int32)))]) rfl ?_
    show Steps p.tables e below (s₁.setTop (mkF m 42 #[.val (.int p0), .val (.int p1), .val (.int p2), .unset, .unset, .val (.int (p2 &&& (3 : Int32))), .val (.int (p0 &&& (1073741823 : Int32)))] [])) _
    refine XS.iload X0.here hx rfl (hb hby at_42) rfl ?_
    show Steps p.tables e below (s₁.setTop (mkF m 44 #[.val (.int p0), .val (.int p1), .val (.int p2), .unset, .unset, .val (.int (p2 &&& (3 : Int32))), .val (.int (p0 &&& (1073741823 : Int32)))] [(.int (p0 &&& (1073741823 : Int32)))])) _
    refine XS.iconst X0.here hx rfl (hb hby at_44) ?_
    show Steps p.tables e below (s₁.setTop (mkF m 45 #[.val (.int p0), .val (.int p1), .val (.int p2), .unset, .unset, .val (.int (p2 &&& (3 : Int32))), .val (.int (p0 &&& (1073741823 : Int32)))] [(.int (1 : Int32)), (.int (p0 &&& (1073741823 : Int32)))])) _
    refine XS.iadd X0.here hx rfl (hb hby at_45) rfl ?_
    show Steps p.tables e below (s₁.setTop (mkF m 46 #[.val (.int p0), .val (.int p1), .val (.int p2), .unset, .unset, .val (.int (p2 &&& (3 : Int32))), .val (.int (p0 &&& (1073741823 : Int32)))] [(.int ((p0 &&& (1073741823 : Int32)) + (1 : Int32)))])) _
    refine XS.i2dS X0.here hx rfl (hb hby at_46) rfl rfl ?_
    show Steps p.tables e below (s₁.setTop (mkF m 47 #[.val (.int p0), .val (.int p1), .val (.int p2), .unset, .unset, .val (.int (p2 &&& (3 : Int32))), .val (.int (p0 &&& (1073741823 : Int32)))] [(.double (FP.i2d ((p0 &&& (1073741823 : Int32)) + (1 : Int32))))])) _
    refine X0.ldc2DoubleC hx hown (mvT hZ (hw _ (List.mem_of_getElem? (i := 1) rfl))) (g := (mkF m 47 #[.val (.int p0), .val (.int p1), .val (.int p2), .unset, .unset, .val (.int (p2 &&& (3 : Int32))), .val (.int (p0 &&& (1073741823 : Int32)))] [(.double (FP.i2d ((p0 &&& (1073741823 : Int32)) + (1 : Int32))))])) rfl (hb hby at_47) _ ?_
    show Steps p.tables e below (s₁.setTop (mkF m 50 #[.val (.int p0), .val (.int p1), .val (.int p2), .unset, .unset, .val (.int (p2 &&& (3 : Int32))), .val (.int (p0 &&& (1073741823 : Int32)))] [(.double (4742290407625326592 : UInt64)), (.double (FP.i2d ((p0 &&& (1073741823 : Int32)) + (1 : Int32))))])) _
    refine XS.ddivS X0.here hx rfl (hb hby at_50) rfl n50 rfl ?_
    show Steps p.tables e below (s₁.setTop (mkF m 51 #[.val (.int p0), .val (.int p1), .val (.int p2), .unset, .unset, .val (.int (p2 &&& (3 : Int32))), .val (.int (p0 &&& (1073741823 : Int32)))] [(.double (FP.ddiv (FP.i2d ((p0 &&& (1073741823 : Int32)) + (1 : Int32))) (4742290407625326592 : UInt64)))])) _
    refine XS.dstoreN X0.here hx rfl (hb hby at_51) rfl (l' := #[.val (.int p0), .val (.int p1), .val (.int p2), .val (.double (FP.ddiv (FP.i2d ((p0 &&& (1073741823 : Int32)) + (1 : Int32))) (4742290407625326592 : UInt64))), .second, .val (.int (p2 &&& (3 : Int32))), .val (.int (p0 &&& (1073741823 : Int32)))]) rfl ?_
    show Steps p.tables e below (s₁.setTop (mkF m 52 #[.val (.int p0), .val (.int p1), .val (.int p2), .val (.double (FP.ddiv (FP.i2d ((p0 &&& (1073741823 : Int32)) + (1 : Int32))) (4742290407625326592 : UInt64))), .second, .val (.int (p2 &&& (3 : Int32))), .val (.int (p0 &&& (1073741823 : Int32)))] [])) _
    refine XS.goto X0.here hx rfl (pc0 := 52) (pc' := 73) rfl (hb hby at_52) (by decide) (by decide) ?_
    show Steps p.tables e below (s₁.setTop (mkF m 73 #[.val (.int p0), .val (.int p1), .val (.int p2), .val (.double (FP.ddiv (FP.i2d ((p0 &&& (1073741823 : Int32)) + (1 : Int32))) (4742290407625326592 : UInt64))), .second, .val (.int (p2 &&& (3 : Int32))), .val (.int (p0 &&& (1073741823 : Int32)))] [])) _
    refine XS.dloadN X0.here hx rfl (hb hby at_73) rfl ?_
    show Steps p.tables e below (s₁.setTop (mkF m 74 #[.val (.int p0), .val (.int p1), .val (.int p2), .val (.double (FP.ddiv (FP.i2d ((p0 &&& (1073741823 : Int32)) + (1 : Int32))) (4742290407625326592 : UInt64))), .second, .val (.int (p2 &&& (3 : Int32))), .val (.int (p0 &&& (1073741823 : Int32)))] [(.double (FP.ddiv (FP.i2d ((p0 &&& (1073741823 : Int32)) + (1 : Int32))) (4742290407625326592 : UInt64)))])) _
    refine st1 _ ?_
    show Steps p.tables e below (T1.setTop (mkF m 77 #[.val (.int p0), .val (.int p1), .val (.int p2), .val (.double (FP.ddiv (FP.i2d ((p0 &&& (1073741823 : Int32)) + (1 : Int32))) (4742290407625326592 : UInt64))), .second, .val (.int (p2 &&& (3 : Int32))), .val (.int (p0 &&& (1073741823 : Int32)))] [])) _
    refine XS.dloadN X1.here hx rfl (hb hby at_77) rfl ?_
    show Steps p.tables e below (T1.setTop (mkF m 78 #[.val (.int p0), .val (.int p1), .val (.int p2), .val (.double (FP.ddiv (FP.i2d ((p0 &&& (1073741823 : Int32)) + (1 : Int32))) (4742290407625326592 : UInt64))), .second, .val (.int (p2 &&& (3 : Int32))), .val (.int (p0 &&& (1073741823 : Int32)))] [(.double (FP.ddiv (FP.i2d ((p0 &&& (1073741823 : Int32)) + (1 : Int32))) (4742290407625326592 : UInt64)))])) _
    refine XS.dconst0 X1.here hx rfl (hb hby at_78) rfl ?_
    show Steps p.tables e below (T1.setTop (mkF m 79 #[.val (.int p0), .val (.int p1), .val (.int p2), .val (.double (FP.ddiv (FP.i2d ((p0 &&& (1073741823 : Int32)) + (1 : Int32))) (4742290407625326592 : UInt64))), .second, .val (.int (p2 &&& (3 : Int32))), .val (.int (p0 &&& (1073741823 : Int32)))] [(.double FP.dconst0), (.double (FP.ddiv (FP.i2d ((p0 &&& (1073741823 : Int32)) + (1 : Int32))) (4742290407625326592 : UInt64)))])) _
    refine XS.dcmpS X1.here hx rfl (hb hby at_79) rfl (cmpV_l _) ?_
    show Steps p.tables e below (T1.setTop (mkF m 80 #[.val (.int p0), .val (.int p1), .val (.int p2), .val (.double (FP.ddiv (FP.i2d ((p0 &&& (1073741823 : Int32)) + (1 : Int32))) (4742290407625326592 : UInt64))), .second, .val (.int (p2 &&& (3 : Int32))), .val (.int (p0 &&& (1073741823 : Int32)))] [(.int (FP.cmpInt (-1) (FP.dcmp (FP.ddiv (FP.i2d ((p0 &&& (1073741823 : Int32)) + (1 : Int32))) (4742290407625326592 : UInt64)) FP.dconst0)))])) _
    refine XS.ifNo X1.here hx rfl (hb hby at_80) rfl b80 ?_
    show Steps p.tables e below (T1.setTop (mkF m 83 #[.val (.int p0), .val (.int p1), .val (.int p2), .val (.double (FP.ddiv (FP.i2d ((p0 &&& (1073741823 : Int32)) + (1 : Int32))) (4742290407625326592 : UInt64))), .second, .val (.int (p2 &&& (3 : Int32))), .val (.int (p0 &&& (1073741823 : Int32)))] [])) _
    refine XS.dloadN X1.here hx rfl (hb hby at_83) rfl ?_
    show Steps p.tables e below (T1.setTop (mkF m 84 #[.val (.int p0), .val (.int p1), .val (.int p2), .val (.double (FP.ddiv (FP.i2d ((p0 &&& (1073741823 : Int32)) + (1 : Int32))) (4742290407625326592 : UInt64))), .second, .val (.int (p2 &&& (3 : Int32))), .val (.int (p0 &&& (1073741823 : Int32)))] [(.double (FP.ddiv (FP.i2d ((p0 &&& (1073741823 : Int32)) + (1 : Int32))) (4742290407625326592 : UInt64)))])) _
    refine XS.dconst1 X1.here hx rfl (hb hby at_84) rfl ?_
    show Steps p.tables e below (T1.setTop (mkF m 85 #[.val (.int p0), .val (.int p1), .val (.int p2), .val (.double (FP.ddiv (FP.i2d ((p0 &&& (1073741823 : Int32)) + (1 : Int32))) (4742290407625326592 : UInt64))), .second, .val (.int (p2 &&& (3 : Int32))), .val (.int (p0 &&& (1073741823 : Int32)))] [(.double FP.dconst1), (.double (FP.ddiv (FP.i2d ((p0 &&& (1073741823 : Int32)) + (1 : Int32))) (4742290407625326592 : UInt64)))])) _
    refine XS.dcmpS X1.here hx rfl (hb hby at_85) rfl (cmpV_g _) ?_
    show Steps p.tables e below (T1.setTop (mkF m 86 #[.val (.int p0), .val (.int p1), .val (.int p2), .val (.double (FP.ddiv (FP.i2d ((p0 &&& (1073741823 : Int32)) + (1 : Int32))) (4742290407625326592 : UInt64))), .second, .val (.int (p2 &&& (3 : Int32))), .val (.int (p0 &&& (1073741823 : Int32)))] [(.int (FP.cmpInt 1 (FP.dcmp (FP.ddiv (FP.i2d ((p0 &&& (1073741823 : Int32)) + (1 : Int32))) (4742290407625326592 : UInt64)) FP.dconst1)))])) _
    refine XS.ifNo X1.here hx rfl (hb hby at_86) rfl b86 ?_
    show Steps p.tables e below (T1.setTop (mkF m 89 #[.val (.int p0), .val (.int p1), .val (.int p2), .val (.double (FP.ddiv (FP.i2d ((p0 &&& (1073741823 : Int32)) + (1 : Int32))) (4742290407625326592 : UInt64))), .second, .val (.int (p2 &&& (3 : Int32))), .val (.int (p0 &&& (1073741823 : Int32)))] [])) _
    refine XS.iconst X1.here hx rfl (hb hby at_89) ?_
    show Steps p.tables e below (T1.setTop (mkF m 90 #[.val (.int p0), .val (.int p1), .val (.int p2), .val (.double (FP.ddiv (FP.i2d ((p0 &&& (1073741823 : Int32)) + (1 : Int32))) (4742290407625326592 : UInt64))), .second, .val (.int (p2 &&& (3 : Int32))), .val (.int (p0 &&& (1073741823 : Int32)))] [(.int (1 : Int32))])) _
    refine XS.goto X1.here hx rfl (pc0 := 90) (pc' := 94) rfl (hb hby at_90) (by decide) (by decide) ?_
    show Steps p.tables e below (T1.setTop (mkF m 94 #[.val (.int p0), .val (.int p1), .val (.int p2), .val (.double (FP.ddiv (FP.i2d ((p0 &&& (1073741823 : Int32)) + (1 : Int32))) (4742290407625326592 : UInt64))), .second, .val (.int (p2 &&& (3 : Int32))), .val (.int (p0 &&& (1073741823 : Int32)))] [(.int (1 : Int32))])) _
    exact retN X1 hx (t := .boolean) Bd.returns (by simp) (hb hby at_94) hr
  · show QL n0 _ T1.heap _
    exact ⟨rfl, N1⟩
theorem ef_rm0_3 (m : MethodId) (x0 : Int32) (x1 : Int32) (x2 : Int32) : entryFrame m #[(.int x0), (.int x1), (.int x2)] maxLocals = mkF m 0 #[.val (.int x0), .val (.int x1), .val (.int x2), .unset, .unset, .unset, .unset] [] := by first | (simp [entryFrame, mkF, argsToLocals, Value.category, maxLocals]; done) | rfl
set_option maxRecDepth 65536 in
set_option maxHeartbeats 40000000 in
theorem rm0_3 (l : Launch) (Z : State) (a0 : Array Value) (hw : ∀ d ∈ tables_1, d.before a0 Z = true) (ws : List Jvm.Cond)  (p0 : Int32) (p1 : Int32) (p2 : Int32) (h0 : Heap) (n0 : Nat) (Z0 : n0 ≤ h0.size) 
    (b7 : ifCond.holds .ne (p2 &&& (3 : Int32)) = true)
    (b20 : if_icmp.holds .ne (p2 &&& (3 : Int32)) (1 : Int32) = true)
    (b33 : if_icmp.holds .ne (p2 &&& (3 : Int32)) (2 : Int32) = true)
    (n70 : NoNaN64 (FP.ddiv (FP.i2d ((p1 &&& (1073741823 : Int32)) + (1 : Int32))) (4742290407625326592 : UInt64)))
    (n71 : NoNaN64 (FP.dsub FP.dconst1 (FP.ddiv (FP.i2d ((p1 &&& (1073741823 : Int32)) + (1 : Int32))) (4742290407625326592 : UInt64))))
    (c1 : ifCond.holds .le (FP.cmpInt (-1) (FP.dcmp (FP.dsub FP.dconst1 (FP.ddiv (FP.i2d ((p1 &&& (1073741823 : Int32)) + (1 : Int32))) (4742290407625326592 : UInt64))) FP.dconst0)) = false)
    (c2 : ifCond.holds .lt (FP.cmpInt 1 (FP.dcmp (FP.dsub FP.dconst1 (FP.ddiv (FP.i2d ((p1 &&& (1073741823 : Int32)) + (1 : Int32))) (4742290407625326592 : UInt64))) FP.dconst1)) = true)
    (b80 : ifCond.holds .le (FP.cmpInt (-1) (FP.dcmp (FP.dsub FP.dconst1 (FP.ddiv (FP.i2d ((p1 &&& (1073741823 : Int32)) + (1 : Int32))) (4742290407625326592 : UInt64))) FP.dconst0)) = false)
    (b86 : ifCond.holds .ge (FP.cmpInt 1 (FP.dcmp (FP.dsub FP.dconst1 (FP.ddiv (FP.i2d ((p1 &&& (1073741823 : Int32)) + (1 : Int32))) (4742290407625326592 : UInt64))) FP.dconst1)) = false) :
    MetFree l x (head1 (Jvm.Cond.code x code maxLocals ret :: ws) room_1) (fun a U => a = #[(.int p0), (.int p1), (.int p2)] ∧ Z.Warmed39 U.vm ∧ U.heap = h0) (fun _ _ _ _ _ => True) (fun _ U o U' => ∃ v L, o = .returned v ∧ QL n0 v U'.heap L ∧ FrameEnd U o U' L 0 0) := by
  refine MetFree.of_bodySF (plainFor_of_name pn_1) hisR ?_
  intro p e s m args below meth c s₁ Bd hml0 hP hK
  obtain ⟨rfl, hZ, hh⟩ := hP
  have hx := Bd.exec
  have hby := Bd.bytes
  have hml : c.maxLocals = 7 := hml0
  have hown : s.vm.findClass "com/example/damping/damping/rank/PageRankCheckDampingPinLaw" = some m.cls := findClass_of_methodNamed Bd.named
  have hnm := (name_of_methodNamed Bd.named Bd.method).1
  have X0 : Stand p l e room_1 s m #[(.int p0), (.int p1), (.int p2)] below meth c s₁ [] 0 0 := Stand.of_body Bd
  have e0 : s₁.heap = h0 := by rw [← hh, Bd.state]; rfl
  have N0 := Fr.nil n0
  have pre0 : ∀ t, Steps p.tables e below (s₁.setTop (mkF m 0 #[.val (.int p0), .val (.int p1), .val (.int p2), .unset, .unset, .unset, .unset] [])) t → Steps p.tables e below (s₁.setTop (entryFrame m #[(.int p0), (.int p1), (.int p2)] maxLocals)) t := fun t k => castTop (ef_rm0_3 m p0 p1 p2) k
  obtain ⟨_, _, ⟨T1, L1, k1, n1⟩, -, X1, ⟨Lc1, hQ1, l1, y1, z1⟩, st1⟩ := Jvm.LawKit.callS X0 hx (y := (⟨"com/example/damping/damping/rank/PageRank", "checkDamping", "(D)V"⟩ : MethodName)) hown (mvT hZ (hw _ (List.mem_of_getElem? (i := 2) rfl))) (mvT hZ (hw _ (List.mem_of_getElem? (i := 3) rfl))) (mvT hZ (hw _ (List.mem_of_getElem? (i := 4) rfl))) (mvT hZ (hw _ (List.mem_of_getElem? (i := 5) rfl))) (by decide) (backOf (W := 0) (rmC l Z a0 hw [] (FP.dsub FP.dconst1 (FP.ddiv (FP.i2d ((p1 &&& (1073741823 : Int32)) + (1 : Int32))) (4742290407625326592 : UInt64))) h0 n0 Z0 c1 c2) hZ (hw _ (List.mem_of_getElem? (i := 5) rfl)) (hw _ (List.mem_of_getElem? (i := 4) rfl)) (by decide) (by decide)) (g := (mkF m 74 #[.val (.int p0), .val (.int p1), .val (.int p2), .val (.double (FP.dsub FP.dconst1 (FP.ddiv (FP.i2d ((p1 &&& (1073741823 : Int32)) + (1 : Int32))) (4742290407625326592 : UInt64)))), .second, .val (.int (p2 &&& (3 : Int32))), .val (.int (p1 &&& (1073741823 : Int32)))] [(.double (FP.dsub FP.dconst1 (FP.ddiv (FP.i2d ((p1 &&& (1073741823 : Int32)) + (1 : Int32))) (4742290407625326592 : UInt64))))])) rfl (by rw [hml]; rfl) (argsL := [(.double (FP.dsub FP.dconst1 (FP.ddiv (FP.i2d ((p1 &&& (1073741823 : Int32)) + (1 : Int32))) (4742290407625326592 : UInt64))))]) (rest := []) (lenOf pd_0 rfl) rfl (by show 2 * 0 + _ ≤ _; exact Nat.le_of_eq rfl) (hb hby at_74) (fun _ _ => ⟨rfl, e0, (by decide : 0 + 0 ≤ _), (by decide : 0 + 0 ≤ _)⟩)
  dsimp only [Pt.U, Pt.locs, Pt.cells, Pt.slots] at X1 l1 y1 z1 st1 hQ1
  subst l1 y1 z1
  obtain ⟨rfl, N1a, e1⟩ := hQ1
  have N1 := Fr.app N0 N1a
  obtain ⟨fs, hr, hrun, hended, hW, hsame⟩ := X1.leave (v := some (.int (1 : Int32))) (fun h => by rw [Bd.returns] at h; cases h)
  refine ⟨_, _, pre0 _ ?_, hrun, hended, _, _, rfl, ?_, ⟨_, rfl⟩, hW, hsame.mono (Nat.le_of_ble_eq_true rfl) (Nat.le_of_ble_eq_true rfl)⟩
  · show Steps p.tables e below (s₁.setTop (mkF m 0 #[.val (.int p0), .val (.int p1), .val (.int p2), .unset, .unset, .unset, .unset] [])) _
    refine XS.iloadN X0.here hx rfl (hb hby at_0) rfl ?_
    show Steps p.tables e below (s₁.setTop (mkF m 1 #[.val (.int p0), .val (.int p1), .val (.int p2), .unset, .unset, .unset, .unset] [(.int p2)])) _
    refine XS.iconst X0.here hx rfl (hb hby at_1) ?_
    show Steps p.tables e below (s₁.setTop (mkF m 2 #[.val (.int p0), .val (.int p1), .val (.int p2), .unset, .unset, .unset, .unset] [(.int (3 : Int32)), (.int p2)])) _
    refine XS.iand X0.here hx rfl (hb hby at_2) rfl ?_
    show Steps p.tables e below (s₁.setTop (mkF m 3 #[.val (.int p0), .val (.int p1), .val (.int p2), .unset, .unset, .unset, .unset] [(.int (p2 &&& (3 : Int32)))])) _
    refine XS.istore X0.here hx rfl (hb hby at_3) rfl (l' := #[.val (.int p0), .val (.int p1), .val (.int p2), .unset, .unset, .val (.int (p2 &&& (3 : Int32))), .unset]) rfl ?_
    show Steps p.tables e below (s₁.setTop (mkF m 5 #[.val (.int p0), .val (.int p1), .val (.int p2), .unset, .unset, .val (.int (p2 &&& (3 : Int32))), .unset] [])) _
    refine XS.iload X0.here hx rfl (hb hby at_5) rfl ?_
    show Steps p.tables e below (s₁.setTop (mkF m 7 #[.val (.int p0), .val (.int p1), .val (.int p2), .unset, .unset, .val (.int (p2 &&& (3 : Int32))), .unset] [(.int (p2 &&& (3 : Int32)))])) _
    refine XS.ifYes X0.here hx rfl (pc0 := 7) (pc' := 17) rfl (hb hby at_7) rfl b7 (by decide) (by decide) ?_
    show Steps p.tables e below (s₁.setTop (mkF m 17 #[.val (.int p0), .val (.int p1), .val (.int p2), .unset, .unset, .val (.int (p2 &&& (3 : Int32))), .unset] [])) _
    refine XS.iload X0.here hx rfl (hb hby at_17) rfl ?_
    show Steps p.tables e below (s₁.setTop (mkF m 19 #[.val (.int p0), .val (.int p1), .val (.int p2), .unset, .unset, .val (.int (p2 &&& (3 : Int32))), .unset] [(.int (p2 &&& (3 : Int32)))])) _
    refine XS.iconst X0.here hx rfl (hb hby at_19) ?_
    show Steps p.tables e below (s₁.setTop (mkF m 20 #[.val (.int p0), .val (.int p1), .val (.int p2), .unset, .unset, .val (.int (p2 &&& (3 : Int32))), .unset] [(.int (1 : Int32)), (.int (p2 &&& (3 : Int32)))])) _
    refine XS.icmpYes X0.here hx rfl (pc0 := 20) (pc' := 30) rfl (hb hby at_20) rfl b20 (by decide) (by decide) ?_
    show Steps p.tables e below (s₁.setTop (mkF m 30 #[.val (.int p0), .val (.int p1), .val (.int p2), .unset, .unset, .val (.int (p2 &&& (3 : Int32))), .unset] [])) _
    refine XS.iload X0.here hx rfl (hb hby at_30) rfl ?_
    show Steps p.tables e below (s₁.setTop (mkF m 32 #[.val (.int p0), .val (.int p1), .val (.int p2), .unset, .unset, .val (.int (p2 &&& (3 : Int32))), .unset] [(.int (p2 &&& (3 : Int32)))])) _
    refine XS.iconst X0.here hx rfl (hb hby at_32) ?_
    show Steps p.tables e below (s₁.setTop (mkF m 33 #[.val (.int p0), .val (.int p1), .val (.int p2), .unset, .unset, .val (.int (p2 &&& (3 : Int32))), .unset] [(.int (2 : Int32)), (.int (p2 &&& (3 : Int32)))])) _
    refine XS.icmpYes X0.here hx rfl (pc0 := 33) (pc' := 55) rfl (hb hby at_33) rfl b33 (by decide) (by decide) ?_
    show Steps p.tables e below (s₁.setTop (mkF m 55 #[.val (.int p0), .val (.int p1), .val (.int p2), .unset, .unset, .val (.int (p2 &&& (3 : Int32))), .unset] [])) _
    refine XS.iloadN X0.here hx rfl (hb hby at_55) rfl ?_
    show Steps p.tables e below (s₁.setTop (mkF m 56 #[.val (.int p0), .val (.int p1), .val (.int p2), .unset, .unset, .val (.int (p2 &&& (3 : Int32))), .unset] [(.int p1)])) _
    refine X0.ldcInt hx hown (mvT hZ (hw _ (List.mem_of_getElem? (i := 0) rfl))) (g := (mkF m 56 #[.val (.int p0), .val (.int p1), .val (.int p2), .unset, .unset, .val (.int (p2 &&& (3 : Int32))), .unset] [(.int p1)])) rfl (hb hby at_56) _ ?_
    show Steps p.tables e below (s₁.setTop (mkF m 58 #[.val (.int p0), .val (.int p1), .val (.int p2), .unset, .unset, .val (.int (p2 &&& (3 : Int32))), .unset] [(.int (1073741823 : Int32)), (.int p1)])) _
    refine XS.iand X0.here hx rfl (hb hby at_58) rfl ?_
    show Steps p.tables e below (s₁.setTop (mkF m 59 #[.val (.int p0), .val (.int p1), .val (.int p2), .unset, .unset, .val (.int (p2 &&& (3 : Int32))), .unset] [(.int (p1 &&& (1073741823 : Int32)))])) _
    refine XS.istore X0.here hx rfl (hb hby at_59) rfl (l' := #[.val (.int p0), .val (.int p1), .val (.int p2), .unset, .unset, .val (.int (p2 &&& (3 : Int32))), .val (.int (p1 &&& (1073741823 : Int32)))]) rfl ?_
    show Steps p.tables e below (s₁.setTop (mkF m 61 #[.val (.int p0), .val (.int p1), .val (.int p2), .unset, .unset, .val (.int (p2 &&& (3 : Int32))), .val (.int (p1 &&& (1073741823 : Int32)))] [])) _
    refine XS.dconst1 X0.here hx rfl (hb hby at_61) rfl ?_
    show Steps p.tables e below (s₁.setTop (mkF m 62 #[.val (.int p0), .val (.int p1), .val (.int p2), .unset, .unset, .val (.int (p2 &&& (3 : Int32))), .val (.int (p1 &&& (1073741823 : Int32)))] [(.double FP.dconst1)])) _
    refine XS.iload X0.here hx rfl (hb hby at_62) rfl ?_
    show Steps p.tables e below (s₁.setTop (mkF m 64 #[.val (.int p0), .val (.int p1), .val (.int p2), .unset, .unset, .val (.int (p2 &&& (3 : Int32))), .val (.int (p1 &&& (1073741823 : Int32)))] [(.int (p1 &&& (1073741823 : Int32))), (.double FP.dconst1)])) _
    refine XS.iconst X0.here hx rfl (hb hby at_64) ?_
    show Steps p.tables e below (s₁.setTop (mkF m 65 #[.val (.int p0), .val (.int p1), .val (.int p2), .unset, .unset, .val (.int (p2 &&& (3 : Int32))), .val (.int (p1 &&& (1073741823 : Int32)))] [(.int (1 : Int32)), (.int (p1 &&& (1073741823 : Int32))), (.double FP.dconst1)])) _
    refine XS.iadd X0.here hx rfl (hb hby at_65) rfl ?_
    show Steps p.tables e below (s₁.setTop (mkF m 66 #[.val (.int p0), .val (.int p1), .val (.int p2), .unset, .unset, .val (.int (p2 &&& (3 : Int32))), .val (.int (p1 &&& (1073741823 : Int32)))] [(.int ((p1 &&& (1073741823 : Int32)) + (1 : Int32))), (.double FP.dconst1)])) _
    refine XS.i2dS X0.here hx rfl (hb hby at_66) rfl rfl ?_
    show Steps p.tables e below (s₁.setTop (mkF m 67 #[.val (.int p0), .val (.int p1), .val (.int p2), .unset, .unset, .val (.int (p2 &&& (3 : Int32))), .val (.int (p1 &&& (1073741823 : Int32)))] [(.double (FP.i2d ((p1 &&& (1073741823 : Int32)) + (1 : Int32)))), (.double FP.dconst1)])) _
    refine X0.ldc2DoubleC hx hown (mvT hZ (hw _ (List.mem_of_getElem? (i := 1) rfl))) (g := (mkF m 67 #[.val (.int p0), .val (.int p1), .val (.int p2), .unset, .unset, .val (.int (p2 &&& (3 : Int32))), .val (.int (p1 &&& (1073741823 : Int32)))] [(.double (FP.i2d ((p1 &&& (1073741823 : Int32)) + (1 : Int32)))), (.double FP.dconst1)])) rfl (hb hby at_67) _ ?_
    show Steps p.tables e below (s₁.setTop (mkF m 70 #[.val (.int p0), .val (.int p1), .val (.int p2), .unset, .unset, .val (.int (p2 &&& (3 : Int32))), .val (.int (p1 &&& (1073741823 : Int32)))] [(.double (4742290407625326592 : UInt64)), (.double (FP.i2d ((p1 &&& (1073741823 : Int32)) + (1 : Int32)))), (.double FP.dconst1)])) _
    refine XS.ddivS X0.here hx rfl (hb hby at_70) rfl n70 rfl ?_
    show Steps p.tables e below (s₁.setTop (mkF m 71 #[.val (.int p0), .val (.int p1), .val (.int p2), .unset, .unset, .val (.int (p2 &&& (3 : Int32))), .val (.int (p1 &&& (1073741823 : Int32)))] [(.double (FP.ddiv (FP.i2d ((p1 &&& (1073741823 : Int32)) + (1 : Int32))) (4742290407625326592 : UInt64))), (.double FP.dconst1)])) _
    refine XS.dsubS X0.here hx rfl (hb hby at_71) rfl n71 rfl ?_
    show Steps p.tables e below (s₁.setTop (mkF m 72 #[.val (.int p0), .val (.int p1), .val (.int p2), .unset, .unset, .val (.int (p2 &&& (3 : Int32))), .val (.int (p1 &&& (1073741823 : Int32)))] [(.double (FP.dsub FP.dconst1 (FP.ddiv (FP.i2d ((p1 &&& (1073741823 : Int32)) + (1 : Int32))) (4742290407625326592 : UInt64))))])) _
    refine XS.dstoreN X0.here hx rfl (hb hby at_72) rfl (l' := #[.val (.int p0), .val (.int p1), .val (.int p2), .val (.double (FP.dsub FP.dconst1 (FP.ddiv (FP.i2d ((p1 &&& (1073741823 : Int32)) + (1 : Int32))) (4742290407625326592 : UInt64)))), .second, .val (.int (p2 &&& (3 : Int32))), .val (.int (p1 &&& (1073741823 : Int32)))]) rfl ?_
    show Steps p.tables e below (s₁.setTop (mkF m 73 #[.val (.int p0), .val (.int p1), .val (.int p2), .val (.double (FP.dsub FP.dconst1 (FP.ddiv (FP.i2d ((p1 &&& (1073741823 : Int32)) + (1 : Int32))) (4742290407625326592 : UInt64)))), .second, .val (.int (p2 &&& (3 : Int32))), .val (.int (p1 &&& (1073741823 : Int32)))] [])) _
    refine XS.dloadN X0.here hx rfl (hb hby at_73) rfl ?_
    show Steps p.tables e below (s₁.setTop (mkF m 74 #[.val (.int p0), .val (.int p1), .val (.int p2), .val (.double (FP.dsub FP.dconst1 (FP.ddiv (FP.i2d ((p1 &&& (1073741823 : Int32)) + (1 : Int32))) (4742290407625326592 : UInt64)))), .second, .val (.int (p2 &&& (3 : Int32))), .val (.int (p1 &&& (1073741823 : Int32)))] [(.double (FP.dsub FP.dconst1 (FP.ddiv (FP.i2d ((p1 &&& (1073741823 : Int32)) + (1 : Int32))) (4742290407625326592 : UInt64))))])) _
    refine st1 _ ?_
    show Steps p.tables e below (T1.setTop (mkF m 77 #[.val (.int p0), .val (.int p1), .val (.int p2), .val (.double (FP.dsub FP.dconst1 (FP.ddiv (FP.i2d ((p1 &&& (1073741823 : Int32)) + (1 : Int32))) (4742290407625326592 : UInt64)))), .second, .val (.int (p2 &&& (3 : Int32))), .val (.int (p1 &&& (1073741823 : Int32)))] [])) _
    refine XS.dloadN X1.here hx rfl (hb hby at_77) rfl ?_
    show Steps p.tables e below (T1.setTop (mkF m 78 #[.val (.int p0), .val (.int p1), .val (.int p2), .val (.double (FP.dsub FP.dconst1 (FP.ddiv (FP.i2d ((p1 &&& (1073741823 : Int32)) + (1 : Int32))) (4742290407625326592 : UInt64)))), .second, .val (.int (p2 &&& (3 : Int32))), .val (.int (p1 &&& (1073741823 : Int32)))] [(.double (FP.dsub FP.dconst1 (FP.ddiv (FP.i2d ((p1 &&& (1073741823 : Int32)) + (1 : Int32))) (4742290407625326592 : UInt64))))])) _
    refine XS.dconst0 X1.here hx rfl (hb hby at_78) rfl ?_
    show Steps p.tables e below (T1.setTop (mkF m 79 #[.val (.int p0), .val (.int p1), .val (.int p2), .val (.double (FP.dsub FP.dconst1 (FP.ddiv (FP.i2d ((p1 &&& (1073741823 : Int32)) + (1 : Int32))) (4742290407625326592 : UInt64)))), .second, .val (.int (p2 &&& (3 : Int32))), .val (.int (p1 &&& (1073741823 : Int32)))] [(.double FP.dconst0), (.double (FP.dsub FP.dconst1 (FP.ddiv (FP.i2d ((p1 &&& (1073741823 : Int32)) + (1 : Int32))) (4742290407625326592 : UInt64))))])) _
    refine XS.dcmpS X1.here hx rfl (hb hby at_79) rfl (cmpV_l _) ?_
    show Steps p.tables e below (T1.setTop (mkF m 80 #[.val (.int p0), .val (.int p1), .val (.int p2), .val (.double (FP.dsub FP.dconst1 (FP.ddiv (FP.i2d ((p1 &&& (1073741823 : Int32)) + (1 : Int32))) (4742290407625326592 : UInt64)))), .second, .val (.int (p2 &&& (3 : Int32))), .val (.int (p1 &&& (1073741823 : Int32)))] [(.int (FP.cmpInt (-1) (FP.dcmp (FP.dsub FP.dconst1 (FP.ddiv (FP.i2d ((p1 &&& (1073741823 : Int32)) + (1 : Int32))) (4742290407625326592 : UInt64))) FP.dconst0)))])) _
    refine XS.ifNo X1.here hx rfl (hb hby at_80) rfl b80 ?_
    show Steps p.tables e below (T1.setTop (mkF m 83 #[.val (.int p0), .val (.int p1), .val (.int p2), .val (.double (FP.dsub FP.dconst1 (FP.ddiv (FP.i2d ((p1 &&& (1073741823 : Int32)) + (1 : Int32))) (4742290407625326592 : UInt64)))), .second, .val (.int (p2 &&& (3 : Int32))), .val (.int (p1 &&& (1073741823 : Int32)))] [])) _
    refine XS.dloadN X1.here hx rfl (hb hby at_83) rfl ?_
    show Steps p.tables e below (T1.setTop (mkF m 84 #[.val (.int p0), .val (.int p1), .val (.int p2), .val (.double (FP.dsub FP.dconst1 (FP.ddiv (FP.i2d ((p1 &&& (1073741823 : Int32)) + (1 : Int32))) (4742290407625326592 : UInt64)))), .second, .val (.int (p2 &&& (3 : Int32))), .val (.int (p1 &&& (1073741823 : Int32)))] [(.double (FP.dsub FP.dconst1 (FP.ddiv (FP.i2d ((p1 &&& (1073741823 : Int32)) + (1 : Int32))) (4742290407625326592 : UInt64))))])) _
    refine XS.dconst1 X1.here hx rfl (hb hby at_84) rfl ?_
    show Steps p.tables e below (T1.setTop (mkF m 85 #[.val (.int p0), .val (.int p1), .val (.int p2), .val (.double (FP.dsub FP.dconst1 (FP.ddiv (FP.i2d ((p1 &&& (1073741823 : Int32)) + (1 : Int32))) (4742290407625326592 : UInt64)))), .second, .val (.int (p2 &&& (3 : Int32))), .val (.int (p1 &&& (1073741823 : Int32)))] [(.double FP.dconst1), (.double (FP.dsub FP.dconst1 (FP.ddiv (FP.i2d ((p1 &&& (1073741823 : Int32)) + (1 : Int32))) (4742290407625326592 : UInt64))))])) _
    refine XS.dcmpS X1.here hx rfl (hb hby at_85) rfl (cmpV_g _) ?_
    show Steps p.tables e below (T1.setTop (mkF m 86 #[.val (.int p0), .val (.int p1), .val (.int p2), .val (.double (FP.dsub FP.dconst1 (FP.ddiv (FP.i2d ((p1 &&& (1073741823 : Int32)) + (1 : Int32))) (4742290407625326592 : UInt64)))), .second, .val (.int (p2 &&& (3 : Int32))), .val (.int (p1 &&& (1073741823 : Int32)))] [(.int (FP.cmpInt 1 (FP.dcmp (FP.dsub FP.dconst1 (FP.ddiv (FP.i2d ((p1 &&& (1073741823 : Int32)) + (1 : Int32))) (4742290407625326592 : UInt64))) FP.dconst1)))])) _
    refine XS.ifNo X1.here hx rfl (hb hby at_86) rfl b86 ?_
    show Steps p.tables e below (T1.setTop (mkF m 89 #[.val (.int p0), .val (.int p1), .val (.int p2), .val (.double (FP.dsub FP.dconst1 (FP.ddiv (FP.i2d ((p1 &&& (1073741823 : Int32)) + (1 : Int32))) (4742290407625326592 : UInt64)))), .second, .val (.int (p2 &&& (3 : Int32))), .val (.int (p1 &&& (1073741823 : Int32)))] [])) _
    refine XS.iconst X1.here hx rfl (hb hby at_89) ?_
    show Steps p.tables e below (T1.setTop (mkF m 90 #[.val (.int p0), .val (.int p1), .val (.int p2), .val (.double (FP.dsub FP.dconst1 (FP.ddiv (FP.i2d ((p1 &&& (1073741823 : Int32)) + (1 : Int32))) (4742290407625326592 : UInt64)))), .second, .val (.int (p2 &&& (3 : Int32))), .val (.int (p1 &&& (1073741823 : Int32)))] [(.int (1 : Int32))])) _
    refine XS.goto X1.here hx rfl (pc0 := 90) (pc' := 94) rfl (hb hby at_90) (by decide) (by decide) ?_
    show Steps p.tables e below (T1.setTop (mkF m 94 #[.val (.int p0), .val (.int p1), .val (.int p2), .val (.double (FP.dsub FP.dconst1 (FP.ddiv (FP.i2d ((p1 &&& (1073741823 : Int32)) + (1 : Int32))) (4742290407625326592 : UInt64)))), .second, .val (.int (p2 &&& (3 : Int32))), .val (.int (p1 &&& (1073741823 : Int32)))] [(.int (1 : Int32))])) _
    exact retN X1 hx (t := .boolean) Bd.returns (by simp) (hb hby at_94) hr
  · show QL n0 _ T1.heap _
    exact ⟨rfl, N1⟩
section Law
open Jvm.FP.Core Jvm.OwnF Jvm.Kit
def own_n (a : Int32) : Int32 := (a &&& (1073741823 : Int32)) + (1 : Int32)
def own_x (a : Int32) : UInt64 := FP.ddiv (FP.i2d (own_n a)) (4742290407625326592 : UInt64)
def own_y (a : Int32) : UInt64 := FP.dsub FP.dconst1 (own_x a)
theorem own_n_range (a : Int32) : 1 ≤ (own_n a).toInt ∧ (own_n a).toInt ≤ 1073741824 := by
  have h := i32_mask a 1073741823 (k := 30) (by decide) (by decide)
  have h1 : (1 : Int32).toInt = 1 := by decide
  unfold own_n
  rw [i32_add (by omega) (by omega)]
  omega
theorem own_K : Zm 4742290407625326592 = 1073741825 * one64 := by unfold Zm; decide +kernel
theorem own_Kf : DFin 4742290407625326592 := ⟨false, 4503599631564800, -22, by decide +kernel⟩
theorem own_Ks : sgn (val64 4742290407625326592) = false := by decide +kernel
theorem own_lo : Zm 4467570830351532032 = 2 ^ 1043 := by unfold Zm; decide +kernel
theorem own_los : sgn (val64 4467570830351532032) = false := by decide +kernel
theorem own_lof : DFin 4467570830351532032 := ⟨false, 2 ^ 52, -83, by decide +kernel⟩
theorem own_hi : Zm 4607182418795823104 = 2147483647 * 2 ^ 1043 := by unfold Zm; decide +kernel
theorem own_his : sgn (val64 4607182418795823104) = false := by decide +kernel
theorem own_hif : DFin 4607182418795823104 := ⟨false, 9007199250546688, -53, by decide +kernel⟩
theorem own_one : one64 = 2147483648 * 2 ^ 1043 := by
  rw [show (2147483648 : Nat) = 2 ^ 31 by decide, ← Nat.pow_add]; rfl
theorem own_xs (a : Int32) : DFin (own_x a) ∧ sgn (val64 (own_x a)) = false ∧ Zm (own_x a) ≤ 2147483647 * 2 ^ 1043 ∧ 2 ^ 1043 ≤ Zm (own_x a) := by
  obtain ⟨n1, n2⟩ := own_n_range a
  have FA := i2d_fin' (own_n a)
  have ZA := i2d_Zm (own_n a)
  have SA := i2d_sgn (x := own_n a) (by omega)
  have zb : Zm (4742290407625326592 : UInt64) ≠ 0 := Zm_ne own_K (by decide)
  have nn := ddiv_ne_nan FA own_Kf zb
  have le1 : Zm (own_x a) ≤ Zm (4607182418795823104 : UInt64) := by
    refine ddiv_le FA own_Kf zb own_hif.ne_nan ?_
    rw [ZA, own_K, own_hi, ← Nat.mul_assoc]
    refine Nat.mul_le_mul_right _ ?_
    have hk : (own_n a).toInt.natAbs * 2147483648 ≤ 2147483647 * 1073741825 := by omega
    calc (own_n a).toInt.natAbs * one64 = ((own_n a).toInt.natAbs * 2147483648) * 2 ^ 1043 := by rw [own_one, Nat.mul_assoc]
      _ ≤ (2147483647 * 1073741825) * 2 ^ 1043 := Nat.mul_le_mul_right _ hk
      _ = 2147483647 * 2 ^ 1043 * 1073741825 := Nat.mul_right_comm _ _ _
  have ge1 : Zm (4467570830351532032 : UInt64) ≤ Zm (own_x a) := by
    refine ddiv_ge FA own_Kf zb ?_
    rw [ZA, own_K, own_lo, ← Nat.mul_assoc]
    refine Nat.mul_le_mul_right _ ?_
    have hk : 1073741825 ≤ (own_n a).toInt.natAbs * 2147483648 := by omega
    calc 2 ^ 1043 * 1073741825 = 1073741825 * 2 ^ 1043 := Nat.mul_comm _ _
      _ ≤ ((own_n a).toInt.natAbs * 2147483648) * 2 ^ 1043 := Nat.mul_le_mul_right _ hk
      _ = (own_n a).toInt.natAbs * one64 := by rw [own_one, Nat.mul_assoc]
  refine ⟨fin_of_le nn own_hif le1, ?_, by rw [← own_hi]; exact le1, by rw [← own_lo]; exact ge1⟩
  have := ddiv_sgn FA own_Kf zb
  rw [SA, own_Ks] at this
  exact this
theorem own_pos43 : 0 < 2 ^ 1043 := Nat.two_pow_pos _
theorem own_xgt (a : Int32) : FP.dcmp (own_x a) FP.dconst0 = some .gt := by
  obtain ⟨F, S, L, G⟩ := own_xs a
  have := own_pos43
  exact pos_gt_zero F.ne_nan S (by omega)
theorem own_xlt (a : Int32) : FP.dcmp (own_x a) FP.dconst1 = some .lt := by
  obtain ⟨F, S, L, G⟩ := own_xs a
  refine lt_pos F.ne_nan fin_one.ne_nan S sgn_one ?_
  show _ < Zm 4607182418800017408
  rw [Zm_one, own_one]
  exact Nat.lt_of_le_of_lt L (Nat.mul_lt_mul_of_pos_right (by decide) own_pos43)
theorem own_ys (a : Int32) : val64 (own_y a) ≠ .nan ∧ Zv (own_y a) ≤ ((2147483647 * 2 ^ 1043 : Nat) : Int) ∧ ((2 ^ 1043 : Nat) : Int) ≤ Zv (own_y a) := by
  obtain ⟨F, S, L, G⟩ := own_xs a
  have z1 : Zv (4607182418800017408 : UInt64) = (one64 : Int) := by rw [Zv_pos sgn_one, Zm_one]
  have zx := Zv_pos S
  have ho := own_one
  have hh := own_hi
  have hl := own_lo
  generalize (2 : Nat) ^ 1043 = P at *
  refine ⟨dsub_ne_nan fin_one F, ?_, ?_⟩
  · have h := dsub_le (v := 4607182418795823104) fin_one F own_hif.ne_nan (by rw [z1, zx, Zv_pos own_his]; omega)
    rw [Zv_pos own_his] at h
    show Zv (dsub 4607182418800017408 (own_x a)) ≤ _
    omega
  · have h := dsub_ge (v := 4467570830351532032) fin_one F own_lof.ne_nan (by rw [z1, zx, Zv_pos own_los]; omega)
    rw [Zv_pos own_los] at h
    show _ ≤ Zv (dsub 4607182418800017408 (own_x a))
    omega
theorem own_ygt (a : Int32) : FP.dcmp (own_y a) FP.dconst0 = some .gt := by
  obtain ⟨N, L, G⟩ := own_ys a
  have h := cmp_Zv N (b := 0) (by rw [val64_zero]; nofun)
  rw [show Zv 0 = 0 from zval64_zero] at h
  refine h.trans ?_
  rw [Option.some.injEq, compare_gt_iff]
  have := own_pos43
  generalize (2 : Nat) ^ 1043 = P at *
  omega
theorem own_ylt (a : Int32) : FP.dcmp (own_y a) FP.dconst1 = some .lt := by
  obtain ⟨N, L, G⟩ := own_ys a
  refine (cmp_Zv N fin_one.ne_nan).trans ?_
  rw [Option.some.injEq, compare_lt_iff, Zv_pos sgn_one, Zm_one]
  have := own_pos43
  have ho := own_one
  generalize (2 : Nat) ^ 1043 = P at *
  omega
theorem own_le0 {a : UInt64} (h : FP.dcmp a FP.dconst0 = some .gt) : ifCond.holds .le (FP.cmpInt (-1) (FP.dcmp a FP.dconst0)) = false := by exact if_l_gt h (by decide)
theorem own_lt1 {a : UInt64} (h : FP.dcmp a FP.dconst1 = some .lt) : ifCond.holds .lt (FP.cmpInt 1 (FP.dcmp a FP.dconst1)) = true := by exact if_g_lt h (by decide)
theorem own_ge1 {a : UInt64} (h : FP.dcmp a FP.dconst1 = some .lt) : ifCond.holds .ge (FP.cmpInt 1 (FP.dcmp a FP.dconst1)) = false := by exact if_g_lt h (by decide)
theorem own_n50 (a : Int32) : NoNaN64 (own_x a) := noNaN (own_xs a).1.ne_nan
theorem own_n71 (a : Int32) : NoNaN64 (own_y a) := noNaN (own_ys a).1
theorem own_sel (p : Int32) : p &&& 3 = 0 ∨ p &&& 3 = 1 ∨ p &&& 3 = 2 ∨ p &&& 3 = 3 := by
  obtain ⟨h1, h2⟩ := and_bounds p (m := 3) (by decide)
  have h3 : (3 : Int32).toInt = 3 := by decide
  have h4 : (p &&& 3).toInt = 0 ∨ (p &&& 3).toInt = 1 ∨ (p &&& 3).toInt = 2 ∨ (p &&& 3).toInt = 3 := by omega
  rcases h4 with h | h | h | h
  · exact Or.inl (Int32.toInt_inj.mp (h.trans (by decide)))
  · exact Or.inr (Or.inl (Int32.toInt_inj.mp (h.trans (by decide))))
  · exact Or.inr (Or.inr (Or.inl (Int32.toInt_inj.mp (h.trans (by decide)))))
  · exact Or.inr (Or.inr (Or.inr (Int32.toInt_inj.mp (h.trans (by decide)))))
end Law
theorem own_rm0 (l : Launch) (Z : State) (a0 : Array Value) (hw : ∀ d ∈ tables_1, d.before a0 Z = true) (ws : List Jvm.Cond) (p0 p1 p2 : Int32) (h0 : Heap) (n0 : Nat) (Z0 : n0 ≤ h0.size) :
    MetFree l x (head1 (Jvm.Cond.code x code maxLocals ret :: ws) room_1) (fun a U => a = #[(.int p0), (.int p1), (.int p2)] ∧ Z.Warmed39 U.vm ∧ U.heap = h0) (fun _ _ _ _ _ => True) (fun _ U o U' => ∃ v L, o = .returned v ∧ QL n0 v U'.heap L ∧ FrameEnd U o U' L 0 0) := by
  rcases own_sel p2 with h | h | h | h
  · exact rm0_0 l Z a0 hw ws p0 p1 p2 h0 n0 Z0 (by rw [h]; decide) (by decide +kernel) (by decide +kernel) (by decide +kernel) (by decide +kernel)
  · exact rm0_1 l Z a0 hw ws p0 p1 p2 h0 n0 Z0 (by rw [h]; decide) (by rw [h]; decide) (by decide +kernel) (by decide +kernel) (by decide +kernel) (by decide +kernel)
  · exact rm0_2 l Z a0 hw ws p0 p1 p2 h0 n0 Z0 (by rw [h]; decide) (by rw [h]; decide) (by rw [h]; decide) (own_n50 p0) (own_le0 (own_xgt p0)) (own_lt1 (own_xlt p0)) (own_le0 (own_xgt p0)) (own_ge1 (own_xlt p0))
  · exact rm0_3 l Z a0 hw ws p0 p1 p2 h0 n0 Z0 (by rw [h]; decide) (by rw [h]; decide) (by rw [h]; decide) (own_n50 p1) (own_n71 p1) (own_le0 (own_ygt p1)) (own_lt1 (own_ylt p1)) (own_le0 (own_ygt p1)) (own_ge1 (own_ylt p1))

set_option maxRecDepth 65536 in
set_option maxHeartbeats 40000000 in
theorem comes_1 {Post : Tables → Env → Array Value → State → Outcome → State → Prop} (hpost : ∀ tb e args s v u, (limb_1_1.after args s (.returned v) u = true ∧ limb_1_2.after args s (.returned v) u = true ∧ True) → FrameEnd s (.returned v) u (Jvm.fieldLocs frame_1_writes args s ++ Jvm.arrayLocs frame_1_arrays args s ++ Jvm.staticLocs frame_1_statics s) 0 0 → Post tb e args s (.returned v) u) :
    ArmFor flags0 classFile x code maxLocals ret World_1 tables_1 room_1 Calls_1 rest_1 Pre_1 Post := by
  intro l hfl _ _ p e ha hc hk s m args below hf hA hF happ hP
  obtain ⟨hcalls, hrest, hpre⟩ := hP
  obtain ⟨-, -, -, hnamed, -, -, -, hat⟩ := (Spec.applies_iff hf).mp happ
  obtain ⟨hg, hn⟩ := and_e (Cond.before_iff.mp (show (Jvm.Cond.and given_1 narrow_1).before args s = true from hpre))
  obtain ⟨hcnt, g0⟩ := and_e hg
  obtain ⟨k0, g1⟩ := and_e g0
  obtain ⟨k1, g2⟩ := and_e g1
  obtain ⟨w0, w1, w2, rfl⟩ : ∃ w0 w1 w2 : Value, args = #[w0, w1, w2] := by
    have hs : args.size = 3 := by simpa [Cond.value, given_1] using hcnt
    obtain ⟨L⟩ := args
    match L, hs with
    | [w0, w1, w2], _ => exact ⟨w0, w1, w2, rfl⟩
  have hw := fun d (hd : d ∈ tables_1) => atoms_spec (ws := Jvm.Cond.code x code maxLocals ret :: tables_1) hat d (List.mem_cons_of_mem _ hd)
  have hfit : Fit s := fun {y c} hc i hi => by
    obtain ⟨ha, rfl⟩ := Array.getElem?_eq_some_iff.mp hc
    have q := List.all_eq_true.mp ((Array.all_eq_true_iff_forall_mem.mp hF) _ (Array.getElem_mem ha)) i (List.mem_range.mpr hi)
    simpa [Array.getElem?_eq_getElem hi] using q
  obtain ⟨i0, ei0⟩ := is_v k0
  obtain rfl : w0 = (.int i0) := Option.some.inj ei0
  obtain ⟨i1, ei1⟩ := is_v k1
  obtain rfl : w1 = (.int i1) := Option.some.inj ei1
  obtain ⟨i2, ei2⟩ := is_v g2
  obtain rfl : w2 = (.int i2) := Option.some.inj ei2
  obtain ⟨n, o, h1, h2, h3, _, L, rfl, ⟨rfl, N⟩, hq⟩ := own_rm0 l s _ hw tables_1 i0 i1 i2 s.heap s.heap.size (Nat.le_refl _) p e ha hc hk s m _ below hf ((Spec.applies_iff_loose hf).mp happ).1 ⟨rfl, State.Warmed39.refl s, rfl⟩ trivial
  refine ⟨n, _, h1, h2, h3, hpost _ _ _ _ _ _ ⟨Cond.after_iff.mpr rfl, Cond.after_iff.mpr (eq_i res_at (Term.int_eval (1)) rfl), trivial⟩ ⟨hq.1, hq.2.1, (hq.2.2.sift fun y hy => Or.inr (N y hy)).mono (by decide) (by decide)⟩⟩
theorem main_1_1 : Claimed_1_1 := comes_1 fun _ _ _ _ _ _ h hF => ⟨h.1, hF⟩
theorem main_1_2 : Claimed_1_2 := comes_1 fun _ _ _ _ _ _ h hF => ⟨h.2.1, hF⟩
end Jvm.Pilot.@@N@@
namespace Jvm.Pilot.@@N@@
open Jvm Jvm.ClassFile Sem Op Lib Jvm.Free Jvm.Stand Jvm.Pilot.@@N@@.Jvm.D
/-! MADE BY PROGRAM (witnessworld.py) out of the Statement's table words and the real class files: 9 classes; the members and pool entries that the words name. The judged class is class 1, her method 1. -/
namespace start1
open Jvm.ClassFile
def u (s : String) : CpInfo := .utf8 (stringToUtf16 s)
/-- a pool by its gaps: so many unusable entries, then the entry; so many at the end -/
def gap : Nat → List CpInfo → List CpInfo
  | 0, r => r
  | n + 1, r => .unusable :: gap n r
def poolList (es : List (Nat × CpInfo)) (last : Nat) : List CpInfo := es.foldr (fun e r => gap e.1 (e.2 :: r)) (gap last [])
def pool (es : List (Nat × CpInfo)) (last : Nat) : Array CpInfo := ⟨poolList es last⟩
def fileOf (pool : Array CpInfo) (this : Nat) (attrs : Array Attribute := #[]) (ms : Array MethodInfo := #[]) (fl : Nat := 33) (sup : Nat := 0) (ifs : Array Nat := #[]) (fds : Array FieldInfo := #[]) : ClassFile where
  minorVersion := 0
  majorVersion := 65
  constantPool := pool
  accessFlags := fl
  thisClass := this
  superClass := sup
  interfaces := ifs
  fields := fds
  methods := ms
  attributes := attrs
def plain (name : String) (sup : Option ClassId) : Class where
  name := name
  kind := .ordinary
  loader := none
  accessFlags := 33
  super := sup
  interfaces := #[]
  cf := none
  fields := #[]
  methods := #[]
  instanceTypes := #[]
  staticTypes := #[]
  resolved := #[]
  callSites := []
  init := .initialized
  statics := none
  mirror := none

def pool0 : Array CpInfo := pool [(5, u "<init>"), (0, u "()V"), (1, .class_ 10), (1, u "java/lang/Object")] 113

def k0m0 : Method := { name := "<init>", desc := "()V", sig := { parameters := [], returnType := none }, accessFlags := 1, code := none }
/-- java/lang/Object -/
def k0 : Class := { plain "java/lang/Object" none with
  accessFlags := 33
  interfaces := #[]
  cf := some (fileOf pool0 8 #[] #[{ accessFlags := 1, nameIndex := 5, descriptorIndex := 6, attributes := #[] }] 33 0 #[] #[])
  fields := #[]
  methods := #[k0m0]
  instanceTypes := #[]
  staticTypes := #[]
  resolved := Array.replicate 124 none
  statics := none }

def pool1 : Array CpInfo := pool [(2, .class_ 4), (1, u "java/lang/Object"), (0, u "<init>"), (0, u "()V"), (0, .double 1), (1, .double 4607182418800017407), (1, .integer 1073741823), (0, .double 4742290407625326592), (1, .methodref 15 16), (0, .class_ 17), (0, .nameAndType 18 19), (0, u "com/example/damping/damping/rank/PageRank"), (0, u "checkDamping"), (0, u "(D)V"), (0, .class_ 21), (0, u "com/example/damping/damping/rank/PageRankCheckDampingPinLaw"), (2, u "law"), (0, u "(III)Z")] 3

def k1m0 : Method := { name := "<init>", desc := "()V", sig := { parameters := [], returnType := none }, accessFlags := 2, code := none }
def k1c1 : Code := { maxStack := 6, maxLocals := 7, code := code, exceptionTable := #[], attributes := #[] }
def k1m1 : Method := { name := "law", desc := "(III)Z", sig := { parameters := [.int, .int, .int], returnType := some .boolean }, accessFlags := 9, code := some k1c1 }
/-- com/example/damping/damping/rank/PageRankCheckDampingPinLaw -/
def k1 : Class := { plain "com/example/damping/damping/rank/PageRankCheckDampingPinLaw" (some 0) with
  accessFlags := 49
  interfaces := #[]
  cf := some (fileOf pool1 20 #[] #[{ accessFlags := 2, nameIndex := 5, descriptorIndex := 6, attributes := #[] }, { accessFlags := 9, nameIndex := 24, descriptorIndex := 25, attributes := #[] }] 49 2 #[] #[])
  fields := #[]
  methods := #[k1m0, k1m1]
  instanceTypes := #[]
  staticTypes := #[]
  resolved := Array.replicate 29 none
  statics := none }

def pool2 : Array CpInfo := pool [(2, .class_ 4), (1, u "java/lang/Object"), (3, .class_ 10), (1, u "com/example/damping/damping/rank/PageRank"), (0, u "scores"), (0, u "[D"), (2, u "iterations"), (0, u "I"), (2, u "lastChange"), (0, u "D"), (2, u "converged"), (0, u "Z"), (36, u "(D)V"), (44, u "checkDamping"), (63, u "DEFAULT_ERROR_BOUND"), (1, u "MAX_UPDATES")] 47

def k2c0 : Code := { maxStack := 4, maxLocals := 2, code := prog_31_method_6_code, exceptionTable := #[], attributes := #[] }
def k2m0 : Method := { name := "checkDamping", desc := "(D)V", sig := { parameters := [.double], returnType := none }, accessFlags := 9, code := some k2c0 }
/-- com/example/damping/damping/rank/PageRank -/
def k2 : Class := { plain "com/example/damping/damping/rank/PageRank" (some 0) with
  accessFlags := 49
  interfaces := #[]
  cf := some (fileOf pool2 8 #[] #[{ accessFlags := 9, nameIndex := 106, descriptorIndex := 61, attributes := #[] }] 49 2 #[] #[{ accessFlags := 26, nameIndex := 170, descriptorIndex := 20, attributes := #[] }, { accessFlags := 26, nameIndex := 172, descriptorIndex := 16, attributes := #[] }, { accessFlags := 18, nameIndex := 11, descriptorIndex := 12, attributes := #[] }, { accessFlags := 18, nameIndex := 15, descriptorIndex := 16, attributes := #[] }, { accessFlags := 18, nameIndex := 19, descriptorIndex := 20, attributes := #[] }, { accessFlags := 18, nameIndex := 23, descriptorIndex := 24, attributes := #[] }])
  fields := #[{ name := "DEFAULT_ERROR_BOUND", type := .double, accessFlags := 26, slot := 0, constantValue := 0 }, { name := "MAX_UPDATES", type := .int, accessFlags := 26, slot := 1, constantValue := 0 }, { name := "scores", type := (.array .double), accessFlags := 18, slot := 0, constantValue := 0 }, { name := "iterations", type := .int, accessFlags := 18, slot := 1, constantValue := 0 }, { name := "lastChange", type := .double, accessFlags := 18, slot := 2, constantValue := 0 }, { name := "converged", type := .boolean, accessFlags := 18, slot := 3, constantValue := 0 }]
  methods := #[k2m0]
  instanceTypes := #[(.array .double), .int, .double, .boolean]
  staticTypes := #[.double, .int]
  resolved := Array.replicate 220 none
  statics := none }

def pool3 : Array CpInfo := pool [(1, u "java/lang/Cloneable"), (0, .class_ 1), (0, u "java/lang/Object"), (0, .class_ 3)] 3

/-- java/lang/Cloneable -/
def k3 : Class := { plain "java/lang/Cloneable" (some 0) with
  accessFlags := 1537
  interfaces := #[]
  cf := some (fileOf pool3 2 #[] #[] 1537 4 #[] #[])
  fields := #[]
  methods := #[]
  instanceTypes := #[]
  staticTypes := #[]
  resolved := Array.replicate 8 none
  statics := none }

def pool4 : Array CpInfo := pool [(1, u "java/io/Serializable"), (0, .class_ 1), (0, u "java/lang/Object"), (0, .class_ 3)] 3

/-- java/io/Serializable -/
def k4 : Class := { plain "java/io/Serializable" (some 0) with
  accessFlags := 1537
  interfaces := #[]
  cf := some (fileOf pool4 2 #[] #[] 1537 4 #[] #[])
  fields := #[]
  methods := #[]
  instanceTypes := #[]
  staticTypes := #[]
  resolved := Array.replicate 8 none
  statics := none }

/-- the primitive byte -/
def k5 : Class := { plain "byte" none with kind := .primitive 'B', accessFlags := 0x411 }
/-- [B -/
def k6 : Class := { plain "[B" (some 0) with kind := .array 5 .byte, interfaces := #[3, 4], accessFlags := 1041 }

/-- the primitive int -/
def k7 : Class := { plain "int" none with kind := .primitive 'I', accessFlags := 0x411 }
/-- [I -/
def k8 : Class := { plain "[I" (some 0) with kind := .array 7 .int, interfaces := #[3, 4], accessFlags := 1041 }

def heap : Heap := #[]
def classes : Array Class := #[k0, k1, k2, k3, k4, k5, k6, k7, k8]
def interned : List (Array UInt16 × Addr) := []
def slotsUsed : Nat := 0
def theMethod : MethodId := ⟨1, 1⟩
def args0 : Array Value := #[.int 5, .int 3, .int 7]
def aboutOver (below : List Frame) : State where
  vm := { classes := classes, interned := interned.toArray }
  heap := heap
  slotsUsed := slotsUsed
  threads := #[{ frames := .invoking theMethod args0 :: below }]
def below0 : List Frame := [.native { method := ⟨0, 0⟩, args := #[] }]
def about1 : State := aboutOver below0
def p0 : Program := .bare "" "" ""
def e0 : Env := launch0.env 0 0 0
theorem w_frames : about1.frames = Frame.invoking theMethod args0 :: below0 := rfl
set_option maxRecDepth 65536 in
theorem w_args : argsFit about1.vm theMethod args0 = true := by decide +kernel
set_option maxRecDepth 65536 in
theorem w_heap : heapFits about1 = true := by decide +kernel
set_option maxRecDepth 65536 in
theorem w_runnable : about1.curStatus? = some .runnable := by decide +kernel
set_option maxRecDepth 65536 in
theorem w_alone : about1.alone = true := by decide +kernel
set_option maxRecDepth 65536 in
theorem w_named : about1.methodNamed? x = some theMethod := by decide +kernel
set_option maxRecDepth 65536 in
theorem w_hears : about1.hears theMethod below0 = true := by decide +kernel
set_option maxRecDepth 65536 in
theorem w_ripe : about1.ripe theMethod args0 below0 = true := by decide +kernel
theorem w_running : about1.status = .running := rfl
set_option maxRecDepth 65536 in
theorem w_room : about1.hasRoom e0.platform room_1 = true :=
  launch0.hasRoom_least _ room_1 (by decide +kernel) (by decide +kernel) (by decide +kernel) (by decide +kernel) (by decide +kernel) (by decide +kernel)
theorem allAtoms_all (ts : List Jvm.Cond) (a : Array Jvm.Value) (st : Jvm.State) : (allAtoms ts).before a st = ts.all (fun c => c.before a st) := by
  induction ts with
  | nil => rfl
  | cons c t ih =>
    show (Jvm.Cond.and c (allAtoms t)).before a st = _
    rw [Jvm.Cond.before_and, ih, List.all_cons]
def words1 : List Jvm.Cond := Jvm.Cond.code x code maxLocals ret :: tables_1
/-- a 'code' word, met by the world's own term for the bytes: nothing is compared byte by byte -/
theorem code_word {y : MethodName} {bytes : ByteArray} {mx : Nat} {rt : Option FieldType} {a : Array Value} {s : State} {m : MethodId} {meth : Method} {c : Code} (h1 : s.methodNamed? y = some m) (h2 : s.vm.method? m = some meth) (h3 : meth.code = some c) (h4 : c.code = bytes)
    (h5 : (c.maxLocals == mx && c.exceptionTable.isEmpty && decide (c.maxStack ≤ mostOperands) && decide (meth.sig.returnType = rt) && !meth.locks && decide (parseMethodDescriptor y.desc = some meth.sig)) = true) : (Jvm.Cond.code y bytes mx rt).before a s = true := by
  simp only [Bool.and_eq_true, beq_iff_eq, Bool.not_eq_true', decide_eq_true_eq] at h5
  obtain ⟨⟨⟨⟨⟨g1, g2⟩, g3⟩, g4⟩, g5⟩, g6⟩ := h5
  simp [Cond.before, Cond.holds, Cond.value, h1, h2, h3, h4, g1, g2, g3, g4, g5, g6]
def isCode : Jvm.Cond → Bool
  | .code _ _ _ _ => true
  | _ => false
theorem all_split {L : List Jvm.Cond} {P : Jvm.Cond → Bool} (h1 : L.all (fun c => isCode c || P c) = true) (h2 : ∀ c ∈ L.filter isCode, P c = true) : L.all P = true := by
  refine List.all_eq_true.mpr fun c hc => ?_
  have h := List.all_eq_true.mp h1 c hc
  rcases Bool.eq_false_or_eq_true (isCode c) with hi | hi
  · exact h2 c (List.mem_filter.mpr ⟨hc, hi⟩)
  · simpa [hi] using h
set_option maxRecDepth 65536 in
theorem w_c0 : (Jvm.Cond.code x code maxLocals ret).before args0 about1 = true := code_word (m := ⟨1, 1⟩) (meth := k1m1) (c := k1c1) (by decide +kernel) rfl rfl rfl (by decide +kernel)
set_option maxRecDepth 65536 in
theorem w_c1 : (Jvm.Cond.code ({ cls := "com/example/damping/damping/rank/PageRank", name := "checkDamping", desc := "(D)V" } : Jvm.MethodName) prog_31_method_6_code (2 : Nat) (Option.none : Option Jvm.ClassFile.FieldType)).before args0 about1 = true := code_word (m := ⟨2, 0⟩) (meth := k2m0) (c := k2c0) (by decide +kernel) rfl rfl rfl (by decide +kernel)
def codes1 : List Jvm.Cond := [Jvm.Cond.code x code maxLocals ret, Jvm.Cond.code ({ cls := "com/example/damping/damping/rank/PageRank", name := "checkDamping", desc := "(D)V" } : Jvm.MethodName) prog_31_method_6_code (2 : Nat) (Option.none : Option Jvm.ClassFile.FieldType)]
set_option maxRecDepth 65536 in
theorem codes_eq : words1.filter isCode = codes1 := rfl
theorem w_codes : ∀ c ∈ words1.filter isCode, c.before args0 about1 = true := by
  rw [codes_eq]
  intro c hc
  simp only [codes1, List.mem_cons, List.not_mem_nil, or_false] at hc
  rcases hc with rfl | rfl
  · exact w_c0
  · exact w_c1
set_option maxRecDepth 65536 in
theorem w_t1 : words1.all (fun c => isCode c || c.before args0 about1) = true := by decide +kernel
theorem w_tables : (allAtoms (Jvm.Cond.code x code maxLocals ret :: tables_1)).before args0 about1 = true := by
  rw [allAtoms_all]
  show words1.all (fun c => c.before args0 about1) = true
  refine all_split ?_ w_codes
  rw [w_t1]
set_option maxRecDepth 65536 in
theorem w_case : (Jvm.Cond.and given_1 narrow_1).before args0 about1 = true := by decide +kernel
theorem w_applies : (headSpec (Jvm.Cond.code x code maxLocals ret :: tables_1) room_1).applies x e0.platform about1 = true :=
  (Spec.applies_iff w_frames).mpr ⟨w_running, w_runnable, w_alone, w_named, w_hears, w_ripe, w_room, w_tables⟩
theorem atStart : AtStart classFile x code maxLocals ret World_1 tables_1 room_1 Calls_1 rest_1 Pre_1 launch0 p0 e0 about1 theMethod args0 below0 :=
  ⟨lists_1, trivial, launch0.admits_env _ _ _, launch0.least_env, fairChoices_fair.cas, fairChoices_fair.clock, w_frames, w_args, w_heap, w_applies, trivial, trivial, w_case⟩
end start1
theorem witness_1 : WitnessClaimed_1 := ⟨start1.p0, start1.e0, start1.about1, start1.theMethod, start1.args0, start1.below0, start1.atStart⟩
end Jvm.Pilot.@@N@@
