import JvmDerived
import JvmDerived.Pilot.@@N@@Statement
import JvmDerived.Pilot.@@N@@Code
set_option linter.unusedVariables false
set_option linter.unusedSimpArgs false
@@BLOCK:NumsL.lean.txt@@
namespace Jvm.OwnF
open Sem ClassFile Op Lib Jvm.Stand Jvm.Free Jvm.LawKit Jvm.RoadKit Jvm.Free.Fl
section Ret
variable {p : Program} {l : Launch} {e : Env} {R : Room} {s : State} {m : MethodId} {args : Array Value} {below : List Frame} {meth : Method} {c : Code} {T : State} {locs : List Loc} {cells slots : Nat}
theorem retD (X : Stand p l e R s m args below meth c T locs cells slots) (hx : p.tables.exec = Jvm.exec) {pc : Nat} {Ls : Array Slot} {z : UInt64} {rest : List Value} (hret : meth.sig.returnType = some .double) (hd : decode c.code pc = .ok (.dreturn, 1)) {fs : List Frame}
    (hl : ∀ (f : JFrame) (acts : List Action), f.method = m → f.locked = none → f.entered = [] → (doReturn e (T.setTop f) acts (some (.double z))).1 = T.setFrames fs) : Steps p.tables e below (T.setTop (mkF m pc Ls (.double z :: rest))) (T.setFrames fs) :=
  retOut X hx hret rfl (Or.inr (Or.inr (Or.inl ⟨rfl, rfl, z, rfl⟩))) hd hl
theorem retJ (X : Stand p l e R s m args below meth c T locs cells slots) (hx : p.tables.exec = Jvm.exec) {pc : Nat} {Ls : Array Slot} {z : Int64} {rest : List Value} (hret : meth.sig.returnType = some .long) (hd : decode c.code pc = .ok (.lreturn, 1)) {fs : List Frame}
    (hl : ∀ (f : JFrame) (acts : List Action), f.method = m → f.locked = none → f.entered = [] → (doReturn e (T.setTop f) acts (some (.long z))).1 = T.setFrames fs) : Steps p.tables e below (T.setTop (mkF m pc Ls (.long z :: rest))) (T.setFrames fs) :=
  retOut X hx hret rfl (Or.inr (Or.inl ⟨rfl, rfl, z, rfl⟩)) hd hl
theorem retI (X : Stand p l e R s m args below meth c T locs cells slots) (hx : p.tables.exec = Jvm.exec) {pc : Nat} {Ls : Array Slot} {z : Int32} {rest : List Value} (hret : meth.sig.returnType = some .int) (hd : decode c.code pc = .ok (.ireturn, 1)) {fs : List Frame}
    (hl : ∀ (f : JFrame) (acts : List Action), f.method = m → f.locked = none → f.entered = [] → (doReturn e (T.setTop f) acts (some (.int z))).1 = T.setFrames fs) : Steps p.tables e below (T.setTop (mkF m pc Ls (.int z :: rest))) (T.setFrames fs) :=
  retOut X hx hret rfl (Or.inl ⟨rfl, Or.inl rfl, z, rfl⟩) hd hl
theorem retA (X : Stand p l e R s m args below meth c T locs cells slots) (hx : p.tables.exec = Jvm.exec) {pc : Nat} {Ls : Array Slot} {w : Value} {t : FieldType} {rest : List Value} (hret : meth.sig.returnType = some t) (ht : t.isReference = true) (hw : w.isRef = true) (hd : decode c.code pc = .ok (.areturn, 1)) {fs : List Frame}
    (hl : ∀ (f : JFrame) (acts : List Action), f.method = m → f.locked = none → f.entered = [] → (doReturn e (T.setTop f) acts (some w)).1 = T.setFrames fs) : Steps p.tables e below (T.setTop (mkF m pc Ls (w :: rest))) (T.setFrames fs) :=
  retOut X hx hret (by rcases ref_cases hw with rfl | ⟨a, rfl⟩ <;> cases t <;> first | rfl | (cases ht; done)) (Or.inr (Or.inr (Or.inr (Or.inr ⟨rfl, ht, hw⟩)))) hd hl
end Ret
end Jvm.OwnF
namespace Jvm.OwnF
open Jvm.FP.Core
/-- a double's magnitude, in units of 2^-1074 -/
def Zm (a : UInt64) : Nat := zmag b64 (val64 a)
/-- a double's value, in units of 2^-1074 -/
def Zv (a : UInt64) : Int := zval b64 (val64 a)
theorem one64_pow : one64 = 2 ^ 1074 := rfl
theorem fin_form {a : UInt64} (h : DFin a) : ∃ s c q, val64 a = .fin s c q ∧ b64.qmin ≤ q ∧ Zm a = c * 2 ^ (q + 1074).toNat ∧ sgn (val64 a) = s := by
  obtain ⟨s, c, q, e⟩ := h
  have f := val64_fits a
  rw [e] at f
  refine ⟨s, c, q, e, f.2.1, ?_, by rw [e]; rfl⟩
  unfold Zm
  rw [e]
  show c * 2 ^ (q - b64.qmin).toNat = _
  rw [qmin_b64, show q - (-1074) = q + 1074 by omega]
theorem ddiv_form {a b : UInt64} (ha : DFin a) (hb : DFin b) (hz : Zm b ≠ 0) :
    val64 (ddiv a b) = roundRatio b64 (sgn (val64 a) != sgn (val64 b)) (Zm a) (Zm b) 0 := by
  obtain ⟨s, c, q, ea, hq, za, sa⟩ := fin_form ha
  obtain ⟨t, d, r, eb, hr, zb, sb⟩ := fin_form hb
  rw [qmin_b64] at hq hr
  have hd : d ≠ 0 := fun h => hz (by rw [zb, h, Nat.zero_mul])
  rw [val64_ddiv, sa, sb, za, zb, ea, eb]
  show (if d = 0 then _ else roundRatio b64 (s != t) c d (q - r)) = _
  rw [if_neg hd]
  refine roundRatio_congr (Nat.pos_of_ne_zero hd) (Nat.mul_pos (Nat.pos_of_ne_zero hd) (Nat.two_pow_pos _)) ?_
  have e1 : (q - r - 0).toNat + (r + 1074).toNat = (q + 1074).toNat + (0 - (q - r)).toNat := by omega
  calc c * (d * 2 ^ (r + 1074).toNat) * 2 ^ (q - r - 0).toNat = c * d * (2 ^ ((q - r - 0).toNat + (r + 1074).toNat)) := by
        rw [Nat.pow_add]; simp only [Nat.mul_assoc, Nat.mul_comm, Nat.mul_left_comm]
    _ = c * d * (2 ^ ((q + 1074).toNat + (0 - (q - r)).toNat)) := by rw [e1]
    _ = c * 2 ^ (q + 1074).toNat * d * 2 ^ (0 - (q - r)).toNat := by
        rw [Nat.pow_add]; simp only [Nat.mul_assoc, Nat.mul_comm, Nat.mul_left_comm]
theorem inU (A : Nat) : inUnits A 0 (-1074) = A * one64 := rfl
theorem ddiv_ne_nan {a b : UInt64} (ha : DFin a) (hb : DFin b) (hz : Zm b ≠ 0) : val64 (ddiv a b) ≠ .nan := by
  rw [ddiv_form ha hb hz]; exact roundRatio_ne_nan _ _ _ _ _
theorem ddiv_sgn {a b : UInt64} (ha : DFin a) (hb : DFin b) (hz : Zm b ≠ 0) : sgn (val64 (ddiv a b)) = (sgn (val64 a) != sgn (val64 b)) := by
  rw [ddiv_form ha hb hz]; exact sgn_roundRatio _ _ _ _ _
theorem ddiv_le {a b v : UInt64} (ha : DFin a) (hb : DFin b) (hz : Zm b ≠ 0) (hv : val64 v ≠ .nan) (h : Zm a * one64 ≤ Zm v * Zm b) : Zm (ddiv a b) ≤ Zm v := by
  unfold Zm
  rw [ddiv_form ha hb hz]
  refine zmag_roundRatio_le good_b64 (Nat.pos_of_ne_zero hz) (val64_fits v) hv (e0 := -1074) (by decide) (by decide) ?_
  rw [inU, show (b64.qmin - -1074).toNat = 0 by decide, Nat.pow_zero, Nat.mul_one]
  exact h
theorem ddiv_ge {a b v : UInt64} (ha : DFin a) (hb : DFin b) (hz : Zm b ≠ 0) (h : Zm v * Zm b ≤ Zm a * one64) : Zm v ≤ Zm (ddiv a b) := by
  show _ ≤ zmag b64 _
  rw [ddiv_form ha hb hz]
  refine zmag_roundRatio_ge good_b64 (Nat.pos_of_ne_zero hz) (val64_fits v) (e0 := -1074) (by decide) (by decide) ?_
  rw [inU, show (b64.qmin - -1074).toNat = 0 by decide, Nat.pow_zero, Nat.mul_one]
  exact h
theorem fin_iff_Zm {a : UInt64} (h : val64 a ≠ .nan) : DFin a ↔ Zm a < Zm 9218868437227405312 := by
  have hi : val64 9218868437227405312 = .inf false := by decide +kernel
  constructor
  · intro hf
    have := hf.zval_lt
    unfold Zm
    rw [hi]
    exact this
  · intro hl
    cases e : val64 a with
    | nan => exact absurd e h
    | inf s => unfold Zm at hl; rw [hi, e] at hl; exact absurd hl (Nat.lt_irrefl _)
    | fin s c q => exact ⟨s, c, q, e⟩
theorem fin_of_le {a v : UInt64} (h : val64 a ≠ .nan) (hv : DFin v) (hl : Zm a ≤ Zm v) : DFin a :=
  (fin_iff_Zm h).mpr (Nat.lt_of_le_of_lt hl ((fin_iff_Zm hv.ne_nan).mp hv))
theorem Zv_pos {a : UInt64} (hs : sgn (val64 a) = false) : Zv a = (Zm a : Int) := by
  unfold Zv Zm zval signed
  rw [hs]; simp
theorem Zv_neg {a : UInt64} (hs : sgn (val64 a) = true) : Zv a = -(Zm a : Int) := by
  unfold Zv Zm zval signed
  rw [hs]; simp
theorem cmp_Zv {a b : UInt64} (ha : val64 a ≠ .nan) (hb : val64 b ≠ .nan) : dcmp a b = some (compare (Zv a) (Zv b)) := dcmp_zval ha hb
theorem Zm_DInt {i : Int} {a : UInt64} (h : DInt i a) : Zm a = i.natAbs * one64 := by
  have h1 := DInt_zval h
  have h2 : (zval b64 (val64 a)).natAbs = Zm a := by unfold zval Zm; exact natAbs_signed _ _
  rw [← h2, h1, Int.natAbs_mul]; rfl
theorem DInt_fin {i : Int} {a : UInt64} (h : DInt i a) : DFin a := by
  unfold DInt at h
  cases e : val64 a with
  | nan => rw [e] at h; exact h.elim
  | inf s => rw [e] at h; exact h.elim
  | fin s c q => exact ⟨s, c, q, e⟩
theorem DInt_sgn {i : Int} {a : UInt64} (h : DInt i a) (hi : i ≠ 0) : sgn (val64 a) = decide (i < 0) := by
  obtain ⟨s, c, q, e⟩ := DInt_fin h
  unfold DInt at h
  rw [e] at h ⊢
  exact whole_sign h hi
/-- equal magnitudes, equal signs, nonzero: the same double -/
theorem eq_of_Zm {a b : UInt64} (ha : val64 a ≠ .nan) (hb : val64 b ≠ .nan) (hs : sgn (val64 a) = sgn (val64 b)) (hm : Zm a = Zm b) (hz : Zm b ≠ 0) : a = b := by
  refine eq_bits (fun hzz => hz ?_) ?_
  · obtain ⟨s, q, e⟩ := hzz
    unfold Zm; rw [e]; exact Nat.zero_mul _
  · rw [cmp_Zv ha hb]
    have : Zv a = Zv b := by unfold Zv zval; rw [hs]; show signed _ (Zm a) = signed _ (Zm b); rw [hm]
    rw [this, compare_self_int]
theorem pos_gt_zero {a : UInt64} (ha : val64 a ≠ .nan) (hs : sgn (val64 a) = false) (hm : Zm a ≠ 0) : dcmp a 0 = some .gt := by
  rw [cmp_Zv ha (by rw [val64_zero]; nofun), Zv_pos hs, show Zv 0 = 0 from zval64_zero, Option.some.injEq, compare_gt_iff]
  omega
theorem cmp_pos {a b : UInt64} (ha : val64 a ≠ .nan) (hb : val64 b ≠ .nan) (hsa : sgn (val64 a) = false) (hsb : sgn (val64 b) = false) : dcmp a b = some (compare (Zm a : Int) (Zm b : Int)) := by
  rw [cmp_Zv ha hb, Zv_pos hsa, Zv_pos hsb]
theorem le_pos {a b : UInt64} (ha : val64 a ≠ .nan) (hb : val64 b ≠ .nan) (hsa : sgn (val64 a) = false) (hsb : sgn (val64 b) = false) (h : Zm a ≤ Zm b) : dcmp a b = some .lt ∨ dcmp a b = some .eq := by
  rw [cmp_pos ha hb hsa hsb, Option.some.injEq, Option.some.injEq, compare_lt_iff, compare_eq_iff]
  omega
theorem lt_pos {a b : UInt64} (ha : val64 a ≠ .nan) (hb : val64 b ≠ .nan) (hsa : sgn (val64 a) = false) (hsb : sgn (val64 b) = false) (h : Zm a < Zm b) : dcmp a b = some .lt := by
  rw [cmp_pos ha hb hsa hsb, Option.some.injEq, compare_lt_iff]
  omega
theorem dadd_le {a b v : UInt64} (ha : DFin a) (hb : DFin b) (hv : val64 v ≠ .nan) (h : Zv a + Zv b ≤ Zv v) : Zv (dadd a b) ≤ Zv v := by
  unfold Zv; rw [val64_dadd]; exact sum_le good_b64 ha hb (val64_fits a) (val64_fits b) (val64_fits v) hv h
theorem dadd_ge {a b v : UInt64} (ha : DFin a) (hb : DFin b) (hv : val64 v ≠ .nan) (h : Zv v ≤ Zv a + Zv b) : Zv v ≤ Zv (dadd a b) := by
  unfold Zv; rw [val64_dadd]; exact sum_ge good_b64 ha hb (val64_fits a) (val64_fits b) (val64_fits v) hv h
theorem fin_negate {a : UInt64} (h : DFin a) : ∃ s c q, negate (val64 a) = .fin s c q := by
  obtain ⟨s, c, q, e⟩ := h; rw [e]; exact ⟨_, _, _, rfl⟩
theorem dsub_le {a b v : UInt64} (ha : DFin a) (hb : DFin b) (hv : val64 v ≠ .nan) (h : Zv a - Zv b ≤ Zv v) : Zv (dsub a b) ≤ Zv v := by
  unfold Zv; rw [val64_dsub]
  refine sum_le good_b64 ha (fin_negate hb) (val64_fits a) (negate_fits (val64_fits b)) (val64_fits v) hv ?_
  rw [zval_negate]; unfold Zv at h; omega
theorem dsub_ge {a b v : UInt64} (ha : DFin a) (hb : DFin b) (hv : val64 v ≠ .nan) (h : Zv v ≤ Zv a - Zv b) : Zv v ≤ Zv (dsub a b) := by
  unfold Zv; rw [val64_dsub]
  refine sum_ge good_b64 ha (fin_negate hb) (val64_fits a) (negate_fits (val64_fits b)) (val64_fits v) hv ?_
  rw [zval_negate]; unfold Zv at h; omega
theorem dadd_ne_nan {a b : UInt64} (ha : DFin a) (hb : DFin b) : val64 (dadd a b) ≠ .nan := (notNaN_iff _).mp (dadd_out ha.notNaN hb)
theorem dsub_ne_nan {a b : UInt64} (ha : DFin a) (hb : DFin b) : val64 (dsub a b) ≠ .nan := (notNaN_iff _).mp (dsub_out ha.notNaN hb)
theorem dmul_ne_nan {a b : UInt64} (ha : DFin a) (hb : DFin b) : val64 (dmul a b) ≠ .nan := (notNaN_iff _).mp (dmul_out ha hb)
theorem dmul_form {a b : UInt64} (ha : DFin a) (hb : DFin b) : val64 (dmul a b) = roundRatio b64 (sgn (val64 a) != sgn (val64 b)) (Zm a * Zm b) 1 (-2148) := by
  obtain ⟨s, c, q, ea, hq, za, sa⟩ := fin_form ha
  obtain ⟨t, d, r, eb, hr, zb, sb⟩ := fin_form hb
  rw [qmin_b64] at hq hr
  rw [val64_dmul, sa, sb, za, zb, ea, eb]
  show roundRatio b64 (s != t) (c * d) 1 (q + r) = _
  refine roundRatio_congr (by decide) (by decide) ?_
  rw [show (-2148 - (q + r)).toNat = 0 by omega, show (q + r - -2148).toNat = (q + 1074).toNat + (r + 1074).toNat by omega, Nat.pow_add]
  simp only [Nat.mul_assoc, Nat.mul_comm, Nat.mul_left_comm, Nat.pow_zero, Nat.mul_one, Nat.one_mul]
theorem dmul_sgn {a b : UInt64} (ha : DFin a) (hb : DFin b) : sgn (val64 (dmul a b)) = (sgn (val64 a) != sgn (val64 b)) := by
  rw [dmul_form ha hb]; exact sgn_roundRatio _ _ _ _ _
theorem inU2 (A : Nat) : inUnits A (-2148) (-2148) = A := by unfold inUnits; rw [Int.sub_self]; exact Nat.mul_one _
theorem dmul_le {a b v : UInt64} (ha : DFin a) (hb : DFin b) (hv : val64 v ≠ .nan) (h : Zm a * Zm b ≤ Zm v * one64) : Zm (dmul a b) ≤ Zm v := by
  unfold Zm
  rw [dmul_form ha hb]
  refine zmag_roundRatio_le good_b64 (by decide) (val64_fits v) hv (e0 := -2148) (by decide) (by decide) ?_
  rw [inU2, Nat.mul_one, show (b64.qmin - -2148).toNat = 1074 by decide]
  exact h
theorem dmul_ge {a b v : UInt64} (ha : DFin a) (hb : DFin b) (h : Zm v * one64 ≤ Zm a * Zm b) : Zm v ≤ Zm (dmul a b) := by
  show _ ≤ zmag b64 _
  rw [dmul_form ha hb]
  refine zmag_roundRatio_ge good_b64 (by decide) (val64_fits v) (e0 := -2148) (by decide) (by decide) ?_
  rw [inU2, Nat.mul_one, show (b64.qmin - -2148).toNat = 1074 by decide]
  exact h
theorem noNaN {a : UInt64} (h : val64 a ≠ .nan) : Jvm.Free.Fl.NoNaN64 a := Jvm.Free.Fl.val64_no.mpr h
/-- powers of two up to 2^62, as a shift leaves them -/
theorem pow_l2d : ∀ k : Fin 63, val64 (l2d ((1 : Int64) <<< ((Int32.ofNat k.val) &&& 0x3f).toInt64)) = .fin false (2 ^ 52) ((k.val : Int) - 52) := by decide +kernel
theorem i32_of_lt {x : Int32} {n : Nat} (h0 : 0 ≤ x.toInt) (h : x.toInt < n) : ∃ k : Nat, k < n ∧ x = Int32.ofNat k := by
  refine ⟨x.toInt.toNat, by omega, ?_⟩
  apply Int32.toInt_inj.mp
  have := x.toInt_lt
  rw [Int32.toInt_ofNat_of_lt (by omega)]
  omega
theorem shl_l2d {x : Int32} (h0 : 0 ≤ x.toInt) (h : x.toInt < 63) : ∃ k : Nat, k < 63 ∧ x.toInt = k ∧ DFin (l2d ((1 : Int64) <<< (x &&& 0x3f).toInt64)) ∧ sgn (val64 (l2d ((1 : Int64) <<< (x &&& 0x3f).toInt64))) = false ∧ Zm (l2d ((1 : Int64) <<< (x &&& 0x3f).toInt64)) = 2 ^ k * one64 := by
  obtain ⟨k, hk, rfl⟩ := i32_of_lt (n := 63) h0 (by omega)
  have hp := pow_l2d ⟨k, hk⟩
  have hv : (Int32.ofNat k).toInt = k := Int32.toInt_ofNat_of_lt (by omega)
  refine ⟨k, hk, hv, ⟨_, _, _, hp⟩, by rw [hp]; rfl, ?_⟩
  unfold Zm
  rw [hp]
  show 2 ^ 52 * 2 ^ ((k : Int) - 52 - b64.qmin).toNat = _
  rw [qmin_b64, one64_pow, ← Nat.pow_add, ← Nat.pow_add]
  congr 1
  omega
theorem irem_range {x n : Int32} (hx : 0 ≤ x.toInt) (hn : 0 < n.toInt) : 0 ≤ (x - x / n * n).toInt ∧ (x - x / n * n).toInt < n.toInt := by
  have h1 : x - x / n * n = x % n := irem_eq_mod x n
  rw [h1, Int32.toInt_mod]
  exact ⟨Int.tmod_nonneg _ hx, by have := Int.tmod_lt_of_pos x.toInt hn; omega⟩
theorem and_bounds (x : Int32) {m : Int32} (hm : 0 ≤ m.toInt) : 0 ≤ (x &&& m).toInt ∧ (x &&& m).toInt ≤ m.toInt := by
  have h1 : (x &&& m).toInt = (x.toBitVec &&& m.toBitVec).toInt := rfl
  have h2 : m.toInt = m.toBitVec.toInt := rfl
  rw [h2, BitVec.toInt_eq_toNat_cond] at hm
  rw [h1, h2, BitVec.toInt_eq_toNat_cond, BitVec.toInt_eq_toNat_cond, BitVec.toNat_and]
  have h3 := Nat.and_le_right (n := x.toBitVec.toNat) (m := m.toBitVec.toNat)
  have h4 := m.toBitVec.isLt
  split at hm
  · rw [if_pos (by omega), if_pos (by omega)]; omega
  · omega
theorem and_range {x : Int32} : 0 ≤ (x &&& 2147483647).toInt := (and_bounds x (by decide)).1
theorem Zm_one : Zm 4607182418800017408 = one64 := by unfold Zm; decide +kernel
theorem fin_one : DFin 4607182418800017408 := ⟨false, 2 ^ 52, -52, by decide +kernel⟩
theorem sgn_one : sgn (val64 4607182418800017408) = false := by decide +kernel
theorem pow_split (m n : Nat) (h : m + n = 1074) : 2 ^ m * 2 ^ n = one64 := by rw [← Nat.pow_add, h]; rfl
theorem i2d_fin' (x : Int32) : DFin (i2d x) := DInt_fin (i2d_int x)
theorem i2d_Zm (x : Int32) : Zm (i2d x) = x.toInt.natAbs * one64 := Zm_DInt (i2d_int x)
theorem i2d_sgn {x : Int32} (h : 0 < x.toInt) : sgn (val64 (i2d x)) = false := by rw [DInt_sgn (i2d_int x) (by omega)]; simp; omega
theorem Zm_ne {a : UInt64} {n : Nat} (h : Zm a = n * one64) (hn : n ≠ 0) : Zm a ≠ 0 := by
  rw [h]; exact Nat.mul_ne_zero hn (by have := one64_pos; omega)
theorem if_l_gt {cd : Jvm.ClassFile.Cond} {a b : UInt64} {r : Bool} (h : Jvm.FP.dcmp a b = some .gt) (hr : Jvm.Op.ifCond.holds cd 1 = r) : Jvm.Op.ifCond.holds cd (Jvm.FP.cmpInt (-1) (Jvm.FP.dcmp a b)) = r := by rw [h]; exact hr
theorem if_l_eq {cd : Jvm.ClassFile.Cond} {a b : UInt64} {r : Bool} (h : Jvm.FP.dcmp a b = some .eq) (hr : Jvm.Op.ifCond.holds cd 0 = r) : Jvm.Op.ifCond.holds cd (Jvm.FP.cmpInt (-1) (Jvm.FP.dcmp a b)) = r := by rw [h]; exact hr
theorem if_l_lt {cd : Jvm.ClassFile.Cond} {a b : UInt64} {r : Bool} (h : Jvm.FP.dcmp a b = some .lt) (hr : Jvm.Op.ifCond.holds cd (-1) = r) : Jvm.Op.ifCond.holds cd (Jvm.FP.cmpInt (-1) (Jvm.FP.dcmp a b)) = r := by rw [h]; exact hr
theorem if_g_gt {cd : Jvm.ClassFile.Cond} {a b : UInt64} {r : Bool} (h : Jvm.FP.dcmp a b = some .gt) (hr : Jvm.Op.ifCond.holds cd 1 = r) : Jvm.Op.ifCond.holds cd (Jvm.FP.cmpInt 1 (Jvm.FP.dcmp a b)) = r := by rw [h]; exact hr
theorem if_g_eq {cd : Jvm.ClassFile.Cond} {a b : UInt64} {r : Bool} (h : Jvm.FP.dcmp a b = some .eq) (hr : Jvm.Op.ifCond.holds cd 0 = r) : Jvm.Op.ifCond.holds cd (Jvm.FP.cmpInt 1 (Jvm.FP.dcmp a b)) = r := by rw [h]; exact hr
theorem if_g_lt {cd : Jvm.ClassFile.Cond} {a b : UInt64} {r : Bool} (h : Jvm.FP.dcmp a b = some .lt) (hr : Jvm.Op.ifCond.holds cd (-1) = r) : Jvm.Op.ifCond.holds cd (Jvm.FP.cmpInt 1 (Jvm.FP.dcmp a b)) = r := by rw [h]; exact hr
theorem cmpl_gt {a b : UInt64} (h : Jvm.FP.dcmp a b = some .gt) : Jvm.FP.cmpInt (-1) (Jvm.FP.dcmp a b) = 1 := by rw [h]; rfl
theorem cmpg_gt {a b : UInt64} (h : Jvm.FP.dcmp a b = some .gt) : Jvm.FP.cmpInt 1 (Jvm.FP.dcmp a b) = 1 := by rw [h]; rfl
theorem cmpl_lt {a b : UInt64} (h : Jvm.FP.dcmp a b = some .lt) : Jvm.FP.cmpInt (-1) (Jvm.FP.dcmp a b) = -1 := by rw [h]; rfl
theorem cmpg_lt {a b : UInt64} (h : Jvm.FP.dcmp a b = some .lt) : Jvm.FP.cmpInt 1 (Jvm.FP.dcmp a b) = -1 := by rw [h]; rfl
theorem cmpl_eq {a b : UInt64} (h : Jvm.FP.dcmp a b = some .eq) : Jvm.FP.cmpInt (-1) (Jvm.FP.dcmp a b) = 0 := by rw [h]; rfl
theorem cmpg_eq {a b : UInt64} (h : Jvm.FP.dcmp a b = some .eq) : Jvm.FP.cmpInt 1 (Jvm.FP.dcmp a b) = 0 := by rw [h]; rfl
end Jvm.OwnF
namespace Jvm.Pilot.@@N@@
open Jvm Jvm.ClassFile Sem Op Lib Jvm.Free Jvm.Free.Fl Jvm.Stand Jvm.LawKit Jvm.RoadKit Bundle Jvm.Pilot.@@N@@.Jvm.D
def QP (r : Option Value) (h0 : Heap) (n0 : Nat) (v : Option Value) (h : Heap) (L : List Loc) : Prop := v = r ∧ Fr n0 L ∧ h = h0
def QL (n0 : Nat) (v : Option Value) (h : Heap) (L : List Loc) : Prop := v = some (.int 1) ∧ Fr n0 L
theorem d3_0 : decode prog_9_method_9_code 0 = .ok (.iload_n 0, 1) := by decide +kernel
theorem d3_1 : decode prog_9_method_9_code 1 = .ok (.i2l, 1) := by decide +kernel
theorem d3_2 : decode prog_9_method_9_code 2 = .ok (.ldc2_w 92, 3) := by decide +kernel
theorem d3_5 : decode prog_9_method_9_code 5 = .ok (.lmul, 1) := by decide +kernel
theorem d3_6 : decode prog_9_method_9_code 6 = .ok (.bipush 41, 2) := by decide +kernel
theorem d3_8 : decode prog_9_method_9_code 8 = .ok (.lshr, 1) := by decide +kernel
theorem d3_9 : decode prog_9_method_9_code 9 = .ok (.l2i, 1) := by decide +kernel
theorem d3_10 : decode prog_9_method_9_code 10 = .ok (.ireturn, 1) := by decide +kernel
def own_f10 (p0 : Int32) : Int32 := ((p0.toInt64 * (661971961083 : Int64)) >>> ((41 : Int32) &&& 0x3f).toInt64).toInt32
theorem pn_0 : plainName "com/example/sundry/sundry/ShortestDecimal" = true := by first | (simp [plainName, overriddenIn]; done) | decide +kernel
theorem ef_rmF (m : MethodId) (x0 : Int32) : entryFrame m #[(.int x0)] 1 = mkF m 0 #[.val (.int x0)] [] := by first | (simp [entryFrame, mkF, argsToLocals, Value.category]; done) | rfl
set_option maxRecDepth 65536 in
set_option maxHeartbeats 40000000 in
theorem rmF (l : Launch) (Z : State) (a0 : Array Value) (hw : ∀ d ∈ tables_1, d.before a0 Z = true) (ws : List Jvm.Cond)  (p0 : Int32) (h0 : Heap) (n0 : Nat) (Z0 : n0 ≤ h0.size)  :
    MetFree l (⟨"com/example/sundry/sundry/ShortestDecimal", "floorLog10Pow2", "(I)I"⟩ : MethodName) (head1 (Jvm.Cond.code (⟨"com/example/sundry/sundry/ShortestDecimal", "floorLog10Pow2", "(I)I"⟩ : MethodName) prog_9_method_9_code 1 (some .int) :: ws) ({ frames := 0, cells := 0, slots := 0, locals := 0 } : Room)) (fun a U => a = #[(.int p0)] ∧ Z.Warmed39 U.vm ∧ U.heap = h0) (fun _ _ _ _ _ => True) (fun _ U o U' => ∃ v L, o = .returned v ∧ QP (some (.int (own_f10 p0))) h0 n0 v U'.heap L ∧ FrameEnd U o U' L ({ frames := 0, cells := 0, slots := 0, locals := 0 } : Room).cells ({ frames := 0, cells := 0, slots := 0, locals := 0 } : Room).slots) := by
  refine MetFree.of_bodySF (plainFor_of_name pn_0) hisR ?_
  intro p e s m args below meth c s₁ Bd hml0 hP hK
  obtain ⟨rfl, hZ, hh⟩ := hP
  have hx := Bd.exec
  have hby := Bd.bytes
  have hml : c.maxLocals = 1 := hml0
  have hown : s.vm.findClass "com/example/sundry/sundry/ShortestDecimal" = some m.cls := findClass_of_methodNamed Bd.named
  have hnm := (name_of_methodNamed Bd.named Bd.method).1
  have X0 : Stand p l e ({ frames := 0, cells := 0, slots := 0, locals := 0 } : Room) s m #[(.int p0)] below meth c s₁ [] 0 0 := Stand.of_body Bd
  have e0 : s₁.heap = h0 := by rw [← hh, Bd.state]; rfl
  have N0 := Fr.nil n0
  have pre0 : ∀ t, Steps p.tables e below (s₁.setTop (mkF m 0 #[.val (.int p0)] [])) t → Steps p.tables e below (s₁.setTop (entryFrame m #[(.int p0)] 1)) t := fun t k => castTop (ef_rmF m p0) k
  obtain ⟨fs, hr, hrun, hended, hW, hsame⟩ := X0.leave (v := some (.int ((p0.toInt64 * (661971961083 : Int64)) >>> ((41 : Int32) &&& 0x3f).toInt64).toInt32)) (fun h => by rw [Bd.returns] at h; cases h)
  refine ⟨_, _, pre0 _ ?_, hrun, hended, _, _, rfl, ?_, ⟨_, rfl⟩, hW, hsame.mono (Nat.le_of_ble_eq_true rfl) (Nat.le_of_ble_eq_true rfl)⟩
  · show Steps p.tables e below (s₁.setTop (mkF m 0 #[.val (.int p0)] [])) _
    refine XS.iloadN X0.here hx rfl (hb hby d3_0) rfl ?_
    show Steps p.tables e below (s₁.setTop (mkF m 1 #[.val (.int p0)] [(.int p0)])) _
    refine XS.i2l X0.here hx rfl (hb hby d3_1) rfl ?_
    show Steps p.tables e below (s₁.setTop (mkF m 2 #[.val (.int p0)] [(.long p0.toInt64)])) _
    refine X0.ldc2Long hx hown (mvT hZ (hw _ (List.mem_of_getElem? (i := 17) rfl))) (g := (mkF m 2 #[.val (.int p0)] [(.long p0.toInt64)])) rfl (hb hby d3_2) _ ?_
    show Steps p.tables e below (s₁.setTop (mkF m 5 #[.val (.int p0)] [(.long (661971961083 : Int64)), (.long p0.toInt64)])) _
    refine XS.lmul X0.here hx rfl (hb hby d3_5) rfl ?_
    show Steps p.tables e below (s₁.setTop (mkF m 6 #[.val (.int p0)] [(.long (p0.toInt64 * (661971961083 : Int64)))])) _
    refine XS.bipush X0.here hx rfl (hb hby d3_6) ?_
    show Steps p.tables e below (s₁.setTop (mkF m 8 #[.val (.int p0)] [(.int (41 : Int32)), (.long (p0.toInt64 * (661971961083 : Int64)))])) _
    refine XS.lshr X0.here hx rfl (hb hby d3_8) rfl ?_
    show Steps p.tables e below (s₁.setTop (mkF m 9 #[.val (.int p0)] [(.long ((p0.toInt64 * (661971961083 : Int64)) >>> ((41 : Int32) &&& 0x3f).toInt64))])) _
    refine XS.l2i X0.here hx rfl (hb hby d3_9) rfl ?_
    show Steps p.tables e below (s₁.setTop (mkF m 10 #[.val (.int p0)] [(.int ((p0.toInt64 * (661971961083 : Int64)) >>> ((41 : Int32) &&& 0x3f).toInt64).toInt32)])) _
    exact OwnF.retI X0 hx Bd.returns (hb hby d3_10) hr
  · show QP (some (.int (own_f10 p0))) h0 n0 _ s₁.heap _
    rw [e0]
    exact ⟨rfl, N0, rfl⟩
theorem d6_0 : decode prog_9_method_10_code 0 = .ok (.iload_n 0, 1) := by decide +kernel
theorem d6_1 : decode prog_9_method_10_code 1 = .ok (.i2l, 1) := by decide +kernel
theorem d6_2 : decode prog_9_method_10_code 2 = .ok (.ldc2_w 92, 3) := by decide +kernel
theorem d6_5 : decode prog_9_method_10_code 5 = .ok (.lmul, 1) := by decide +kernel
theorem d6_6 : decode prog_9_method_10_code 6 = .ok (.ldc2_w 94, 3) := by decide +kernel
theorem d6_9 : decode prog_9_method_10_code 9 = .ok (.lsub, 1) := by decide +kernel
theorem d6_10 : decode prog_9_method_10_code 10 = .ok (.bipush 41, 2) := by decide +kernel
theorem d6_12 : decode prog_9_method_10_code 12 = .ok (.lshr, 1) := by decide +kernel
theorem d6_13 : decode prog_9_method_10_code 13 = .ok (.l2i, 1) := by decide +kernel
theorem d6_14 : decode prog_9_method_10_code 14 = .ok (.ireturn, 1) := by decide +kernel
def own_f34 (p0 : Int32) : Int32 := (((p0.toInt64 * (661971961083 : Int64)) - (274743187320 : Int64)) >>> ((41 : Int32) &&& 0x3f).toInt64).toInt32
theorem ef_rmQ (m : MethodId) (x0 : Int32) : entryFrame m #[(.int x0)] 1 = mkF m 0 #[.val (.int x0)] [] := by first | (simp [entryFrame, mkF, argsToLocals, Value.category]; done) | rfl
set_option maxRecDepth 65536 in
set_option maxHeartbeats 40000000 in
theorem rmQ (l : Launch) (Z : State) (a0 : Array Value) (hw : ∀ d ∈ tables_1, d.before a0 Z = true) (ws : List Jvm.Cond)  (p0 : Int32) (h0 : Heap) (n0 : Nat) (Z0 : n0 ≤ h0.size)  :
    MetFree l (⟨"com/example/sundry/sundry/ShortestDecimal", "floorLog10ThreeQuartersPow2", "(I)I"⟩ : MethodName) (head1 (Jvm.Cond.code (⟨"com/example/sundry/sundry/ShortestDecimal", "floorLog10ThreeQuartersPow2", "(I)I"⟩ : MethodName) prog_9_method_10_code 1 (some .int) :: ws) ({ frames := 0, cells := 0, slots := 0, locals := 0 } : Room)) (fun a U => a = #[(.int p0)] ∧ Z.Warmed39 U.vm ∧ U.heap = h0) (fun _ _ _ _ _ => True) (fun _ U o U' => ∃ v L, o = .returned v ∧ QP (some (.int (own_f34 p0))) h0 n0 v U'.heap L ∧ FrameEnd U o U' L ({ frames := 0, cells := 0, slots := 0, locals := 0 } : Room).cells ({ frames := 0, cells := 0, slots := 0, locals := 0 } : Room).slots) := by
  refine MetFree.of_bodySF (plainFor_of_name pn_0) hisR ?_
  intro p e s m args below meth c s₁ Bd hml0 hP hK
  obtain ⟨rfl, hZ, hh⟩ := hP
  have hx := Bd.exec
  have hby := Bd.bytes
  have hml : c.maxLocals = 1 := hml0
  have hown : s.vm.findClass "com/example/sundry/sundry/ShortestDecimal" = some m.cls := findClass_of_methodNamed Bd.named
  have hnm := (name_of_methodNamed Bd.named Bd.method).1
  have X0 : Stand p l e ({ frames := 0, cells := 0, slots := 0, locals := 0 } : Room) s m #[(.int p0)] below meth c s₁ [] 0 0 := Stand.of_body Bd
  have e0 : s₁.heap = h0 := by rw [← hh, Bd.state]; rfl
  have N0 := Fr.nil n0
  have pre0 : ∀ t, Steps p.tables e below (s₁.setTop (mkF m 0 #[.val (.int p0)] [])) t → Steps p.tables e below (s₁.setTop (entryFrame m #[(.int p0)] 1)) t := fun t k => castTop (ef_rmQ m p0) k
  obtain ⟨fs, hr, hrun, hended, hW, hsame⟩ := X0.leave (v := some (.int (((p0.toInt64 * (661971961083 : Int64)) - (274743187320 : Int64)) >>> ((41 : Int32) &&& 0x3f).toInt64).toInt32)) (fun h => by rw [Bd.returns] at h; cases h)
  refine ⟨_, _, pre0 _ ?_, hrun, hended, _, _, rfl, ?_, ⟨_, rfl⟩, hW, hsame.mono (Nat.le_of_ble_eq_true rfl) (Nat.le_of_ble_eq_true rfl)⟩
  · show Steps p.tables e below (s₁.setTop (mkF m 0 #[.val (.int p0)] [])) _
    refine XS.iloadN X0.here hx rfl (hb hby d6_0) rfl ?_
    show Steps p.tables e below (s₁.setTop (mkF m 1 #[.val (.int p0)] [(.int p0)])) _
    refine XS.i2l X0.here hx rfl (hb hby d6_1) rfl ?_
    show Steps p.tables e below (s₁.setTop (mkF m 2 #[.val (.int p0)] [(.long p0.toInt64)])) _
    refine X0.ldc2Long hx hown (mvT hZ (hw _ (List.mem_of_getElem? (i := 17) rfl))) (g := (mkF m 2 #[.val (.int p0)] [(.long p0.toInt64)])) rfl (hb hby d6_2) _ ?_
    show Steps p.tables e below (s₁.setTop (mkF m 5 #[.val (.int p0)] [(.long (661971961083 : Int64)), (.long p0.toInt64)])) _
    refine XS.lmul X0.here hx rfl (hb hby d6_5) rfl ?_
    show Steps p.tables e below (s₁.setTop (mkF m 6 #[.val (.int p0)] [(.long (p0.toInt64 * (661971961083 : Int64)))])) _
    refine X0.ldc2Long hx hown (mvT hZ (hw _ (List.mem_of_getElem? (i := 33) rfl))) (g := (mkF m 6 #[.val (.int p0)] [(.long (p0.toInt64 * (661971961083 : Int64)))])) rfl (hb hby d6_6) _ ?_
    show Steps p.tables e below (s₁.setTop (mkF m 9 #[.val (.int p0)] [(.long (274743187320 : Int64)), (.long (p0.toInt64 * (661971961083 : Int64)))])) _
    refine XS.lsub X0.here hx rfl (hb hby d6_9) rfl ?_
    show Steps p.tables e below (s₁.setTop (mkF m 10 #[.val (.int p0)] [(.long ((p0.toInt64 * (661971961083 : Int64)) - (274743187320 : Int64)))])) _
    refine XS.bipush X0.here hx rfl (hb hby d6_10) ?_
    show Steps p.tables e below (s₁.setTop (mkF m 12 #[.val (.int p0)] [(.int (41 : Int32)), (.long ((p0.toInt64 * (661971961083 : Int64)) - (274743187320 : Int64)))])) _
    refine XS.lshr X0.here hx rfl (hb hby d6_12) rfl ?_
    show Steps p.tables e below (s₁.setTop (mkF m 13 #[.val (.int p0)] [(.long (((p0.toInt64 * (661971961083 : Int64)) - (274743187320 : Int64)) >>> ((41 : Int32) &&& 0x3f).toInt64))])) _
    refine XS.l2i X0.here hx rfl (hb hby d6_13) rfl ?_
    show Steps p.tables e below (s₁.setTop (mkF m 14 #[.val (.int p0)] [(.int (((p0.toInt64 * (661971961083 : Int64)) - (274743187320 : Int64)) >>> ((41 : Int32) &&& 0x3f).toInt64).toInt32)])) _
    exact OwnF.retI X0 hx Bd.returns (hb hby d6_14) hr
  · show QP (some (.int (own_f34 p0))) h0 n0 _ s₁.heap _
    rw [e0]
    exact ⟨rfl, N0, rfl⟩
theorem d2_0 : decode prog_9_method_5_code 0 = .ok (.iload_n 1, 1) := by decide +kernel
theorem d2_1 : decode prog_9_method_5_code 1 = .ok (.ifCond .eq 10, 3) := by decide +kernel
theorem d2_11 : decode prog_9_method_5_code 11 = .ok (.iload_n 0, 1) := by decide +kernel
theorem pd_0 : parseMethodDescriptor "(I)I" = some ⟨[.int], some .int⟩ := by decide +kernel
theorem d2_12 : decode prog_9_method_5_code 12 = .ok (.invokestatic 40, 3) := by decide +kernel
theorem d2_15 : decode prog_9_method_5_code 15 = .ok (.ireturn, 1) := by decide +kernel
theorem ef_rmU0 (m : MethodId) (x0 : Int32) (x1 : Int32) : entryFrame m #[(.int x0), (.int x1)] 2 = mkF m 0 #[.val (.int x0), .val (.int x1)] [] := by first | (simp [entryFrame, mkF, argsToLocals, Value.category]; done) | rfl
set_option maxRecDepth 65536 in
set_option maxHeartbeats 40000000 in
theorem rmU0 (l : Launch) (Z : State) (a0 : Array Value) (hw : ∀ d ∈ tables_1, d.before a0 Z = true) (ws : List Jvm.Cond)  (p0 : Int32) (p1 : Int32) (h0 : Heap) (n0 : Nat) (Z0 : n0 ≤ h0.size) 
    (b1 : ifCond.holds .eq p1 = true) :
    MetFree l (⟨"com/example/sundry/sundry/ShortestDecimal", "unit", "(IZ)I"⟩ : MethodName) (head1 (Jvm.Cond.code (⟨"com/example/sundry/sundry/ShortestDecimal", "unit", "(IZ)I"⟩ : MethodName) prog_9_method_5_code 2 (some .int) :: ws) ({ frames := 1, cells := 0, slots := 0, locals := 12 } : Room)) (fun a U => a = #[(.int p0), (.int p1)] ∧ Z.Warmed39 U.vm ∧ U.heap = h0) (fun _ _ _ _ _ => True) (fun _ U o U' => ∃ v L, o = .returned v ∧ QP (some (.int (own_f10 p0))) h0 n0 v U'.heap L ∧ FrameEnd U o U' L ({ frames := 1, cells := 0, slots := 0, locals := 12 } : Room).cells ({ frames := 1, cells := 0, slots := 0, locals := 12 } : Room).slots) := by
  refine MetFree.of_bodySF (plainFor_of_name pn_0) hisR ?_
  intro p e s m args below meth c s₁ Bd hml0 hP hK
  obtain ⟨rfl, hZ, hh⟩ := hP
  have hx := Bd.exec
  have hby := Bd.bytes
  have hml : c.maxLocals = 2 := hml0
  have hown : s.vm.findClass "com/example/sundry/sundry/ShortestDecimal" = some m.cls := findClass_of_methodNamed Bd.named
  have hnm := (name_of_methodNamed Bd.named Bd.method).1
  have X0 : Stand p l e ({ frames := 1, cells := 0, slots := 0, locals := 12 } : Room) s m #[(.int p0), (.int p1)] below meth c s₁ [] 0 0 := Stand.of_body Bd
  have e0 : s₁.heap = h0 := by rw [← hh, Bd.state]; rfl
  have N0 := Fr.nil n0
  have pre0 : ∀ t, Steps p.tables e below (s₁.setTop (mkF m 0 #[.val (.int p0), .val (.int p1)] [])) t → Steps p.tables e below (s₁.setTop (entryFrame m #[(.int p0), (.int p1)] 2)) t := fun t k => castTop (ef_rmU0 m p0 p1) k
  obtain ⟨_, _, ⟨T1, L1, k1, n1⟩, -, X1, ⟨Lc1, hQ1, l1, y1, z1⟩, st1⟩ := Jvm.LawKit.callS X0 hx (y := (⟨"com/example/sundry/sundry/ShortestDecimal", "floorLog10Pow2", "(I)I"⟩ : MethodName)) hown (mvT hZ (hw _ (List.mem_of_getElem? (i := 14) rfl))) (mvT hZ (hw _ (List.mem_of_getElem? (i := 15) rfl))) (mvT hZ (hw _ (List.mem_of_getElem? (i := 5) rfl))) (mvT hZ (hw _ (List.mem_of_getElem? (i := 16) rfl))) (by decide) (backOf (W := 0) (rmF l Z a0 hw [] p0 h0 n0 Z0) hZ (hw _ (List.mem_of_getElem? (i := 16) rfl)) (hw _ (List.mem_of_getElem? (i := 5) rfl)) (by decide) (by decide)) (g := (mkF m 12 #[.val (.int p0), .val (.int p1)] [(.int p0)])) rfl (by rw [hml]; rfl) (argsL := [(.int p0)]) (rest := []) (lenOf pd_0 rfl) rfl (by show 2 * 0 + _ ≤ _; exact Nat.le_of_eq rfl) (hb hby d2_12) (fun _ _ => ⟨rfl, e0, (by decide : 0 + 0 ≤ _), (by decide : 0 + 0 ≤ _)⟩)
  dsimp only [Pt.U, Pt.locs, Pt.cells, Pt.slots] at X1 l1 y1 z1 st1 hQ1
  subst l1 y1 z1
  obtain ⟨rfl, N1a, e1⟩ := hQ1
  have N1 := Fr.app N0 N1a
  obtain ⟨fs, hr, hrun, hended, hW, hsame⟩ := X1.leave (v := some (.int (own_f10 p0))) (fun h => by rw [Bd.returns] at h; cases h)
  refine ⟨_, _, pre0 _ ?_, hrun, hended, _, _, rfl, ?_, ⟨_, rfl⟩, hW, hsame.mono (Nat.le_of_ble_eq_true rfl) (Nat.le_of_ble_eq_true rfl)⟩
  · show Steps p.tables e below (s₁.setTop (mkF m 0 #[.val (.int p0), .val (.int p1)] [])) _
    refine XS.iloadN X0.here hx rfl (hb hby d2_0) rfl ?_
    show Steps p.tables e below (s₁.setTop (mkF m 1 #[.val (.int p0), .val (.int p1)] [(.int p1)])) _
    refine XS.ifYes X0.here hx rfl (pc0 := 1) (pc' := 11) rfl (hb hby d2_1) rfl b1 (by decide) (by decide) ?_
    show Steps p.tables e below (s₁.setTop (mkF m 11 #[.val (.int p0), .val (.int p1)] [])) _
    refine XS.iloadN X0.here hx rfl (hb hby d2_11) rfl ?_
    show Steps p.tables e below (s₁.setTop (mkF m 12 #[.val (.int p0), .val (.int p1)] [(.int p0)])) _
    refine st1 _ ?_
    show Steps p.tables e below (T1.setTop (mkF m 15 #[.val (.int p0), .val (.int p1)] [(.int (own_f10 p0))])) _
    exact OwnF.retI X1 hx Bd.returns (hb hby d2_15) hr
  · show QP (some (.int (own_f10 p0))) h0 n0 _ T1.heap _
    rw [e1]
    exact ⟨rfl, N1, rfl⟩
theorem d2_4 : decode prog_9_method_5_code 4 = .ok (.iload_n 0, 1) := by decide +kernel
theorem d2_5 : decode prog_9_method_5_code 5 = .ok (.invokestatic 36, 3) := by decide +kernel
theorem d2_8 : decode prog_9_method_5_code 8 = .ok (.goto 7, 3) := by decide +kernel
theorem ef_rmU1 (m : MethodId) (x0 : Int32) (x1 : Int32) : entryFrame m #[(.int x0), (.int x1)] 2 = mkF m 0 #[.val (.int x0), .val (.int x1)] [] := by first | (simp [entryFrame, mkF, argsToLocals, Value.category]; done) | rfl
set_option maxRecDepth 65536 in
set_option maxHeartbeats 40000000 in
theorem rmU1 (l : Launch) (Z : State) (a0 : Array Value) (hw : ∀ d ∈ tables_1, d.before a0 Z = true) (ws : List Jvm.Cond)  (p0 : Int32) (p1 : Int32) (h0 : Heap) (n0 : Nat) (Z0 : n0 ≤ h0.size) 
    (b1 : ifCond.holds .eq p1 = false) :
    MetFree l (⟨"com/example/sundry/sundry/ShortestDecimal", "unit", "(IZ)I"⟩ : MethodName) (head1 (Jvm.Cond.code (⟨"com/example/sundry/sundry/ShortestDecimal", "unit", "(IZ)I"⟩ : MethodName) prog_9_method_5_code 2 (some .int) :: ws) ({ frames := 1, cells := 0, slots := 0, locals := 12 } : Room)) (fun a U => a = #[(.int p0), (.int p1)] ∧ Z.Warmed39 U.vm ∧ U.heap = h0) (fun _ _ _ _ _ => True) (fun _ U o U' => ∃ v L, o = .returned v ∧ QP (some (.int (own_f34 p0))) h0 n0 v U'.heap L ∧ FrameEnd U o U' L ({ frames := 1, cells := 0, slots := 0, locals := 12 } : Room).cells ({ frames := 1, cells := 0, slots := 0, locals := 12 } : Room).slots) := by
  refine MetFree.of_bodySF (plainFor_of_name pn_0) hisR ?_
  intro p e s m args below meth c s₁ Bd hml0 hP hK
  obtain ⟨rfl, hZ, hh⟩ := hP
  have hx := Bd.exec
  have hby := Bd.bytes
  have hml : c.maxLocals = 2 := hml0
  have hown : s.vm.findClass "com/example/sundry/sundry/ShortestDecimal" = some m.cls := findClass_of_methodNamed Bd.named
  have hnm := (name_of_methodNamed Bd.named Bd.method).1
  have X0 : Stand p l e ({ frames := 1, cells := 0, slots := 0, locals := 12 } : Room) s m #[(.int p0), (.int p1)] below meth c s₁ [] 0 0 := Stand.of_body Bd
  have e0 : s₁.heap = h0 := by rw [← hh, Bd.state]; rfl
  have N0 := Fr.nil n0
  have pre0 : ∀ t, Steps p.tables e below (s₁.setTop (mkF m 0 #[.val (.int p0), .val (.int p1)] [])) t → Steps p.tables e below (s₁.setTop (entryFrame m #[(.int p0), (.int p1)] 2)) t := fun t k => castTop (ef_rmU1 m p0 p1) k
  obtain ⟨_, _, ⟨T1, L1, k1, n1⟩, -, X1, ⟨Lc1, hQ1, l1, y1, z1⟩, st1⟩ := Jvm.LawKit.callS X0 hx (y := (⟨"com/example/sundry/sundry/ShortestDecimal", "floorLog10ThreeQuartersPow2", "(I)I"⟩ : MethodName)) hown (mvT hZ (hw _ (List.mem_of_getElem? (i := 30) rfl))) (mvT hZ (hw _ (List.mem_of_getElem? (i := 31) rfl))) (mvT hZ (hw _ (List.mem_of_getElem? (i := 5) rfl))) (mvT hZ (hw _ (List.mem_of_getElem? (i := 32) rfl))) (by decide) (backOf (W := 0) (rmQ l Z a0 hw [] p0 h0 n0 Z0) hZ (hw _ (List.mem_of_getElem? (i := 32) rfl)) (hw _ (List.mem_of_getElem? (i := 5) rfl)) (by decide) (by decide)) (g := (mkF m 5 #[.val (.int p0), .val (.int p1)] [(.int p0)])) rfl (by rw [hml]; rfl) (argsL := [(.int p0)]) (rest := []) (lenOf pd_0 rfl) rfl (by show 2 * 0 + _ ≤ _; exact Nat.le_of_eq rfl) (hb hby d2_5) (fun _ _ => ⟨rfl, e0, (by decide : 0 + 0 ≤ _), (by decide : 0 + 0 ≤ _)⟩)
  dsimp only [Pt.U, Pt.locs, Pt.cells, Pt.slots] at X1 l1 y1 z1 st1 hQ1
  subst l1 y1 z1
  obtain ⟨rfl, N1a, e1⟩ := hQ1
  have N1 := Fr.app N0 N1a
  obtain ⟨fs, hr, hrun, hended, hW, hsame⟩ := X1.leave (v := some (.int (own_f34 p0))) (fun h => by rw [Bd.returns] at h; cases h)
  refine ⟨_, _, pre0 _ ?_, hrun, hended, _, _, rfl, ?_, ⟨_, rfl⟩, hW, hsame.mono (Nat.le_of_ble_eq_true rfl) (Nat.le_of_ble_eq_true rfl)⟩
  · show Steps p.tables e below (s₁.setTop (mkF m 0 #[.val (.int p0), .val (.int p1)] [])) _
    refine XS.iloadN X0.here hx rfl (hb hby d2_0) rfl ?_
    show Steps p.tables e below (s₁.setTop (mkF m 1 #[.val (.int p0), .val (.int p1)] [(.int p1)])) _
    refine XS.ifNo X0.here hx rfl (hb hby d2_1) rfl b1 ?_
    show Steps p.tables e below (s₁.setTop (mkF m 4 #[.val (.int p0), .val (.int p1)] [])) _
    refine XS.iloadN X0.here hx rfl (hb hby d2_4) rfl ?_
    show Steps p.tables e below (s₁.setTop (mkF m 5 #[.val (.int p0), .val (.int p1)] [(.int p0)])) _
    refine st1 _ ?_
    show Steps p.tables e below (T1.setTop (mkF m 8 #[.val (.int p0), .val (.int p1)] [(.int (own_f34 p0))])) _
    refine XS.goto X1.here hx rfl (pc0 := 8) (pc' := 15) rfl (hb hby d2_8) (by decide) (by decide) ?_
    show Steps p.tables e below (T1.setTop (mkF m 15 #[.val (.int p0), .val (.int p1)] [(.int (own_f34 p0))])) _
    exact OwnF.retI X1 hx Bd.returns (hb hby d2_15) hr
  · show QP (some (.int (own_f34 p0))) h0 n0 _ T1.heap _
    rw [e1]
    exact ⟨rfl, N1, rfl⟩
theorem d4_0 : decode prog_9_method_4_code 0 = .ok (.lload_n 0, 1) := by decide +kernel
theorem d4_1 : decode prog_9_method_4_code 1 = .ok (.ldc2_w 20, 3) := by decide +kernel
theorem d4_4 : decode prog_9_method_4_code 4 = .ok (.land, 1) := by decide +kernel
theorem d4_5 : decode prog_9_method_4_code 5 = .ok (.lconst 0, 1) := by decide +kernel
theorem d4_6 : decode prog_9_method_4_code 6 = .ok (.lcmp, 1) := by decide +kernel
theorem d4_7 : decode prog_9_method_4_code 7 = .ok (.ifCond .ne 16, 3) := by decide +kernel
theorem d4_23 : decode prog_9_method_4_code 23 = .ok (.iconst 0, 1) := by decide +kernel
theorem d4_24 : decode prog_9_method_4_code 24 = .ok (.ireturn, 1) := by decide +kernel
theorem ef_rmC0 (m : MethodId) (x0 : Int64) : entryFrame m #[(.long x0)] 2 = mkF m 0 #[.val (.long x0), .second] [] := by first | (simp [entryFrame, mkF, argsToLocals, Value.category]; done) | rfl
set_option maxRecDepth 65536 in
set_option maxHeartbeats 40000000 in
theorem rmC0 (l : Launch) (Z : State) (a0 : Array Value) (hw : ∀ d ∈ tables_1, d.before a0 Z = true) (ws : List Jvm.Cond)  (q0 : Int64) (h0 : Heap) (n0 : Nat) (Z0 : n0 ≤ h0.size) 
    (b7 : ifCond.holds .ne (if (q0 &&& (4503599627370495 : Int64)) > (0 : Int64) then 1 else if (q0 &&& (4503599627370495 : Int64)) = (0 : Int64) then 0 else -1) = true) :
    MetFree l (⟨"com/example/sundry/sundry/ShortestDecimal", "closerBelow", "(J)Z"⟩ : MethodName) (head1 (Jvm.Cond.code (⟨"com/example/sundry/sundry/ShortestDecimal", "closerBelow", "(J)Z"⟩ : MethodName) prog_9_method_4_code 2 (some .boolean) :: ws) ({ frames := 0, cells := 0, slots := 0, locals := 0 } : Room)) (fun a U => a = #[(.long q0)] ∧ Z.Warmed39 U.vm ∧ U.heap = h0) (fun _ _ _ _ _ => True) (fun _ U o U' => ∃ v L, o = .returned v ∧ QP (some (.int (0 : Int32))) h0 n0 v U'.heap L ∧ FrameEnd U o U' L ({ frames := 0, cells := 0, slots := 0, locals := 0 } : Room).cells ({ frames := 0, cells := 0, slots := 0, locals := 0 } : Room).slots) := by
  refine MetFree.of_bodySF (plainFor_of_name pn_0) hisR ?_
  intro p e s m args below meth c s₁ Bd hml0 hP hK
  obtain ⟨rfl, hZ, hh⟩ := hP
  have hx := Bd.exec
  have hby := Bd.bytes
  have hml : c.maxLocals = 2 := hml0
  have hown : s.vm.findClass "com/example/sundry/sundry/ShortestDecimal" = some m.cls := findClass_of_methodNamed Bd.named
  have hnm := (name_of_methodNamed Bd.named Bd.method).1
  have X0 : Stand p l e ({ frames := 0, cells := 0, slots := 0, locals := 0 } : Room) s m #[(.long q0)] below meth c s₁ [] 0 0 := Stand.of_body Bd
  have e0 : s₁.heap = h0 := by rw [← hh, Bd.state]; rfl
  have N0 := Fr.nil n0
  have pre0 : ∀ t, Steps p.tables e below (s₁.setTop (mkF m 0 #[.val (.long q0), .second] [])) t → Steps p.tables e below (s₁.setTop (entryFrame m #[(.long q0)] 2)) t := fun t k => castTop (ef_rmC0 m q0) k
  obtain ⟨fs, hr, hrun, hended, hW, hsame⟩ := X0.leave (v := some (.int (0 : Int32))) (fun h => by rw [Bd.returns] at h; cases h)
  refine ⟨_, _, pre0 _ ?_, hrun, hended, _, _, rfl, ?_, ⟨_, rfl⟩, hW, hsame.mono (Nat.le_of_ble_eq_true rfl) (Nat.le_of_ble_eq_true rfl)⟩
  · show Steps p.tables e below (s₁.setTop (mkF m 0 #[.val (.long q0), .second] [])) _
    refine XS.lloadN X0.here hx rfl (hb hby d4_0) rfl ?_
    show Steps p.tables e below (s₁.setTop (mkF m 1 #[.val (.long q0), .second] [(.long q0)])) _
    refine X0.ldc2Long hx hown (mvT hZ (hw _ (List.mem_of_getElem? (i := 22) rfl))) (g := (mkF m 1 #[.val (.long q0), .second] [(.long q0)])) rfl (hb hby d4_1) _ ?_
    show Steps p.tables e below (s₁.setTop (mkF m 4 #[.val (.long q0), .second] [(.long (4503599627370495 : Int64)), (.long q0)])) _
    refine XS.land X0.here hx rfl (hb hby d4_4) rfl ?_
    show Steps p.tables e below (s₁.setTop (mkF m 5 #[.val (.long q0), .second] [(.long (q0 &&& (4503599627370495 : Int64)))])) _
    refine XS.lconst X0.here hx rfl (hb hby d4_5) ?_
    show Steps p.tables e below (s₁.setTop (mkF m 6 #[.val (.long q0), .second] [(.long (0 : Int64)), (.long (q0 &&& (4503599627370495 : Int64)))])) _
    refine XS.lcmp X0.here hx rfl (hb hby d4_6) rfl ?_
    show Steps p.tables e below (s₁.setTop (mkF m 7 #[.val (.long q0), .second] [(.int (if (q0 &&& (4503599627370495 : Int64)) > (0 : Int64) then 1 else if (q0 &&& (4503599627370495 : Int64)) = (0 : Int64) then 0 else -1))])) _
    refine XS.ifYes X0.here hx rfl (pc0 := 7) (pc' := 23) rfl (hb hby d4_7) rfl b7 (by decide) (by decide) ?_
    show Steps p.tables e below (s₁.setTop (mkF m 23 #[.val (.long q0), .second] [])) _
    refine XS.iconst X0.here hx rfl (hb hby d4_23) ?_
    show Steps p.tables e below (s₁.setTop (mkF m 24 #[.val (.long q0), .second] [(.int (0 : Int32))])) _
    exact retN X0 hx (t := .boolean) Bd.returns (by simp) (hb hby d4_24) hr
  · show QP (some (.int (0 : Int32))) h0 n0 _ s₁.heap _
    rw [e0]
    exact ⟨rfl, N0, rfl⟩
theorem d4_10 : decode prog_9_method_4_code 10 = .ok (.lload_n 0, 1) := by decide +kernel
theorem d4_11 : decode prog_9_method_4_code 11 = .ok (.bipush 52, 2) := by decide +kernel
theorem d4_13 : decode prog_9_method_4_code 13 = .ok (.lushr, 1) := by decide +kernel
theorem d4_14 : decode prog_9_method_4_code 14 = .ok (.l2i, 1) := by decide +kernel
theorem d4_15 : decode prog_9_method_4_code 15 = .ok (.iconst 1, 1) := by decide +kernel
theorem d4_16 : decode prog_9_method_4_code 16 = .ok (.if_icmp .le 7, 3) := by decide +kernel
theorem d4_19 : decode prog_9_method_4_code 19 = .ok (.iconst 1, 1) := by decide +kernel
theorem d4_20 : decode prog_9_method_4_code 20 = .ok (.goto 4, 3) := by decide +kernel
theorem ef_rmC1 (m : MethodId) (x0 : Int64) : entryFrame m #[(.long x0)] 2 = mkF m 0 #[.val (.long x0), .second] [] := by first | (simp [entryFrame, mkF, argsToLocals, Value.category]; done) | rfl
set_option maxRecDepth 65536 in
set_option maxHeartbeats 40000000 in
theorem rmC1 (l : Launch) (Z : State) (a0 : Array Value) (hw : ∀ d ∈ tables_1, d.before a0 Z = true) (ws : List Jvm.Cond)  (q0 : Int64) (h0 : Heap) (n0 : Nat) (Z0 : n0 ≤ h0.size) 
    (b7 : ifCond.holds .ne (if (q0 &&& (4503599627370495 : Int64)) > (0 : Int64) then 1 else if (q0 &&& (4503599627370495 : Int64)) = (0 : Int64) then 0 else -1) = false)
    (b16 : if_icmp.holds .le ((q0.toUInt64 >>> ((52 : Int32) &&& 0x3f).toInt64.toUInt64).toInt64).toInt32 (1 : Int32) = false) :
    MetFree l (⟨"com/example/sundry/sundry/ShortestDecimal", "closerBelow", "(J)Z"⟩ : MethodName) (head1 (Jvm.Cond.code (⟨"com/example/sundry/sundry/ShortestDecimal", "closerBelow", "(J)Z"⟩ : MethodName) prog_9_method_4_code 2 (some .boolean) :: ws) ({ frames := 0, cells := 0, slots := 0, locals := 0 } : Room)) (fun a U => a = #[(.long q0)] ∧ Z.Warmed39 U.vm ∧ U.heap = h0) (fun _ _ _ _ _ => True) (fun _ U o U' => ∃ v L, o = .returned v ∧ QP (some (.int (1 : Int32))) h0 n0 v U'.heap L ∧ FrameEnd U o U' L ({ frames := 0, cells := 0, slots := 0, locals := 0 } : Room).cells ({ frames := 0, cells := 0, slots := 0, locals := 0 } : Room).slots) := by
  refine MetFree.of_bodySF (plainFor_of_name pn_0) hisR ?_
  intro p e s m args below meth c s₁ Bd hml0 hP hK
  obtain ⟨rfl, hZ, hh⟩ := hP
  have hx := Bd.exec
  have hby := Bd.bytes
  have hml : c.maxLocals = 2 := hml0
  have hown : s.vm.findClass "com/example/sundry/sundry/ShortestDecimal" = some m.cls := findClass_of_methodNamed Bd.named
  have hnm := (name_of_methodNamed Bd.named Bd.method).1
  have X0 : Stand p l e ({ frames := 0, cells := 0, slots := 0, locals := 0 } : Room) s m #[(.long q0)] below meth c s₁ [] 0 0 := Stand.of_body Bd
  have e0 : s₁.heap = h0 := by rw [← hh, Bd.state]; rfl
  have N0 := Fr.nil n0
  have pre0 : ∀ t, Steps p.tables e below (s₁.setTop (mkF m 0 #[.val (.long q0), .second] [])) t → Steps p.tables e below (s₁.setTop (entryFrame m #[(.long q0)] 2)) t := fun t k => castTop (ef_rmC1 m q0) k
  obtain ⟨fs, hr, hrun, hended, hW, hsame⟩ := X0.leave (v := some (.int (1 : Int32))) (fun h => by rw [Bd.returns] at h; cases h)
  refine ⟨_, _, pre0 _ ?_, hrun, hended, _, _, rfl, ?_, ⟨_, rfl⟩, hW, hsame.mono (Nat.le_of_ble_eq_true rfl) (Nat.le_of_ble_eq_true rfl)⟩
  · show Steps p.tables e below (s₁.setTop (mkF m 0 #[.val (.long q0), .second] [])) _
    refine XS.lloadN X0.here hx rfl (hb hby d4_0) rfl ?_
    show Steps p.tables e below (s₁.setTop (mkF m 1 #[.val (.long q0), .second] [(.long q0)])) _
    refine X0.ldc2Long hx hown (mvT hZ (hw _ (List.mem_of_getElem? (i := 22) rfl))) (g := (mkF m 1 #[.val (.long q0), .second] [(.long q0)])) rfl (hb hby d4_1) _ ?_
    show Steps p.tables e below (s₁.setTop (mkF m 4 #[.val (.long q0), .second] [(.long (4503599627370495 : Int64)), (.long q0)])) _
    refine XS.land X0.here hx rfl (hb hby d4_4) rfl ?_
    show Steps p.tables e below (s₁.setTop (mkF m 5 #[.val (.long q0), .second] [(.long (q0 &&& (4503599627370495 : Int64)))])) _
    refine XS.lconst X0.here hx rfl (hb hby d4_5) ?_
    show Steps p.tables e below (s₁.setTop (mkF m 6 #[.val (.long q0), .second] [(.long (0 : Int64)), (.long (q0 &&& (4503599627370495 : Int64)))])) _
    refine XS.lcmp X0.here hx rfl (hb hby d4_6) rfl ?_
    show Steps p.tables e below (s₁.setTop (mkF m 7 #[.val (.long q0), .second] [(.int (if (q0 &&& (4503599627370495 : Int64)) > (0 : Int64) then 1 else if (q0 &&& (4503599627370495 : Int64)) = (0 : Int64) then 0 else -1))])) _
    refine XS.ifNo X0.here hx rfl (hb hby d4_7) rfl b7 ?_
    show Steps p.tables e below (s₁.setTop (mkF m 10 #[.val (.long q0), .second] [])) _
    refine XS.lloadN X0.here hx rfl (hb hby d4_10) rfl ?_
    show Steps p.tables e below (s₁.setTop (mkF m 11 #[.val (.long q0), .second] [(.long q0)])) _
    refine XS.bipush X0.here hx rfl (hb hby d4_11) ?_
    show Steps p.tables e below (s₁.setTop (mkF m 13 #[.val (.long q0), .second] [(.int (52 : Int32)), (.long q0)])) _
    refine XS.lushr X0.here hx rfl (hb hby d4_13) rfl ?_
    show Steps p.tables e below (s₁.setTop (mkF m 14 #[.val (.long q0), .second] [(.long ((q0.toUInt64 >>> ((52 : Int32) &&& 0x3f).toInt64.toUInt64).toInt64))])) _
    refine XS.l2i X0.here hx rfl (hb hby d4_14) rfl ?_
    show Steps p.tables e below (s₁.setTop (mkF m 15 #[.val (.long q0), .second] [(.int ((q0.toUInt64 >>> ((52 : Int32) &&& 0x3f).toInt64.toUInt64).toInt64).toInt32)])) _
    refine XS.iconst X0.here hx rfl (hb hby d4_15) ?_
    show Steps p.tables e below (s₁.setTop (mkF m 16 #[.val (.long q0), .second] [(.int (1 : Int32)), (.int ((q0.toUInt64 >>> ((52 : Int32) &&& 0x3f).toInt64.toUInt64).toInt64).toInt32)])) _
    refine XS.icmpNo X0.here hx rfl (hb hby d4_16) rfl b16 ?_
    show Steps p.tables e below (s₁.setTop (mkF m 19 #[.val (.long q0), .second] [])) _
    refine XS.iconst X0.here hx rfl (hb hby d4_19) ?_
    show Steps p.tables e below (s₁.setTop (mkF m 20 #[.val (.long q0), .second] [(.int (1 : Int32))])) _
    refine XS.goto X0.here hx rfl (pc0 := 20) (pc' := 24) rfl (hb hby d4_20) (by decide) (by decide) ?_
    show Steps p.tables e below (s₁.setTop (mkF m 24 #[.val (.long q0), .second] [(.int (1 : Int32))])) _
    exact retN X0 hx (t := .boolean) Bd.returns (by simp) (hb hby d4_24) hr
  · show QP (some (.int (1 : Int32))) h0 n0 _ s₁.heap _
    rw [e0]
    exact ⟨rfl, N0, rfl⟩
theorem d1_0 : decode prog_9_method_3_code 0 = .ok (.dload_n 0, 1) := by decide +kernel
theorem d1_1 : decode prog_9_method_3_code 1 = .ok (.invokestatic 14, 3) := by decide +kernel
theorem d1_4 : decode prog_9_method_3_code 4 = .ok (.lstore_n 2, 1) := by decide +kernel
theorem d1_5 : decode prog_9_method_3_code 5 = .ok (.lload_n 2, 1) := by decide +kernel
theorem d1_6 : decode prog_9_method_3_code 6 = .ok (.bipush 52, 2) := by decide +kernel
theorem d1_8 : decode prog_9_method_3_code 8 = .ok (.lushr, 1) := by decide +kernel
theorem d1_9 : decode prog_9_method_3_code 9 = .ok (.l2i, 1) := by decide +kernel
theorem d1_10 : decode prog_9_method_3_code 10 = .ok (.istore 4, 2) := by decide +kernel
theorem d1_12 : decode prog_9_method_3_code 12 = .ok (.iload 4, 2) := by decide +kernel
theorem d1_14 : decode prog_9_method_3_code 14 = .ok (.ifCond .ne 11, 3) := by decide +kernel
theorem d1_17 : decode prog_9_method_3_code 17 = .ok (.sipush (-1074), 3) := by decide +kernel
theorem d1_20 : decode prog_9_method_3_code 20 = .ok (.iconst 0, 1) := by decide +kernel
theorem pd_1 : parseMethodDescriptor "(IZ)I" = some ⟨[.int, .boolean], some .int⟩ := by decide +kernel
theorem d1_21 : decode prog_9_method_3_code 21 = .ok (.invokestatic 32, 3) := by decide +kernel
theorem d1_24 : decode prog_9_method_3_code 24 = .ok (.ireturn, 1) := by decide +kernel
theorem ef_rmD0 (m : MethodId) (x0 : UInt64) : entryFrame m #[(.double x0)] 5 = mkF m 0 #[.val (.double x0), .second, .unset, .unset, .unset] [] := by first | (simp [entryFrame, mkF, argsToLocals, Value.category]; done) | rfl
set_option maxRecDepth 65536 in
set_option maxHeartbeats 40000000 in
theorem rmD0 (l : Launch) (Z : State) (a0 : Array Value) (hw : ∀ d ∈ tables_1, d.before a0 Z = true) (ws : List Jvm.Cond)  (r0 : UInt64) (be : Int32) (h0 : Heap) (n0 : Nat) (Z0 : n0 ≤ h0.size) 
    (hbe : be = ((r0.toInt64.toUInt64 >>> ((52 : Int32) &&& 0x3f).toInt64.toUInt64).toInt64).toInt32)
    (b14 : ifCond.holds .ne be = false)
    (u1 : ifCond.holds .eq (0 : Int32) = true) :
    MetFree l (⟨"com/example/sundry/sundry/ShortestDecimal", "unit", "(D)I"⟩ : MethodName) (head1 (Jvm.Cond.code (⟨"com/example/sundry/sundry/ShortestDecimal", "unit", "(D)I"⟩ : MethodName) prog_9_method_3_code 5 (some .int) :: ws) ({ frames := 2, cells := 0, slots := 0, locals := 40 } : Room)) (fun a U => a = #[(.double r0)] ∧ Z.Warmed39 U.vm ∧ U.heap = h0) (fun _ _ _ _ _ => True) (fun _ U o U' => ∃ v L, o = .returned v ∧ QP (some (.int (own_f10 (-1074 : Int32)))) h0 n0 v U'.heap L ∧ FrameEnd U o U' L ({ frames := 2, cells := 0, slots := 0, locals := 40 } : Room).cells ({ frames := 2, cells := 0, slots := 0, locals := 40 } : Room).slots) := by
  refine MetFree.of_bodySF (plainFor_of_name pn_0) hisR ?_
  intro p e s m args below meth c s₁ Bd hml0 hP hK
  obtain ⟨rfl, hZ, hh⟩ := hP
  have hx := Bd.exec
  have hby := Bd.bytes
  have hml : c.maxLocals = 5 := hml0
  have hown : s.vm.findClass "com/example/sundry/sundry/ShortestDecimal" = some m.cls := findClass_of_methodNamed Bd.named
  have hnm := (name_of_methodNamed Bd.named Bd.method).1
  have X0 : Stand p l e ({ frames := 2, cells := 0, slots := 0, locals := 40 } : Room) s m #[(.double r0)] below meth c s₁ [] 0 0 := Stand.of_body Bd
  have e0 : s₁.heap = h0 := by rw [← hh, Bd.state]; rfl
  have N0 := Fr.nil n0
  have pre0 : ∀ t, Steps p.tables e below (s₁.setTop (mkF m 0 #[.val (.double r0), .second, .unset, .unset, .unset] [])) t → Steps p.tables e below (s₁.setTop (entryFrame m #[(.double r0)] 5)) t := fun t k => castTop (ef_rmD0 m r0) k
  obtain ⟨vm1, X1, st1⟩ := X0.doubleToRawLongBits hx hown (mvT hZ (hw _ (List.mem_of_getElem? (i := 7) rfl))) (mvT hZ (hw _ (List.mem_of_getElem? (i := 10) rfl))) (mvT hZ (hw _ (List.mem_of_getElem? (i := 8) rfl))) (mvT hZ (hw _ (List.mem_of_getElem? (i := 9) rfl))) (g := (mkF m 1 #[.val (.double r0), .second, .unset, .unset, .unset] [(.double r0)])) rfl (by rw [hml]; rfl) (rest := []) (b := r0) rfl (hb hby d1_1) (by decide) (by show 2 * 0 + 0 + (nativeFrameWords "java/lang/Double" "doubleToRawLongBits" 2 + 11) ≤ 40; decide +kernel)
  obtain ⟨_, _, ⟨T2, L2, k2, n2⟩, -, X2, ⟨Lc2, hQ2, l2, y2, z2⟩, st2⟩ := Jvm.LawKit.callS X1 hx (y := (⟨"com/example/sundry/sundry/ShortestDecimal", "unit", "(IZ)I"⟩ : MethodName)) hown (mvT hZ (hw _ (List.mem_of_getElem? (i := 11) rfl))) (mvT hZ (hw _ (List.mem_of_getElem? (i := 12) rfl))) (mvT hZ (hw _ (List.mem_of_getElem? (i := 5) rfl))) (mvT hZ (hw _ (List.mem_of_getElem? (i := 13) rfl))) (by decide) (backOf (W := 0) (rmU0 l Z a0 hw [] (-1074 : Int32) (0 : Int32) h0 n0 Z0 u1) hZ (hw _ (List.mem_of_getElem? (i := 13) rfl)) (hw _ (List.mem_of_getElem? (i := 5) rfl)) (by decide) (by decide)) (g := (mkF m 21 #[.val (.double r0), .second, .val (.long r0.toInt64), .second, .val (.int be)] [(.int (0 : Int32)), (.int (-1074 : Int32))])) rfl (by rw [hml]; rfl) (argsL := [(.int (-1074 : Int32)), (.int (0 : Int32))]) (rest := []) (lenOf pd_1 rfl) rfl (by show 2 * 0 + _ ≤ _; exact Nat.le_of_eq rfl) (hb hby d1_21) (fun _ _ => ⟨rfl, e0, (by decide : 0 + 0 ≤ _), (by decide : 0 + 0 ≤ _)⟩)
  dsimp only [Pt.U, Pt.locs, Pt.cells, Pt.slots] at X2 l2 y2 z2 st2 hQ2
  subst l2 y2 z2
  obtain ⟨rfl, N2a, e2⟩ := hQ2
  have N2 := Fr.app N0 N2a
  obtain ⟨fs, hr, hrun, hended, hW, hsame⟩ := X2.leave (v := some (.int (own_f10 (-1074 : Int32)))) (fun h => by rw [Bd.returns] at h; cases h)
  refine ⟨_, _, pre0 _ ?_, hrun, hended, _, _, rfl, ?_, ⟨_, rfl⟩, hW, hsame.mono (Nat.le_of_ble_eq_true rfl) (Nat.le_of_ble_eq_true rfl)⟩
  · show Steps p.tables e below (s₁.setTop (mkF m 0 #[.val (.double r0), .second, .unset, .unset, .unset] [])) _
    refine XS.dloadN X0.here hx rfl (hb hby d1_0) rfl ?_
    show Steps p.tables e below (s₁.setTop (mkF m 1 #[.val (.double r0), .second, .unset, .unset, .unset] [(.double r0)])) _
    refine st1 _ ?_
    show Steps p.tables e below ((s₁.setVm vm1).setTop (mkF m 4 #[.val (.double r0), .second, .unset, .unset, .unset] [(.long r0.toInt64)])) _
    refine XS.lstoreN X1.here hx rfl (hb hby d1_4) rfl (l' := #[.val (.double r0), .second, .val (.long r0.toInt64), .second, .unset]) rfl ?_
    show Steps p.tables e below ((s₁.setVm vm1).setTop (mkF m 5 #[.val (.double r0), .second, .val (.long r0.toInt64), .second, .unset] [])) _
    refine XS.lloadN X1.here hx rfl (hb hby d1_5) rfl ?_
    show Steps p.tables e below ((s₁.setVm vm1).setTop (mkF m 6 #[.val (.double r0), .second, .val (.long r0.toInt64), .second, .unset] [(.long r0.toInt64)])) _
    refine XS.bipush X1.here hx rfl (hb hby d1_6) ?_
    show Steps p.tables e below ((s₁.setVm vm1).setTop (mkF m 8 #[.val (.double r0), .second, .val (.long r0.toInt64), .second, .unset] [(.int (52 : Int32)), (.long r0.toInt64)])) _
    refine XS.lushr X1.here hx rfl (hb hby d1_8) rfl ?_
    show Steps p.tables e below ((s₁.setVm vm1).setTop (mkF m 9 #[.val (.double r0), .second, .val (.long r0.toInt64), .second, .unset] [(.long ((r0.toInt64.toUInt64 >>> ((52 : Int32) &&& 0x3f).toInt64.toUInt64).toInt64))])) _
    refine XS.l2i X1.here hx rfl (hb hby d1_9) rfl ?_
    show Steps p.tables e below ((s₁.setVm vm1).setTop (mkF m 10 #[.val (.double r0), .second, .val (.long r0.toInt64), .second, .unset] [(.int ((r0.toInt64.toUInt64 >>> ((52 : Int32) &&& 0x3f).toInt64.toUInt64).toInt64).toInt32)])) _
    rw [← hbe]
    show Steps p.tables e below ((s₁.setVm vm1).setTop (mkF m 10 #[.val (.double r0), .second, .val (.long r0.toInt64), .second, .unset] [(.int be)])) _
    refine XS.istore X1.here hx rfl (hb hby d1_10) rfl (l' := #[.val (.double r0), .second, .val (.long r0.toInt64), .second, .val (.int be)]) rfl ?_
    show Steps p.tables e below ((s₁.setVm vm1).setTop (mkF m 12 #[.val (.double r0), .second, .val (.long r0.toInt64), .second, .val (.int be)] [])) _
    refine XS.iload X1.here hx rfl (hb hby d1_12) rfl ?_
    show Steps p.tables e below ((s₁.setVm vm1).setTop (mkF m 14 #[.val (.double r0), .second, .val (.long r0.toInt64), .second, .val (.int be)] [(.int be)])) _
    refine XS.ifNo X1.here hx rfl (hb hby d1_14) rfl b14 ?_
    show Steps p.tables e below ((s₁.setVm vm1).setTop (mkF m 17 #[.val (.double r0), .second, .val (.long r0.toInt64), .second, .val (.int be)] [])) _
    refine XS.sipush X1.here hx rfl (hb hby d1_17) ?_
    show Steps p.tables e below ((s₁.setVm vm1).setTop (mkF m 20 #[.val (.double r0), .second, .val (.long r0.toInt64), .second, .val (.int be)] [(.int (-1074 : Int32))])) _
    refine XS.iconst X1.here hx rfl (hb hby d1_20) ?_
    show Steps p.tables e below ((s₁.setVm vm1).setTop (mkF m 21 #[.val (.double r0), .second, .val (.long r0.toInt64), .second, .val (.int be)] [(.int (0 : Int32)), (.int (-1074 : Int32))])) _
    refine st2 _ ?_
    show Steps p.tables e below (T2.setTop (mkF m 24 #[.val (.double r0), .second, .val (.long r0.toInt64), .second, .val (.int be)] [(.int (own_f10 (-1074 : Int32)))])) _
    exact OwnF.retI X2 hx Bd.returns (hb hby d1_24) hr
  · show QP (some (.int (own_f10 (-1074 : Int32)))) h0 n0 _ T2.heap _
    rw [e2]
    exact ⟨rfl, N2, rfl⟩
theorem d1_25 : decode prog_9_method_3_code 25 = .ok (.sipush (-1074), 3) := by decide +kernel
theorem d1_28 : decode prog_9_method_3_code 28 = .ok (.iload 4, 2) := by decide +kernel
theorem d1_30 : decode prog_9_method_3_code 30 = .ok (.iadd, 1) := by decide +kernel
theorem d1_31 : decode prog_9_method_3_code 31 = .ok (.iconst 1, 1) := by decide +kernel
theorem d1_32 : decode prog_9_method_3_code 32 = .ok (.isub, 1) := by decide +kernel
theorem d1_33 : decode prog_9_method_3_code 33 = .ok (.lload_n 2, 1) := by decide +kernel
theorem pd_2 : parseMethodDescriptor "(J)Z" = some ⟨[.long], some .boolean⟩ := by decide +kernel
theorem d1_34 : decode prog_9_method_3_code 34 = .ok (.invokestatic 28, 3) := by decide +kernel
theorem d1_37 : decode prog_9_method_3_code 37 = .ok (.invokestatic 32, 3) := by decide +kernel
theorem d1_40 : decode prog_9_method_3_code 40 = .ok (.ireturn, 1) := by decide +kernel
theorem ef_rmD1 (m : MethodId) (x0 : UInt64) : entryFrame m #[(.double x0)] 5 = mkF m 0 #[.val (.double x0), .second, .unset, .unset, .unset] [] := by first | (simp [entryFrame, mkF, argsToLocals, Value.category]; done) | rfl
set_option maxRecDepth 65536 in
set_option maxHeartbeats 40000000 in
theorem rmD1 (l : Launch) (Z : State) (a0 : Array Value) (hw : ∀ d ∈ tables_1, d.before a0 Z = true) (ws : List Jvm.Cond)  (r0 : UInt64) (be : Int32) (h0 : Heap) (n0 : Nat) (Z0 : n0 ≤ h0.size) 
    (hbe : be = ((r0.toInt64.toUInt64 >>> ((52 : Int32) &&& 0x3f).toInt64.toUInt64).toInt64).toInt32)
    (b14 : ifCond.holds .ne be = true)
    (c0 : ifCond.holds .ne (if (r0.toInt64 &&& (4503599627370495 : Int64)) > (0 : Int64) then 1 else if (r0.toInt64 &&& (4503599627370495 : Int64)) = (0 : Int64) then 0 else -1) = true)
    (u1 : ifCond.holds .eq (0 : Int32) = true) :
    MetFree l (⟨"com/example/sundry/sundry/ShortestDecimal", "unit", "(D)I"⟩ : MethodName) (head1 (Jvm.Cond.code (⟨"com/example/sundry/sundry/ShortestDecimal", "unit", "(D)I"⟩ : MethodName) prog_9_method_3_code 5 (some .int) :: ws) ({ frames := 2, cells := 0, slots := 0, locals := 40 } : Room)) (fun a U => a = #[(.double r0)] ∧ Z.Warmed39 U.vm ∧ U.heap = h0) (fun _ _ _ _ _ => True) (fun _ U o U' => ∃ v L, o = .returned v ∧ QP (some (.int (own_f10 (((-1074 : Int32) + be) - (1 : Int32))))) h0 n0 v U'.heap L ∧ FrameEnd U o U' L ({ frames := 2, cells := 0, slots := 0, locals := 40 } : Room).cells ({ frames := 2, cells := 0, slots := 0, locals := 40 } : Room).slots) := by
  refine MetFree.of_bodySF (plainFor_of_name pn_0) hisR ?_
  intro p e s m args below meth c s₁ Bd hml0 hP hK
  obtain ⟨rfl, hZ, hh⟩ := hP
  have hx := Bd.exec
  have hby := Bd.bytes
  have hml : c.maxLocals = 5 := hml0
  have hown : s.vm.findClass "com/example/sundry/sundry/ShortestDecimal" = some m.cls := findClass_of_methodNamed Bd.named
  have hnm := (name_of_methodNamed Bd.named Bd.method).1
  have X0 : Stand p l e ({ frames := 2, cells := 0, slots := 0, locals := 40 } : Room) s m #[(.double r0)] below meth c s₁ [] 0 0 := Stand.of_body Bd
  have e0 : s₁.heap = h0 := by rw [← hh, Bd.state]; rfl
  have N0 := Fr.nil n0
  have pre0 : ∀ t, Steps p.tables e below (s₁.setTop (mkF m 0 #[.val (.double r0), .second, .unset, .unset, .unset] [])) t → Steps p.tables e below (s₁.setTop (entryFrame m #[(.double r0)] 5)) t := fun t k => castTop (ef_rmD1 m r0) k
  obtain ⟨vm1, X1, st1⟩ := X0.doubleToRawLongBits hx hown (mvT hZ (hw _ (List.mem_of_getElem? (i := 7) rfl))) (mvT hZ (hw _ (List.mem_of_getElem? (i := 10) rfl))) (mvT hZ (hw _ (List.mem_of_getElem? (i := 8) rfl))) (mvT hZ (hw _ (List.mem_of_getElem? (i := 9) rfl))) (g := (mkF m 1 #[.val (.double r0), .second, .unset, .unset, .unset] [(.double r0)])) rfl (by rw [hml]; rfl) (rest := []) (b := r0) rfl (hb hby d1_1) (by decide) (by show 2 * 0 + 0 + (nativeFrameWords "java/lang/Double" "doubleToRawLongBits" 2 + 11) ≤ 40; decide +kernel)
  obtain ⟨_, _, ⟨T2, L2, k2, n2⟩, -, X2, ⟨Lc2, hQ2, l2, y2, z2⟩, st2⟩ := Jvm.LawKit.callS X1 hx (y := (⟨"com/example/sundry/sundry/ShortestDecimal", "closerBelow", "(J)Z"⟩ : MethodName)) hown (mvT hZ (hw _ (List.mem_of_getElem? (i := 19) rfl))) (mvT hZ (hw _ (List.mem_of_getElem? (i := 20) rfl))) (mvT hZ (hw _ (List.mem_of_getElem? (i := 5) rfl))) (mvT hZ (hw _ (List.mem_of_getElem? (i := 21) rfl))) (by decide) (backOf (W := 1) (rmC0 l Z a0 hw [] r0.toInt64 h0 n0 Z0 c0) hZ (hw _ (List.mem_of_getElem? (i := 21) rfl)) (hw _ (List.mem_of_getElem? (i := 5) rfl)) (by decide) (by decide)) (g := (mkF m 34 #[.val (.double r0), .second, .val (.long r0.toInt64), .second, .val (.int be)] [(.long r0.toInt64), (.int (((-1074 : Int32) + be) - (1 : Int32)))])) rfl (by rw [hml]; rfl) (argsL := [(.long r0.toInt64)]) (rest := [(.int (((-1074 : Int32) + be) - (1 : Int32)))]) (lenOf pd_2 rfl) rfl (by show 2 * 0 + _ ≤ _; exact Nat.le_of_eq rfl) (hb hby d1_34) (fun _ _ => ⟨rfl, e0, (by decide : 0 + 0 ≤ _), (by decide : 0 + 0 ≤ _)⟩)
  dsimp only [Pt.U, Pt.locs, Pt.cells, Pt.slots] at X2 l2 y2 z2 st2 hQ2
  subst l2 y2 z2
  obtain ⟨rfl, N2a, e2⟩ := hQ2
  have N2 := Fr.app N0 N2a
  obtain ⟨_, _, ⟨T3, L3, k3, n3⟩, -, X3, ⟨Lc3, hQ3, l3, y3, z3⟩, st3⟩ := Jvm.LawKit.callS X2 hx (y := (⟨"com/example/sundry/sundry/ShortestDecimal", "unit", "(IZ)I"⟩ : MethodName)) hown (mvT hZ (hw _ (List.mem_of_getElem? (i := 11) rfl))) (mvT hZ (hw _ (List.mem_of_getElem? (i := 12) rfl))) (mvT hZ (hw _ (List.mem_of_getElem? (i := 5) rfl))) (mvT hZ (hw _ (List.mem_of_getElem? (i := 13) rfl))) (by decide) (backOf (W := 0) (rmU0 l Z a0 hw [] (((-1074 : Int32) + be) - (1 : Int32)) (0 : Int32) h0 n0 Z0 u1) hZ (hw _ (List.mem_of_getElem? (i := 13) rfl)) (hw _ (List.mem_of_getElem? (i := 5) rfl)) (by decide) (by decide)) (g := (mkF m 37 #[.val (.double r0), .second, .val (.long r0.toInt64), .second, .val (.int be)] [(.int (0 : Int32)), (.int (((-1074 : Int32) + be) - (1 : Int32)))])) rfl (by rw [hml]; rfl) (argsL := [(.int (((-1074 : Int32) + be) - (1 : Int32))), (.int (0 : Int32))]) (rest := []) (lenOf pd_1 rfl) rfl (by show 2 * 0 + _ ≤ _; exact Nat.le_of_eq rfl) (hb hby d1_37) (fun _ _ => ⟨rfl, e2, (by decide : 0 + 0 ≤ _), (by decide : 0 + 0 ≤ _)⟩)
  dsimp only [Pt.U, Pt.locs, Pt.cells, Pt.slots] at X3 l3 y3 z3 st3 hQ3
  subst l3 y3 z3
  obtain ⟨rfl, N3a, e3⟩ := hQ3
  have N3 := Fr.app N2 N3a
  obtain ⟨fs, hr, hrun, hended, hW, hsame⟩ := X3.leave (v := some (.int (own_f10 (((-1074 : Int32) + be) - (1 : Int32))))) (fun h => by rw [Bd.returns] at h; cases h)
  refine ⟨_, _, pre0 _ ?_, hrun, hended, _, _, rfl, ?_, ⟨_, rfl⟩, hW, hsame.mono (Nat.le_of_ble_eq_true rfl) (Nat.le_of_ble_eq_true rfl)⟩
  · show Steps p.tables e below (s₁.setTop (mkF m 0 #[.val (.double r0), .second, .unset, .unset, .unset] [])) _
    refine XS.dloadN X0.here hx rfl (hb hby d1_0) rfl ?_
    show Steps p.tables e below (s₁.setTop (mkF m 1 #[.val (.double r0), .second, .unset, .unset, .unset] [(.double r0)])) _
    refine st1 _ ?_
    show Steps p.tables e below ((s₁.setVm vm1).setTop (mkF m 4 #[.val (.double r0), .second, .unset, .unset, .unset] [(.long r0.toInt64)])) _
    refine XS.lstoreN X1.here hx rfl (hb hby d1_4) rfl (l' := #[.val (.double r0), .second, .val (.long r0.toInt64), .second, .unset]) rfl ?_
    show Steps p.tables e below ((s₁.setVm vm1).setTop (mkF m 5 #[.val (.double r0), .second, .val (.long r0.toInt64), .second, .unset] [])) _
    refine XS.lloadN X1.here hx rfl (hb hby d1_5) rfl ?_
    show Steps p.tables e below ((s₁.setVm vm1).setTop (mkF m 6 #[.val (.double r0), .second, .val (.long r0.toInt64), .second, .unset] [(.long r0.toInt64)])) _
    refine XS.bipush X1.here hx rfl (hb hby d1_6) ?_
    show Steps p.tables e below ((s₁.setVm vm1).setTop (mkF m 8 #[.val (.double r0), .second, .val (.long r0.toInt64), .second, .unset] [(.int (52 : Int32)), (.long r0.toInt64)])) _
    refine XS.lushr X1.here hx rfl (hb hby d1_8) rfl ?_
    show Steps p.tables e below ((s₁.setVm vm1).setTop (mkF m 9 #[.val (.double r0), .second, .val (.long r0.toInt64), .second, .unset] [(.long ((r0.toInt64.toUInt64 >>> ((52 : Int32) &&& 0x3f).toInt64.toUInt64).toInt64))])) _
    refine XS.l2i X1.here hx rfl (hb hby d1_9) rfl ?_
    show Steps p.tables e below ((s₁.setVm vm1).setTop (mkF m 10 #[.val (.double r0), .second, .val (.long r0.toInt64), .second, .unset] [(.int ((r0.toInt64.toUInt64 >>> ((52 : Int32) &&& 0x3f).toInt64.toUInt64).toInt64).toInt32)])) _
    rw [← hbe]
    show Steps p.tables e below ((s₁.setVm vm1).setTop (mkF m 10 #[.val (.double r0), .second, .val (.long r0.toInt64), .second, .unset] [(.int be)])) _
    refine XS.istore X1.here hx rfl (hb hby d1_10) rfl (l' := #[.val (.double r0), .second, .val (.long r0.toInt64), .second, .val (.int be)]) rfl ?_
    show Steps p.tables e below ((s₁.setVm vm1).setTop (mkF m 12 #[.val (.double r0), .second, .val (.long r0.toInt64), .second, .val (.int be)] [])) _
    refine XS.iload X1.here hx rfl (hb hby d1_12) rfl ?_
    show Steps p.tables e below ((s₁.setVm vm1).setTop (mkF m 14 #[.val (.double r0), .second, .val (.long r0.toInt64), .second, .val (.int be)] [(.int be)])) _
    refine XS.ifYes X1.here hx rfl (pc0 := 14) (pc' := 25) rfl (hb hby d1_14) rfl b14 (by decide) (by decide) ?_
    show Steps p.tables e below ((s₁.setVm vm1).setTop (mkF m 25 #[.val (.double r0), .second, .val (.long r0.toInt64), .second, .val (.int be)] [])) _
    refine XS.sipush X1.here hx rfl (hb hby d1_25) ?_
    show Steps p.tables e below ((s₁.setVm vm1).setTop (mkF m 28 #[.val (.double r0), .second, .val (.long r0.toInt64), .second, .val (.int be)] [(.int (-1074 : Int32))])) _
    refine XS.iload X1.here hx rfl (hb hby d1_28) rfl ?_
    show Steps p.tables e below ((s₁.setVm vm1).setTop (mkF m 30 #[.val (.double r0), .second, .val (.long r0.toInt64), .second, .val (.int be)] [(.int be), (.int (-1074 : Int32))])) _
    refine XS.iadd X1.here hx rfl (hb hby d1_30) rfl ?_
    show Steps p.tables e below ((s₁.setVm vm1).setTop (mkF m 31 #[.val (.double r0), .second, .val (.long r0.toInt64), .second, .val (.int be)] [(.int ((-1074 : Int32) + be))])) _
    refine XS.iconst X1.here hx rfl (hb hby d1_31) ?_
    show Steps p.tables e below ((s₁.setVm vm1).setTop (mkF m 32 #[.val (.double r0), .second, .val (.long r0.toInt64), .second, .val (.int be)] [(.int (1 : Int32)), (.int ((-1074 : Int32) + be))])) _
    refine XS.isub X1.here hx rfl (hb hby d1_32) rfl ?_
    show Steps p.tables e below ((s₁.setVm vm1).setTop (mkF m 33 #[.val (.double r0), .second, .val (.long r0.toInt64), .second, .val (.int be)] [(.int (((-1074 : Int32) + be) - (1 : Int32)))])) _
    refine XS.lloadN X1.here hx rfl (hb hby d1_33) rfl ?_
    show Steps p.tables e below ((s₁.setVm vm1).setTop (mkF m 34 #[.val (.double r0), .second, .val (.long r0.toInt64), .second, .val (.int be)] [(.long r0.toInt64), (.int (((-1074 : Int32) + be) - (1 : Int32)))])) _
    refine st2 _ ?_
    show Steps p.tables e below (T2.setTop (mkF m 37 #[.val (.double r0), .second, .val (.long r0.toInt64), .second, .val (.int be)] [(.int (0 : Int32)), (.int (((-1074 : Int32) + be) - (1 : Int32)))])) _
    refine st3 _ ?_
    show Steps p.tables e below (T3.setTop (mkF m 40 #[.val (.double r0), .second, .val (.long r0.toInt64), .second, .val (.int be)] [(.int (own_f10 (((-1074 : Int32) + be) - (1 : Int32))))])) _
    exact OwnF.retI X3 hx Bd.returns (hb hby d1_40) hr
  · show QP (some (.int (own_f10 (((-1074 : Int32) + be) - (1 : Int32))))) h0 n0 _ T3.heap _
    rw [e3]
    exact ⟨rfl, N3, rfl⟩
theorem ef_rmD2 (m : MethodId) (x0 : UInt64) : entryFrame m #[(.double x0)] 5 = mkF m 0 #[.val (.double x0), .second, .unset, .unset, .unset] [] := by first | (simp [entryFrame, mkF, argsToLocals, Value.category]; done) | rfl
set_option maxRecDepth 65536 in
set_option maxHeartbeats 40000000 in
theorem rmD2 (l : Launch) (Z : State) (a0 : Array Value) (hw : ∀ d ∈ tables_1, d.before a0 Z = true) (ws : List Jvm.Cond)  (r0 : UInt64) (be : Int32) (h0 : Heap) (n0 : Nat) (Z0 : n0 ≤ h0.size) 
    (hbe : be = ((r0.toInt64.toUInt64 >>> ((52 : Int32) &&& 0x3f).toInt64.toUInt64).toInt64).toInt32)
    (b14 : ifCond.holds .ne be = true)
    (c0 : ifCond.holds .ne (if (r0.toInt64 &&& (4503599627370495 : Int64)) > (0 : Int64) then 1 else if (r0.toInt64 &&& (4503599627370495 : Int64)) = (0 : Int64) then 0 else -1) = false)
    (c1 : if_icmp.holds .le ((r0.toInt64.toUInt64 >>> ((52 : Int32) &&& 0x3f).toInt64.toUInt64).toInt64).toInt32 (1 : Int32) = false)
    (u1 : ifCond.holds .eq (1 : Int32) = false) :
    MetFree l (⟨"com/example/sundry/sundry/ShortestDecimal", "unit", "(D)I"⟩ : MethodName) (head1 (Jvm.Cond.code (⟨"com/example/sundry/sundry/ShortestDecimal", "unit", "(D)I"⟩ : MethodName) prog_9_method_3_code 5 (some .int) :: ws) ({ frames := 2, cells := 0, slots := 0, locals := 40 } : Room)) (fun a U => a = #[(.double r0)] ∧ Z.Warmed39 U.vm ∧ U.heap = h0) (fun _ _ _ _ _ => True) (fun _ U o U' => ∃ v L, o = .returned v ∧ QP (some (.int (own_f34 (((-1074 : Int32) + be) - (1 : Int32))))) h0 n0 v U'.heap L ∧ FrameEnd U o U' L ({ frames := 2, cells := 0, slots := 0, locals := 40 } : Room).cells ({ frames := 2, cells := 0, slots := 0, locals := 40 } : Room).slots) := by
  refine MetFree.of_bodySF (plainFor_of_name pn_0) hisR ?_
  intro p e s m args below meth c s₁ Bd hml0 hP hK
  obtain ⟨rfl, hZ, hh⟩ := hP
  have hx := Bd.exec
  have hby := Bd.bytes
  have hml : c.maxLocals = 5 := hml0
  have hown : s.vm.findClass "com/example/sundry/sundry/ShortestDecimal" = some m.cls := findClass_of_methodNamed Bd.named
  have hnm := (name_of_methodNamed Bd.named Bd.method).1
  have X0 : Stand p l e ({ frames := 2, cells := 0, slots := 0, locals := 40 } : Room) s m #[(.double r0)] below meth c s₁ [] 0 0 := Stand.of_body Bd
  have e0 : s₁.heap = h0 := by rw [← hh, Bd.state]; rfl
  have N0 := Fr.nil n0
  have pre0 : ∀ t, Steps p.tables e below (s₁.setTop (mkF m 0 #[.val (.double r0), .second, .unset, .unset, .unset] [])) t → Steps p.tables e below (s₁.setTop (entryFrame m #[(.double r0)] 5)) t := fun t k => castTop (ef_rmD2 m r0) k
  obtain ⟨vm1, X1, st1⟩ := X0.doubleToRawLongBits hx hown (mvT hZ (hw _ (List.mem_of_getElem? (i := 7) rfl))) (mvT hZ (hw _ (List.mem_of_getElem? (i := 10) rfl))) (mvT hZ (hw _ (List.mem_of_getElem? (i := 8) rfl))) (mvT hZ (hw _ (List.mem_of_getElem? (i := 9) rfl))) (g := (mkF m 1 #[.val (.double r0), .second, .unset, .unset, .unset] [(.double r0)])) rfl (by rw [hml]; rfl) (rest := []) (b := r0) rfl (hb hby d1_1) (by decide) (by show 2 * 0 + 0 + (nativeFrameWords "java/lang/Double" "doubleToRawLongBits" 2 + 11) ≤ 40; decide +kernel)
  obtain ⟨_, _, ⟨T2, L2, k2, n2⟩, -, X2, ⟨Lc2, hQ2, l2, y2, z2⟩, st2⟩ := Jvm.LawKit.callS X1 hx (y := (⟨"com/example/sundry/sundry/ShortestDecimal", "closerBelow", "(J)Z"⟩ : MethodName)) hown (mvT hZ (hw _ (List.mem_of_getElem? (i := 19) rfl))) (mvT hZ (hw _ (List.mem_of_getElem? (i := 20) rfl))) (mvT hZ (hw _ (List.mem_of_getElem? (i := 5) rfl))) (mvT hZ (hw _ (List.mem_of_getElem? (i := 21) rfl))) (by decide) (backOf (W := 1) (rmC1 l Z a0 hw [] r0.toInt64 h0 n0 Z0 c0 c1) hZ (hw _ (List.mem_of_getElem? (i := 21) rfl)) (hw _ (List.mem_of_getElem? (i := 5) rfl)) (by decide) (by decide)) (g := (mkF m 34 #[.val (.double r0), .second, .val (.long r0.toInt64), .second, .val (.int be)] [(.long r0.toInt64), (.int (((-1074 : Int32) + be) - (1 : Int32)))])) rfl (by rw [hml]; rfl) (argsL := [(.long r0.toInt64)]) (rest := [(.int (((-1074 : Int32) + be) - (1 : Int32)))]) (lenOf pd_2 rfl) rfl (by show 2 * 0 + _ ≤ _; exact Nat.le_of_eq rfl) (hb hby d1_34) (fun _ _ => ⟨rfl, e0, (by decide : 0 + 0 ≤ _), (by decide : 0 + 0 ≤ _)⟩)
  dsimp only [Pt.U, Pt.locs, Pt.cells, Pt.slots] at X2 l2 y2 z2 st2 hQ2
  subst l2 y2 z2
  obtain ⟨rfl, N2a, e2⟩ := hQ2
  have N2 := Fr.app N0 N2a
  obtain ⟨_, _, ⟨T3, L3, k3, n3⟩, -, X3, ⟨Lc3, hQ3, l3, y3, z3⟩, st3⟩ := Jvm.LawKit.callS X2 hx (y := (⟨"com/example/sundry/sundry/ShortestDecimal", "unit", "(IZ)I"⟩ : MethodName)) hown (mvT hZ (hw _ (List.mem_of_getElem? (i := 11) rfl))) (mvT hZ (hw _ (List.mem_of_getElem? (i := 12) rfl))) (mvT hZ (hw _ (List.mem_of_getElem? (i := 5) rfl))) (mvT hZ (hw _ (List.mem_of_getElem? (i := 13) rfl))) (by decide) (backOf (W := 0) (rmU1 l Z a0 hw [] (((-1074 : Int32) + be) - (1 : Int32)) (1 : Int32) h0 n0 Z0 u1) hZ (hw _ (List.mem_of_getElem? (i := 13) rfl)) (hw _ (List.mem_of_getElem? (i := 5) rfl)) (by decide) (by decide)) (g := (mkF m 37 #[.val (.double r0), .second, .val (.long r0.toInt64), .second, .val (.int be)] [(.int (1 : Int32)), (.int (((-1074 : Int32) + be) - (1 : Int32)))])) rfl (by rw [hml]; rfl) (argsL := [(.int (((-1074 : Int32) + be) - (1 : Int32))), (.int (1 : Int32))]) (rest := []) (lenOf pd_1 rfl) rfl (by show 2 * 0 + _ ≤ _; exact Nat.le_of_eq rfl) (hb hby d1_37) (fun _ _ => ⟨rfl, e2, (by decide : 0 + 0 ≤ _), (by decide : 0 + 0 ≤ _)⟩)
  dsimp only [Pt.U, Pt.locs, Pt.cells, Pt.slots] at X3 l3 y3 z3 st3 hQ3
  subst l3 y3 z3
  obtain ⟨rfl, N3a, e3⟩ := hQ3
  have N3 := Fr.app N2 N3a
  obtain ⟨fs, hr, hrun, hended, hW, hsame⟩ := X3.leave (v := some (.int (own_f34 (((-1074 : Int32) + be) - (1 : Int32))))) (fun h => by rw [Bd.returns] at h; cases h)
  refine ⟨_, _, pre0 _ ?_, hrun, hended, _, _, rfl, ?_, ⟨_, rfl⟩, hW, hsame.mono (Nat.le_of_ble_eq_true rfl) (Nat.le_of_ble_eq_true rfl)⟩
  · show Steps p.tables e below (s₁.setTop (mkF m 0 #[.val (.double r0), .second, .unset, .unset, .unset] [])) _
    refine XS.dloadN X0.here hx rfl (hb hby d1_0) rfl ?_
    show Steps p.tables e below (s₁.setTop (mkF m 1 #[.val (.double r0), .second, .unset, .unset, .unset] [(.double r0)])) _
    refine st1 _ ?_
    show Steps p.tables e below ((s₁.setVm vm1).setTop (mkF m 4 #[.val (.double r0), .second, .unset, .unset, .unset] [(.long r0.toInt64)])) _
    refine XS.lstoreN X1.here hx rfl (hb hby d1_4) rfl (l' := #[.val (.double r0), .second, .val (.long r0.toInt64), .second, .unset]) rfl ?_
    show Steps p.tables e below ((s₁.setVm vm1).setTop (mkF m 5 #[.val (.double r0), .second, .val (.long r0.toInt64), .second, .unset] [])) _
    refine XS.lloadN X1.here hx rfl (hb hby d1_5) rfl ?_
    show Steps p.tables e below ((s₁.setVm vm1).setTop (mkF m 6 #[.val (.double r0), .second, .val (.long r0.toInt64), .second, .unset] [(.long r0.toInt64)])) _
    refine XS.bipush X1.here hx rfl (hb hby d1_6) ?_
    show Steps p.tables e below ((s₁.setVm vm1).setTop (mkF m 8 #[.val (.double r0), .second, .val (.long r0.toInt64), .second, .unset] [(.int (52 : Int32)), (.long r0.toInt64)])) _
    refine XS.lushr X1.here hx rfl (hb hby d1_8) rfl ?_
    show Steps p.tables e below ((s₁.setVm vm1).setTop (mkF m 9 #[.val (.double r0), .second, .val (.long r0.toInt64), .second, .unset] [(.long ((r0.toInt64.toUInt64 >>> ((52 : Int32) &&& 0x3f).toInt64.toUInt64).toInt64))])) _
    refine XS.l2i X1.here hx rfl (hb hby d1_9) rfl ?_
    show Steps p.tables e below ((s₁.setVm vm1).setTop (mkF m 10 #[.val (.double r0), .second, .val (.long r0.toInt64), .second, .unset] [(.int ((r0.toInt64.toUInt64 >>> ((52 : Int32) &&& 0x3f).toInt64.toUInt64).toInt64).toInt32)])) _
    rw [← hbe]
    show Steps p.tables e below ((s₁.setVm vm1).setTop (mkF m 10 #[.val (.double r0), .second, .val (.long r0.toInt64), .second, .unset] [(.int be)])) _
    refine XS.istore X1.here hx rfl (hb hby d1_10) rfl (l' := #[.val (.double r0), .second, .val (.long r0.toInt64), .second, .val (.int be)]) rfl ?_
    show Steps p.tables e below ((s₁.setVm vm1).setTop (mkF m 12 #[.val (.double r0), .second, .val (.long r0.toInt64), .second, .val (.int be)] [])) _
    refine XS.iload X1.here hx rfl (hb hby d1_12) rfl ?_
    show Steps p.tables e below ((s₁.setVm vm1).setTop (mkF m 14 #[.val (.double r0), .second, .val (.long r0.toInt64), .second, .val (.int be)] [(.int be)])) _
    refine XS.ifYes X1.here hx rfl (pc0 := 14) (pc' := 25) rfl (hb hby d1_14) rfl b14 (by decide) (by decide) ?_
    show Steps p.tables e below ((s₁.setVm vm1).setTop (mkF m 25 #[.val (.double r0), .second, .val (.long r0.toInt64), .second, .val (.int be)] [])) _
    refine XS.sipush X1.here hx rfl (hb hby d1_25) ?_
    show Steps p.tables e below ((s₁.setVm vm1).setTop (mkF m 28 #[.val (.double r0), .second, .val (.long r0.toInt64), .second, .val (.int be)] [(.int (-1074 : Int32))])) _
    refine XS.iload X1.here hx rfl (hb hby d1_28) rfl ?_
    show Steps p.tables e below ((s₁.setVm vm1).setTop (mkF m 30 #[.val (.double r0), .second, .val (.long r0.toInt64), .second, .val (.int be)] [(.int be), (.int (-1074 : Int32))])) _
    refine XS.iadd X1.here hx rfl (hb hby d1_30) rfl ?_
    show Steps p.tables e below ((s₁.setVm vm1).setTop (mkF m 31 #[.val (.double r0), .second, .val (.long r0.toInt64), .second, .val (.int be)] [(.int ((-1074 : Int32) + be))])) _
    refine XS.iconst X1.here hx rfl (hb hby d1_31) ?_
    show Steps p.tables e below ((s₁.setVm vm1).setTop (mkF m 32 #[.val (.double r0), .second, .val (.long r0.toInt64), .second, .val (.int be)] [(.int (1 : Int32)), (.int ((-1074 : Int32) + be))])) _
    refine XS.isub X1.here hx rfl (hb hby d1_32) rfl ?_
    show Steps p.tables e below ((s₁.setVm vm1).setTop (mkF m 33 #[.val (.double r0), .second, .val (.long r0.toInt64), .second, .val (.int be)] [(.int (((-1074 : Int32) + be) - (1 : Int32)))])) _
    refine XS.lloadN X1.here hx rfl (hb hby d1_33) rfl ?_
    show Steps p.tables e below ((s₁.setVm vm1).setTop (mkF m 34 #[.val (.double r0), .second, .val (.long r0.toInt64), .second, .val (.int be)] [(.long r0.toInt64), (.int (((-1074 : Int32) + be) - (1 : Int32)))])) _
    refine st2 _ ?_
    show Steps p.tables e below (T2.setTop (mkF m 37 #[.val (.double r0), .second, .val (.long r0.toInt64), .second, .val (.int be)] [(.int (1 : Int32)), (.int (((-1074 : Int32) + be) - (1 : Int32)))])) _
    refine st3 _ ?_
    show Steps p.tables e below (T3.setTop (mkF m 40 #[.val (.double r0), .second, .val (.long r0.toInt64), .second, .val (.int be)] [(.int (own_f34 (((-1074 : Int32) + be) - (1 : Int32))))])) _
    exact OwnF.retI X3 hx Bd.returns (hb hby d1_40) hr
  · show QP (some (.int (own_f34 (((-1074 : Int32) + be) - (1 : Int32))))) h0 n0 _ T3.heap _
    rw [e3]
    exact ⟨rfl, N3, rfl⟩
theorem d5_0 : decode method_3_code 0 = .ok (.lconst 1, 1) := by decide +kernel
theorem d5_1 : decode method_3_code 1 = .ok (.lstore_n 1, 1) := by decide +kernel
theorem d5_2 : decode method_3_code 2 = .ok (.iload_n 0, 1) := by decide +kernel
theorem d5_3 : decode method_3_code 3 = .ok (.iconst 1, 1) := by decide +kernel
theorem d5_4 : decode method_3_code 4 = .ok (.iand, 1) := by decide +kernel
theorem d5_5 : decode method_3_code 5 = .ok (.ifCond .eq 9, 3) := by decide +kernel
theorem d5_8 : decode method_3_code 8 = .ok (.lload_n 1, 1) := by decide +kernel
theorem d5_9 : decode method_3_code 9 = .ok (.ldc2_w 31, 3) := by decide +kernel
theorem d5_12 : decode method_3_code 12 = .ok (.lmul, 1) := by decide +kernel
theorem d5_13 : decode method_3_code 13 = .ok (.lstore_n 1, 1) := by decide +kernel
theorem d5_14 : decode method_3_code 14 = .ok (.iload_n 0, 1) := by decide +kernel
theorem d5_15 : decode method_3_code 15 = .ok (.iconst 2, 1) := by decide +kernel
theorem d5_16 : decode method_3_code 16 = .ok (.iand, 1) := by decide +kernel
theorem d5_17 : decode method_3_code 17 = .ok (.ifCond .eq 9, 3) := by decide +kernel
theorem d5_20 : decode method_3_code 20 = .ok (.lload_n 1, 1) := by decide +kernel
theorem d5_21 : decode method_3_code 21 = .ok (.ldc2_w 33, 3) := by decide +kernel
theorem d5_24 : decode method_3_code 24 = .ok (.lmul, 1) := by decide +kernel
theorem d5_25 : decode method_3_code 25 = .ok (.lstore_n 1, 1) := by decide +kernel
theorem d5_26 : decode method_3_code 26 = .ok (.iload_n 0, 1) := by decide +kernel
theorem d5_27 : decode method_3_code 27 = .ok (.iconst 4, 1) := by decide +kernel
theorem d5_28 : decode method_3_code 28 = .ok (.iand, 1) := by decide +kernel
theorem d5_29 : decode method_3_code 29 = .ok (.ifCond .eq 9, 3) := by decide +kernel
theorem d5_32 : decode method_3_code 32 = .ok (.lload_n 1, 1) := by decide +kernel
theorem d5_33 : decode method_3_code 33 = .ok (.ldc2_w 35, 3) := by decide +kernel
theorem d5_36 : decode method_3_code 36 = .ok (.lmul, 1) := by decide +kernel
theorem d5_37 : decode method_3_code 37 = .ok (.lstore_n 1, 1) := by decide +kernel
theorem d5_38 : decode method_3_code 38 = .ok (.iload_n 0, 1) := by decide +kernel
theorem d5_39 : decode method_3_code 39 = .ok (.bipush 8, 2) := by decide +kernel
theorem d5_41 : decode method_3_code 41 = .ok (.iand, 1) := by decide +kernel
theorem d5_42 : decode method_3_code 42 = .ok (.ifCond .eq 9, 3) := by decide +kernel
theorem d5_45 : decode method_3_code 45 = .ok (.lload_n 1, 1) := by decide +kernel
theorem d5_46 : decode method_3_code 46 = .ok (.ldc2_w 37, 3) := by decide +kernel
theorem d5_49 : decode method_3_code 49 = .ok (.lmul, 1) := by decide +kernel
theorem d5_50 : decode method_3_code 50 = .ok (.lstore_n 1, 1) := by decide +kernel
theorem d5_51 : decode method_3_code 51 = .ok (.iload_n 0, 1) := by decide +kernel
theorem d5_52 : decode method_3_code 52 = .ok (.bipush 16, 2) := by decide +kernel
theorem d5_54 : decode method_3_code 54 = .ok (.iand, 1) := by decide +kernel
theorem d5_55 : decode method_3_code 55 = .ok (.ifCond .eq 9, 3) := by decide +kernel
theorem d5_58 : decode method_3_code 58 = .ok (.lload_n 1, 1) := by decide +kernel
theorem d5_59 : decode method_3_code 59 = .ok (.ldc2_w 39, 3) := by decide +kernel
theorem d5_62 : decode method_3_code 62 = .ok (.lmul, 1) := by decide +kernel
theorem d5_63 : decode method_3_code 63 = .ok (.lstore_n 1, 1) := by decide +kernel
def own_p10 (p0 : Int32) : Int64 :=
  let r0 := cond (ifCond.holds .eq (p0 &&& (1 : Int32))) (1 : Int64) ((1 : Int64) * (10 : Int64))
  let r1 := cond (ifCond.holds .eq (p0 &&& (2 : Int32))) r0 (r0 * (100 : Int64))
  let r2 := cond (ifCond.holds .eq (p0 &&& (4 : Int32))) r1 (r1 * (10000 : Int64))
  let r3 := cond (ifCond.holds .eq (p0 &&& (8 : Int32))) r2 (r2 * (100000000 : Int64))
  let r4 := cond (ifCond.holds .eq (p0 &&& (16 : Int32))) r3 (r3 * (10000000000000000 : Int64))
  r4
theorem d5_64 : decode method_3_code 64 = .ok (.lload_n 1, 1) := by decide +kernel
theorem d5_65 : decode method_3_code 65 = .ok (.lreturn, 1) := by decide +kernel
theorem pn_1 : plainName "com/example/sundry/sundry/ShortestDecimalUnitPinLaw" = true := by first | (simp [plainName, overriddenIn]; done) | decide +kernel
theorem ef_rmP (m : MethodId) (x0 : Int32) : entryFrame m #[(.int x0)] 3 = mkF m 0 #[.val (.int x0), .unset, .unset] [] := by first | (simp [entryFrame, mkF, argsToLocals, Value.category]; done) | rfl
set_option maxRecDepth 65536 in
set_option maxHeartbeats 40000000 in
theorem rmP (l : Launch) (Z : State) (a0 : Array Value) (hw : ∀ d ∈ tables_1, d.before a0 Z = true) (ws : List Jvm.Cond)  (p0 : Int32) (h0 : Heap) (n0 : Nat) (Z0 : n0 ≤ h0.size)  :
    MetFree l (⟨"com/example/sundry/sundry/ShortestDecimalUnitPinLaw", "pow10", "(I)J"⟩ : MethodName) (head1 (Jvm.Cond.code (⟨"com/example/sundry/sundry/ShortestDecimalUnitPinLaw", "pow10", "(I)J"⟩ : MethodName) method_3_code 3 (some .long) :: ws) ({ frames := 0, cells := 0, slots := 0, locals := 0 } : Room)) (fun a U => a = #[(.int p0)] ∧ Z.Warmed39 U.vm ∧ U.heap = h0) (fun _ _ _ _ _ => True) (fun _ U o U' => ∃ v L, o = .returned v ∧ QP (some (.long (own_p10 p0))) h0 n0 v U'.heap L ∧ FrameEnd U o U' L ({ frames := 0, cells := 0, slots := 0, locals := 0 } : Room).cells ({ frames := 0, cells := 0, slots := 0, locals := 0 } : Room).slots) := by
  refine MetFree.of_bodySF (plainFor_of_name pn_1) hisR ?_
  intro p e s m args below meth c s₁ Bd hml0 hP hK
  obtain ⟨rfl, hZ, hh⟩ := hP
  have hx := Bd.exec
  have hby := Bd.bytes
  have hml : c.maxLocals = 3 := hml0
  have hown : s.vm.findClass "com/example/sundry/sundry/ShortestDecimalUnitPinLaw" = some m.cls := findClass_of_methodNamed Bd.named
  have hnm := (name_of_methodNamed Bd.named Bd.method).1
  have X0 : Stand p l e ({ frames := 0, cells := 0, slots := 0, locals := 0 } : Room) s m #[(.int p0)] below meth c s₁ [] 0 0 := Stand.of_body Bd
  have e0 : s₁.heap = h0 := by rw [← hh, Bd.state]; rfl
  have N0 := Fr.nil n0
  have pre0 : ∀ t, Steps p.tables e below (s₁.setTop (mkF m 0 #[.val (.int p0), .unset, .unset] [])) t → Steps p.tables e below (s₁.setTop (entryFrame m #[(.int p0)] 3)) t := fun t k => castTop (ef_rmP m p0) k
  have seg0 : ∀ (r : Int64) t, Steps p.tables e below (s₁.setTop (mkF m 14 #[.val (.int p0), .val (.long (cond (ifCond.holds .eq (p0 &&& (1 : Int32))) r (r * (10 : Int64)))), .second] [])) t → Steps p.tables e below (s₁.setTop (mkF m 2 #[.val (.int p0), .val (.long r), .second] [])) t := by
    intro r t
    cases hb0 : ifCond.holds .eq (p0 &&& (1 : Int32)) <;> intro k
    · show Steps p.tables e below (s₁.setTop (mkF m 2 #[.val (.int p0), .val (.long r), .second] [])) _
      refine XS.iloadN X0.here hx rfl (hb hby d5_2) rfl ?_
      show Steps p.tables e below (s₁.setTop (mkF m 3 #[.val (.int p0), .val (.long r), .second] [(.int p0)])) _
      refine XS.iconst X0.here hx rfl (hb hby d5_3) ?_
      show Steps p.tables e below (s₁.setTop (mkF m 4 #[.val (.int p0), .val (.long r), .second] [(.int (1 : Int32)), (.int p0)])) _
      refine XS.iand X0.here hx rfl (hb hby d5_4) rfl ?_
      show Steps p.tables e below (s₁.setTop (mkF m 5 #[.val (.int p0), .val (.long r), .second] [(.int (p0 &&& (1 : Int32)))])) _
      refine XS.ifNo X0.here hx rfl (hb hby d5_5) rfl hb0 ?_
      show Steps p.tables e below (s₁.setTop (mkF m 8 #[.val (.int p0), .val (.long r), .second] [])) _
      refine XS.lloadN X0.here hx rfl (hb hby d5_8) rfl ?_
      show Steps p.tables e below (s₁.setTop (mkF m 9 #[.val (.int p0), .val (.long r), .second] [(.long r)])) _
      refine X0.ldc2Long hx hown (mvT hZ (hw _ (List.mem_of_getElem? (i := 28) rfl))) (g := (mkF m 9 #[.val (.int p0), .val (.long r), .second] [(.long r)])) rfl (hb hby d5_9) _ ?_
      show Steps p.tables e below (s₁.setTop (mkF m 12 #[.val (.int p0), .val (.long r), .second] [(.long (10 : Int64)), (.long r)])) _
      refine XS.lmul X0.here hx rfl (hb hby d5_12) rfl ?_
      show Steps p.tables e below (s₁.setTop (mkF m 13 #[.val (.int p0), .val (.long r), .second] [(.long (r * (10 : Int64)))])) _
      refine XS.lstoreN X0.here hx rfl (hb hby d5_13) rfl (l' := #[.val (.int p0), .val (.long (r * (10 : Int64))), .second]) rfl ?_
      show Steps p.tables e below (s₁.setTop (mkF m 14 #[.val (.int p0), .val (.long (r * (10 : Int64))), .second] [])) _
      exact k
    · show Steps p.tables e below (s₁.setTop (mkF m 2 #[.val (.int p0), .val (.long r), .second] [])) _
      refine XS.iloadN X0.here hx rfl (hb hby d5_2) rfl ?_
      show Steps p.tables e below (s₁.setTop (mkF m 3 #[.val (.int p0), .val (.long r), .second] [(.int p0)])) _
      refine XS.iconst X0.here hx rfl (hb hby d5_3) ?_
      show Steps p.tables e below (s₁.setTop (mkF m 4 #[.val (.int p0), .val (.long r), .second] [(.int (1 : Int32)), (.int p0)])) _
      refine XS.iand X0.here hx rfl (hb hby d5_4) rfl ?_
      show Steps p.tables e below (s₁.setTop (mkF m 5 #[.val (.int p0), .val (.long r), .second] [(.int (p0 &&& (1 : Int32)))])) _
      refine XS.ifYes X0.here hx rfl (pc0 := 5) (pc' := 14) rfl (hb hby d5_5) rfl hb0 (by decide) (by decide) ?_
      show Steps p.tables e below (s₁.setTop (mkF m 14 #[.val (.int p0), .val (.long r), .second] [])) _
      exact k
  have seg1 : ∀ (r : Int64) t, Steps p.tables e below (s₁.setTop (mkF m 26 #[.val (.int p0), .val (.long (cond (ifCond.holds .eq (p0 &&& (2 : Int32))) r (r * (100 : Int64)))), .second] [])) t → Steps p.tables e below (s₁.setTop (mkF m 14 #[.val (.int p0), .val (.long r), .second] [])) t := by
    intro r t
    cases hb1 : ifCond.holds .eq (p0 &&& (2 : Int32)) <;> intro k
    · show Steps p.tables e below (s₁.setTop (mkF m 14 #[.val (.int p0), .val (.long r), .second] [])) _
      refine XS.iloadN X0.here hx rfl (hb hby d5_14) rfl ?_
      show Steps p.tables e below (s₁.setTop (mkF m 15 #[.val (.int p0), .val (.long r), .second] [(.int p0)])) _
      refine XS.iconst X0.here hx rfl (hb hby d5_15) ?_
      show Steps p.tables e below (s₁.setTop (mkF m 16 #[.val (.int p0), .val (.long r), .second] [(.int (2 : Int32)), (.int p0)])) _
      refine XS.iand X0.here hx rfl (hb hby d5_16) rfl ?_
      show Steps p.tables e below (s₁.setTop (mkF m 17 #[.val (.int p0), .val (.long r), .second] [(.int (p0 &&& (2 : Int32)))])) _
      refine XS.ifNo X0.here hx rfl (hb hby d5_17) rfl hb1 ?_
      show Steps p.tables e below (s₁.setTop (mkF m 20 #[.val (.int p0), .val (.long r), .second] [])) _
      refine XS.lloadN X0.here hx rfl (hb hby d5_20) rfl ?_
      show Steps p.tables e below (s₁.setTop (mkF m 21 #[.val (.int p0), .val (.long r), .second] [(.long r)])) _
      refine X0.ldc2Long hx hown (mvT hZ (hw _ (List.mem_of_getElem? (i := 29) rfl))) (g := (mkF m 21 #[.val (.int p0), .val (.long r), .second] [(.long r)])) rfl (hb hby d5_21) _ ?_
      show Steps p.tables e below (s₁.setTop (mkF m 24 #[.val (.int p0), .val (.long r), .second] [(.long (100 : Int64)), (.long r)])) _
      refine XS.lmul X0.here hx rfl (hb hby d5_24) rfl ?_
      show Steps p.tables e below (s₁.setTop (mkF m 25 #[.val (.int p0), .val (.long r), .second] [(.long (r * (100 : Int64)))])) _
      refine XS.lstoreN X0.here hx rfl (hb hby d5_25) rfl (l' := #[.val (.int p0), .val (.long (r * (100 : Int64))), .second]) rfl ?_
      show Steps p.tables e below (s₁.setTop (mkF m 26 #[.val (.int p0), .val (.long (r * (100 : Int64))), .second] [])) _
      exact k
    · show Steps p.tables e below (s₁.setTop (mkF m 14 #[.val (.int p0), .val (.long r), .second] [])) _
      refine XS.iloadN X0.here hx rfl (hb hby d5_14) rfl ?_
      show Steps p.tables e below (s₁.setTop (mkF m 15 #[.val (.int p0), .val (.long r), .second] [(.int p0)])) _
      refine XS.iconst X0.here hx rfl (hb hby d5_15) ?_
      show Steps p.tables e below (s₁.setTop (mkF m 16 #[.val (.int p0), .val (.long r), .second] [(.int (2 : Int32)), (.int p0)])) _
      refine XS.iand X0.here hx rfl (hb hby d5_16) rfl ?_
      show Steps p.tables e below (s₁.setTop (mkF m 17 #[.val (.int p0), .val (.long r), .second] [(.int (p0 &&& (2 : Int32)))])) _
      refine XS.ifYes X0.here hx rfl (pc0 := 17) (pc' := 26) rfl (hb hby d5_17) rfl hb1 (by decide) (by decide) ?_
      show Steps p.tables e below (s₁.setTop (mkF m 26 #[.val (.int p0), .val (.long r), .second] [])) _
      exact k
  have seg2 : ∀ (r : Int64) t, Steps p.tables e below (s₁.setTop (mkF m 38 #[.val (.int p0), .val (.long (cond (ifCond.holds .eq (p0 &&& (4 : Int32))) r (r * (10000 : Int64)))), .second] [])) t → Steps p.tables e below (s₁.setTop (mkF m 26 #[.val (.int p0), .val (.long r), .second] [])) t := by
    intro r t
    cases hb2 : ifCond.holds .eq (p0 &&& (4 : Int32)) <;> intro k
    · show Steps p.tables e below (s₁.setTop (mkF m 26 #[.val (.int p0), .val (.long r), .second] [])) _
      refine XS.iloadN X0.here hx rfl (hb hby d5_26) rfl ?_
      show Steps p.tables e below (s₁.setTop (mkF m 27 #[.val (.int p0), .val (.long r), .second] [(.int p0)])) _
      refine XS.iconst X0.here hx rfl (hb hby d5_27) ?_
      show Steps p.tables e below (s₁.setTop (mkF m 28 #[.val (.int p0), .val (.long r), .second] [(.int (4 : Int32)), (.int p0)])) _
      refine XS.iand X0.here hx rfl (hb hby d5_28) rfl ?_
      show Steps p.tables e below (s₁.setTop (mkF m 29 #[.val (.int p0), .val (.long r), .second] [(.int (p0 &&& (4 : Int32)))])) _
      refine XS.ifNo X0.here hx rfl (hb hby d5_29) rfl hb2 ?_
      show Steps p.tables e below (s₁.setTop (mkF m 32 #[.val (.int p0), .val (.long r), .second] [])) _
      refine XS.lloadN X0.here hx rfl (hb hby d5_32) rfl ?_
      show Steps p.tables e below (s₁.setTop (mkF m 33 #[.val (.int p0), .val (.long r), .second] [(.long r)])) _
      refine X0.ldc2Long hx hown (mvT hZ (hw _ (List.mem_of_getElem? (i := 35) rfl))) (g := (mkF m 33 #[.val (.int p0), .val (.long r), .second] [(.long r)])) rfl (hb hby d5_33) _ ?_
      show Steps p.tables e below (s₁.setTop (mkF m 36 #[.val (.int p0), .val (.long r), .second] [(.long (10000 : Int64)), (.long r)])) _
      refine XS.lmul X0.here hx rfl (hb hby d5_36) rfl ?_
      show Steps p.tables e below (s₁.setTop (mkF m 37 #[.val (.int p0), .val (.long r), .second] [(.long (r * (10000 : Int64)))])) _
      refine XS.lstoreN X0.here hx rfl (hb hby d5_37) rfl (l' := #[.val (.int p0), .val (.long (r * (10000 : Int64))), .second]) rfl ?_
      show Steps p.tables e below (s₁.setTop (mkF m 38 #[.val (.int p0), .val (.long (r * (10000 : Int64))), .second] [])) _
      exact k
    · show Steps p.tables e below (s₁.setTop (mkF m 26 #[.val (.int p0), .val (.long r), .second] [])) _
      refine XS.iloadN X0.here hx rfl (hb hby d5_26) rfl ?_
      show Steps p.tables e below (s₁.setTop (mkF m 27 #[.val (.int p0), .val (.long r), .second] [(.int p0)])) _
      refine XS.iconst X0.here hx rfl (hb hby d5_27) ?_
      show Steps p.tables e below (s₁.setTop (mkF m 28 #[.val (.int p0), .val (.long r), .second] [(.int (4 : Int32)), (.int p0)])) _
      refine XS.iand X0.here hx rfl (hb hby d5_28) rfl ?_
      show Steps p.tables e below (s₁.setTop (mkF m 29 #[.val (.int p0), .val (.long r), .second] [(.int (p0 &&& (4 : Int32)))])) _
      refine XS.ifYes X0.here hx rfl (pc0 := 29) (pc' := 38) rfl (hb hby d5_29) rfl hb2 (by decide) (by decide) ?_
      show Steps p.tables e below (s₁.setTop (mkF m 38 #[.val (.int p0), .val (.long r), .second] [])) _
      exact k
  have seg3 : ∀ (r : Int64) t, Steps p.tables e below (s₁.setTop (mkF m 51 #[.val (.int p0), .val (.long (cond (ifCond.holds .eq (p0 &&& (8 : Int32))) r (r * (100000000 : Int64)))), .second] [])) t → Steps p.tables e below (s₁.setTop (mkF m 38 #[.val (.int p0), .val (.long r), .second] [])) t := by
    intro r t
    cases hb3 : ifCond.holds .eq (p0 &&& (8 : Int32)) <;> intro k
    · show Steps p.tables e below (s₁.setTop (mkF m 38 #[.val (.int p0), .val (.long r), .second] [])) _
      refine XS.iloadN X0.here hx rfl (hb hby d5_38) rfl ?_
      show Steps p.tables e below (s₁.setTop (mkF m 39 #[.val (.int p0), .val (.long r), .second] [(.int p0)])) _
      refine XS.bipush X0.here hx rfl (hb hby d5_39) ?_
      show Steps p.tables e below (s₁.setTop (mkF m 41 #[.val (.int p0), .val (.long r), .second] [(.int (8 : Int32)), (.int p0)])) _
      refine XS.iand X0.here hx rfl (hb hby d5_41) rfl ?_
      show Steps p.tables e below (s₁.setTop (mkF m 42 #[.val (.int p0), .val (.long r), .second] [(.int (p0 &&& (8 : Int32)))])) _
      refine XS.ifNo X0.here hx rfl (hb hby d5_42) rfl hb3 ?_
      show Steps p.tables e below (s₁.setTop (mkF m 45 #[.val (.int p0), .val (.long r), .second] [])) _
      refine XS.lloadN X0.here hx rfl (hb hby d5_45) rfl ?_
      show Steps p.tables e below (s₁.setTop (mkF m 46 #[.val (.int p0), .val (.long r), .second] [(.long r)])) _
      refine X0.ldc2Long hx hown (mvT hZ (hw _ (List.mem_of_getElem? (i := 36) rfl))) (g := (mkF m 46 #[.val (.int p0), .val (.long r), .second] [(.long r)])) rfl (hb hby d5_46) _ ?_
      show Steps p.tables e below (s₁.setTop (mkF m 49 #[.val (.int p0), .val (.long r), .second] [(.long (100000000 : Int64)), (.long r)])) _
      refine XS.lmul X0.here hx rfl (hb hby d5_49) rfl ?_
      show Steps p.tables e below (s₁.setTop (mkF m 50 #[.val (.int p0), .val (.long r), .second] [(.long (r * (100000000 : Int64)))])) _
      refine XS.lstoreN X0.here hx rfl (hb hby d5_50) rfl (l' := #[.val (.int p0), .val (.long (r * (100000000 : Int64))), .second]) rfl ?_
      show Steps p.tables e below (s₁.setTop (mkF m 51 #[.val (.int p0), .val (.long (r * (100000000 : Int64))), .second] [])) _
      exact k
    · show Steps p.tables e below (s₁.setTop (mkF m 38 #[.val (.int p0), .val (.long r), .second] [])) _
      refine XS.iloadN X0.here hx rfl (hb hby d5_38) rfl ?_
      show Steps p.tables e below (s₁.setTop (mkF m 39 #[.val (.int p0), .val (.long r), .second] [(.int p0)])) _
      refine XS.bipush X0.here hx rfl (hb hby d5_39) ?_
      show Steps p.tables e below (s₁.setTop (mkF m 41 #[.val (.int p0), .val (.long r), .second] [(.int (8 : Int32)), (.int p0)])) _
      refine XS.iand X0.here hx rfl (hb hby d5_41) rfl ?_
      show Steps p.tables e below (s₁.setTop (mkF m 42 #[.val (.int p0), .val (.long r), .second] [(.int (p0 &&& (8 : Int32)))])) _
      refine XS.ifYes X0.here hx rfl (pc0 := 42) (pc' := 51) rfl (hb hby d5_42) rfl hb3 (by decide) (by decide) ?_
      show Steps p.tables e below (s₁.setTop (mkF m 51 #[.val (.int p0), .val (.long r), .second] [])) _
      exact k
  have seg4 : ∀ (r : Int64) t, Steps p.tables e below (s₁.setTop (mkF m 64 #[.val (.int p0), .val (.long (cond (ifCond.holds .eq (p0 &&& (16 : Int32))) r (r * (10000000000000000 : Int64)))), .second] [])) t → Steps p.tables e below (s₁.setTop (mkF m 51 #[.val (.int p0), .val (.long r), .second] [])) t := by
    intro r t
    cases hb4 : ifCond.holds .eq (p0 &&& (16 : Int32)) <;> intro k
    · show Steps p.tables e below (s₁.setTop (mkF m 51 #[.val (.int p0), .val (.long r), .second] [])) _
      refine XS.iloadN X0.here hx rfl (hb hby d5_51) rfl ?_
      show Steps p.tables e below (s₁.setTop (mkF m 52 #[.val (.int p0), .val (.long r), .second] [(.int p0)])) _
      refine XS.bipush X0.here hx rfl (hb hby d5_52) ?_
      show Steps p.tables e below (s₁.setTop (mkF m 54 #[.val (.int p0), .val (.long r), .second] [(.int (16 : Int32)), (.int p0)])) _
      refine XS.iand X0.here hx rfl (hb hby d5_54) rfl ?_
      show Steps p.tables e below (s₁.setTop (mkF m 55 #[.val (.int p0), .val (.long r), .second] [(.int (p0 &&& (16 : Int32)))])) _
      refine XS.ifNo X0.here hx rfl (hb hby d5_55) rfl hb4 ?_
      show Steps p.tables e below (s₁.setTop (mkF m 58 #[.val (.int p0), .val (.long r), .second] [])) _
      refine XS.lloadN X0.here hx rfl (hb hby d5_58) rfl ?_
      show Steps p.tables e below (s₁.setTop (mkF m 59 #[.val (.int p0), .val (.long r), .second] [(.long r)])) _
      refine X0.ldc2Long hx hown (mvT hZ (hw _ (List.mem_of_getElem? (i := 37) rfl))) (g := (mkF m 59 #[.val (.int p0), .val (.long r), .second] [(.long r)])) rfl (hb hby d5_59) _ ?_
      show Steps p.tables e below (s₁.setTop (mkF m 62 #[.val (.int p0), .val (.long r), .second] [(.long (10000000000000000 : Int64)), (.long r)])) _
      refine XS.lmul X0.here hx rfl (hb hby d5_62) rfl ?_
      show Steps p.tables e below (s₁.setTop (mkF m 63 #[.val (.int p0), .val (.long r), .second] [(.long (r * (10000000000000000 : Int64)))])) _
      refine XS.lstoreN X0.here hx rfl (hb hby d5_63) rfl (l' := #[.val (.int p0), .val (.long (r * (10000000000000000 : Int64))), .second]) rfl ?_
      show Steps p.tables e below (s₁.setTop (mkF m 64 #[.val (.int p0), .val (.long (r * (10000000000000000 : Int64))), .second] [])) _
      exact k
    · show Steps p.tables e below (s₁.setTop (mkF m 51 #[.val (.int p0), .val (.long r), .second] [])) _
      refine XS.iloadN X0.here hx rfl (hb hby d5_51) rfl ?_
      show Steps p.tables e below (s₁.setTop (mkF m 52 #[.val (.int p0), .val (.long r), .second] [(.int p0)])) _
      refine XS.bipush X0.here hx rfl (hb hby d5_52) ?_
      show Steps p.tables e below (s₁.setTop (mkF m 54 #[.val (.int p0), .val (.long r), .second] [(.int (16 : Int32)), (.int p0)])) _
      refine XS.iand X0.here hx rfl (hb hby d5_54) rfl ?_
      show Steps p.tables e below (s₁.setTop (mkF m 55 #[.val (.int p0), .val (.long r), .second] [(.int (p0 &&& (16 : Int32)))])) _
      refine XS.ifYes X0.here hx rfl (pc0 := 55) (pc' := 64) rfl (hb hby d5_55) rfl hb4 (by decide) (by decide) ?_
      show Steps p.tables e below (s₁.setTop (mkF m 64 #[.val (.int p0), .val (.long r), .second] [])) _
      exact k
  obtain ⟨fs, hr, hrun, hended, hW, hsame⟩ := X0.leave (v := some (.long (cond (ifCond.holds .eq (p0 &&& (16 : Int32))) (cond (ifCond.holds .eq (p0 &&& (8 : Int32))) (cond (ifCond.holds .eq (p0 &&& (4 : Int32))) (cond (ifCond.holds .eq (p0 &&& (2 : Int32))) (cond (ifCond.holds .eq (p0 &&& (1 : Int32))) (1 : Int64) ((1 : Int64) * (10 : Int64))) ((cond (ifCond.holds .eq (p0 &&& (1 : Int32))) (1 : Int64) ((1 : Int64) * (10 : Int64))) * (100 : Int64))) ((cond (ifCond.holds .eq (p0 &&& (2 : Int32))) (cond (ifCond.holds .eq (p0 &&& (1 : Int32))) (1 : Int64) ((1 : Int64) * (10 : Int64))) ((cond (ifCond.holds .eq (p0 &&& (1 : Int32))) (1 : Int64) ((1 : Int64) * (10 : Int64))) * (100 : Int64))) * (10000 : Int64))) ((cond (ifCond.holds .eq (p0 &&& (4 : Int32))) (cond (ifCond.holds .eq (p0 &&& (2 : Int32))) (cond (ifCond.holds .eq (p0 &&& (1 : Int32))) (1 : Int64) ((1 : Int64) * (10 : Int64))) ((cond (ifCond.holds .eq (p0 &&& (1 : Int32))) (1 : Int64) ((1 : Int64) * (10 : Int64))) * (100 : Int64))) ((cond (ifCond.holds .eq (p0 &&& (2 : Int32))) (cond (ifCond.holds .eq (p0 &&& (1 : Int32))) (1 : Int64) ((1 : Int64) * (10 : Int64))) ((cond (ifCond.holds .eq (p0 &&& (1 : Int32))) (1 : Int64) ((1 : Int64) * (10 : Int64))) * (100 : Int64))) * (10000 : Int64))) * (100000000 : Int64))) ((cond (ifCond.holds .eq (p0 &&& (8 : Int32))) (cond (ifCond.holds .eq (p0 &&& (4 : Int32))) (cond (ifCond.holds .eq (p0 &&& (2 : Int32))) (cond (ifCond.holds .eq (p0 &&& (1 : Int32))) (1 : Int64) ((1 : Int64) * (10 : Int64))) ((cond (ifCond.holds .eq (p0 &&& (1 : Int32))) (1 : Int64) ((1 : Int64) * (10 : Int64))) * (100 : Int64))) ((cond (ifCond.holds .eq (p0 &&& (2 : Int32))) (cond (ifCond.holds .eq (p0 &&& (1 : Int32))) (1 : Int64) ((1 : Int64) * (10 : Int64))) ((cond (ifCond.holds .eq (p0 &&& (1 : Int32))) (1 : Int64) ((1 : Int64) * (10 : Int64))) * (100 : Int64))) * (10000 : Int64))) ((cond (ifCond.holds .eq (p0 &&& (4 : Int32))) (cond (ifCond.holds .eq (p0 &&& (2 : Int32))) (cond (ifCond.holds .eq (p0 &&& (1 : Int32))) (1 : Int64) ((1 : Int64) * (10 : Int64))) ((cond (ifCond.holds .eq (p0 &&& (1 : Int32))) (1 : Int64) ((1 : Int64) * (10 : Int64))) * (100 : Int64))) ((cond (ifCond.holds .eq (p0 &&& (2 : Int32))) (cond (ifCond.holds .eq (p0 &&& (1 : Int32))) (1 : Int64) ((1 : Int64) * (10 : Int64))) ((cond (ifCond.holds .eq (p0 &&& (1 : Int32))) (1 : Int64) ((1 : Int64) * (10 : Int64))) * (100 : Int64))) * (10000 : Int64))) * (100000000 : Int64))) * (10000000000000000 : Int64))))) (fun h => by rw [Bd.returns] at h; cases h)
  refine ⟨_, _, pre0 _ ?_, hrun, hended, _, _, rfl, ?_, ⟨_, rfl⟩, hW, hsame.mono (Nat.le_of_ble_eq_true rfl) (Nat.le_of_ble_eq_true rfl)⟩
  · show Steps p.tables e below (s₁.setTop (mkF m 0 #[.val (.int p0), .unset, .unset] [])) _
    refine XS.lconst X0.here hx rfl (hb hby d5_0) ?_
    show Steps p.tables e below (s₁.setTop (mkF m 1 #[.val (.int p0), .unset, .unset] [(.long (1 : Int64))])) _
    refine XS.lstoreN X0.here hx rfl (hb hby d5_1) rfl (l' := #[.val (.int p0), .val (.long (1 : Int64)), .second]) rfl ?_
    show Steps p.tables e below (s₁.setTop (mkF m 2 #[.val (.int p0), .val (.long (1 : Int64)), .second] [])) _
    refine seg0 _ _ ?_
    show Steps p.tables e below (s₁.setTop (mkF m 14 #[.val (.int p0), .val (.long (cond (ifCond.holds .eq (p0 &&& (1 : Int32))) (1 : Int64) ((1 : Int64) * (10 : Int64)))), .second] [])) _
    refine seg1 _ _ ?_
    show Steps p.tables e below (s₁.setTop (mkF m 26 #[.val (.int p0), .val (.long (cond (ifCond.holds .eq (p0 &&& (2 : Int32))) (cond (ifCond.holds .eq (p0 &&& (1 : Int32))) (1 : Int64) ((1 : Int64) * (10 : Int64))) ((cond (ifCond.holds .eq (p0 &&& (1 : Int32))) (1 : Int64) ((1 : Int64) * (10 : Int64))) * (100 : Int64)))), .second] [])) _
    refine seg2 _ _ ?_
    show Steps p.tables e below (s₁.setTop (mkF m 38 #[.val (.int p0), .val (.long (cond (ifCond.holds .eq (p0 &&& (4 : Int32))) (cond (ifCond.holds .eq (p0 &&& (2 : Int32))) (cond (ifCond.holds .eq (p0 &&& (1 : Int32))) (1 : Int64) ((1 : Int64) * (10 : Int64))) ((cond (ifCond.holds .eq (p0 &&& (1 : Int32))) (1 : Int64) ((1 : Int64) * (10 : Int64))) * (100 : Int64))) ((cond (ifCond.holds .eq (p0 &&& (2 : Int32))) (cond (ifCond.holds .eq (p0 &&& (1 : Int32))) (1 : Int64) ((1 : Int64) * (10 : Int64))) ((cond (ifCond.holds .eq (p0 &&& (1 : Int32))) (1 : Int64) ((1 : Int64) * (10 : Int64))) * (100 : Int64))) * (10000 : Int64)))), .second] [])) _
    refine seg3 _ _ ?_
    show Steps p.tables e below (s₁.setTop (mkF m 51 #[.val (.int p0), .val (.long (cond (ifCond.holds .eq (p0 &&& (8 : Int32))) (cond (ifCond.holds .eq (p0 &&& (4 : Int32))) (cond (ifCond.holds .eq (p0 &&& (2 : Int32))) (cond (ifCond.holds .eq (p0 &&& (1 : Int32))) (1 : Int64) ((1 : Int64) * (10 : Int64))) ((cond (ifCond.holds .eq (p0 &&& (1 : Int32))) (1 : Int64) ((1 : Int64) * (10 : Int64))) * (100 : Int64))) ((cond (ifCond.holds .eq (p0 &&& (2 : Int32))) (cond (ifCond.holds .eq (p0 &&& (1 : Int32))) (1 : Int64) ((1 : Int64) * (10 : Int64))) ((cond (ifCond.holds .eq (p0 &&& (1 : Int32))) (1 : Int64) ((1 : Int64) * (10 : Int64))) * (100 : Int64))) * (10000 : Int64))) ((cond (ifCond.holds .eq (p0 &&& (4 : Int32))) (cond (ifCond.holds .eq (p0 &&& (2 : Int32))) (cond (ifCond.holds .eq (p0 &&& (1 : Int32))) (1 : Int64) ((1 : Int64) * (10 : Int64))) ((cond (ifCond.holds .eq (p0 &&& (1 : Int32))) (1 : Int64) ((1 : Int64) * (10 : Int64))) * (100 : Int64))) ((cond (ifCond.holds .eq (p0 &&& (2 : Int32))) (cond (ifCond.holds .eq (p0 &&& (1 : Int32))) (1 : Int64) ((1 : Int64) * (10 : Int64))) ((cond (ifCond.holds .eq (p0 &&& (1 : Int32))) (1 : Int64) ((1 : Int64) * (10 : Int64))) * (100 : Int64))) * (10000 : Int64))) * (100000000 : Int64)))), .second] [])) _
    refine seg4 _ _ ?_
    show Steps p.tables e below (s₁.setTop (mkF m 64 #[.val (.int p0), .val (.long (cond (ifCond.holds .eq (p0 &&& (16 : Int32))) (cond (ifCond.holds .eq (p0 &&& (8 : Int32))) (cond (ifCond.holds .eq (p0 &&& (4 : Int32))) (cond (ifCond.holds .eq (p0 &&& (2 : Int32))) (cond (ifCond.holds .eq (p0 &&& (1 : Int32))) (1 : Int64) ((1 : Int64) * (10 : Int64))) ((cond (ifCond.holds .eq (p0 &&& (1 : Int32))) (1 : Int64) ((1 : Int64) * (10 : Int64))) * (100 : Int64))) ((cond (ifCond.holds .eq (p0 &&& (2 : Int32))) (cond (ifCond.holds .eq (p0 &&& (1 : Int32))) (1 : Int64) ((1 : Int64) * (10 : Int64))) ((cond (ifCond.holds .eq (p0 &&& (1 : Int32))) (1 : Int64) ((1 : Int64) * (10 : Int64))) * (100 : Int64))) * (10000 : Int64))) ((cond (ifCond.holds .eq (p0 &&& (4 : Int32))) (cond (ifCond.holds .eq (p0 &&& (2 : Int32))) (cond (ifCond.holds .eq (p0 &&& (1 : Int32))) (1 : Int64) ((1 : Int64) * (10 : Int64))) ((cond (ifCond.holds .eq (p0 &&& (1 : Int32))) (1 : Int64) ((1 : Int64) * (10 : Int64))) * (100 : Int64))) ((cond (ifCond.holds .eq (p0 &&& (2 : Int32))) (cond (ifCond.holds .eq (p0 &&& (1 : Int32))) (1 : Int64) ((1 : Int64) * (10 : Int64))) ((cond (ifCond.holds .eq (p0 &&& (1 : Int32))) (1 : Int64) ((1 : Int64) * (10 : Int64))) * (100 : Int64))) * (10000 : Int64))) * (100000000 : Int64))) ((cond (ifCond.holds .eq (p0 &&& (8 : Int32))) (cond (ifCond.holds .eq (p0 &&& (4 : Int32))) (cond (ifCond.holds .eq (p0 &&& (2 : Int32))) (cond (ifCond.holds .eq (p0 &&& (1 : Int32))) (1 : Int64) ((1 : Int64) * (10 : Int64))) ((cond (ifCond.holds .eq (p0 &&& (1 : Int32))) (1 : Int64) ((1 : Int64) * (10 : Int64))) * (100 : Int64))) ((cond (ifCond.holds .eq (p0 &&& (2 : Int32))) (cond (ifCond.holds .eq (p0 &&& (1 : Int32))) (1 : Int64) ((1 : Int64) * (10 : Int64))) ((cond (ifCond.holds .eq (p0 &&& (1 : Int32))) (1 : Int64) ((1 : Int64) * (10 : Int64))) * (100 : Int64))) * (10000 : Int64))) ((cond (ifCond.holds .eq (p0 &&& (4 : Int32))) (cond (ifCond.holds .eq (p0 &&& (2 : Int32))) (cond (ifCond.holds .eq (p0 &&& (1 : Int32))) (1 : Int64) ((1 : Int64) * (10 : Int64))) ((cond (ifCond.holds .eq (p0 &&& (1 : Int32))) (1 : Int64) ((1 : Int64) * (10 : Int64))) * (100 : Int64))) ((cond (ifCond.holds .eq (p0 &&& (2 : Int32))) (cond (ifCond.holds .eq (p0 &&& (1 : Int32))) (1 : Int64) ((1 : Int64) * (10 : Int64))) ((cond (ifCond.holds .eq (p0 &&& (1 : Int32))) (1 : Int64) ((1 : Int64) * (10 : Int64))) * (100 : Int64))) * (10000 : Int64))) * (100000000 : Int64))) * (10000000000000000 : Int64)))), .second] [])) _
    refine XS.lloadN X0.here hx rfl (hb hby d5_64) rfl ?_
    show Steps p.tables e below (s₁.setTop (mkF m 65 #[.val (.int p0), .val (.long (cond (ifCond.holds .eq (p0 &&& (16 : Int32))) (cond (ifCond.holds .eq (p0 &&& (8 : Int32))) (cond (ifCond.holds .eq (p0 &&& (4 : Int32))) (cond (ifCond.holds .eq (p0 &&& (2 : Int32))) (cond (ifCond.holds .eq (p0 &&& (1 : Int32))) (1 : Int64) ((1 : Int64) * (10 : Int64))) ((cond (ifCond.holds .eq (p0 &&& (1 : Int32))) (1 : Int64) ((1 : Int64) * (10 : Int64))) * (100 : Int64))) ((cond (ifCond.holds .eq (p0 &&& (2 : Int32))) (cond (ifCond.holds .eq (p0 &&& (1 : Int32))) (1 : Int64) ((1 : Int64) * (10 : Int64))) ((cond (ifCond.holds .eq (p0 &&& (1 : Int32))) (1 : Int64) ((1 : Int64) * (10 : Int64))) * (100 : Int64))) * (10000 : Int64))) ((cond (ifCond.holds .eq (p0 &&& (4 : Int32))) (cond (ifCond.holds .eq (p0 &&& (2 : Int32))) (cond (ifCond.holds .eq (p0 &&& (1 : Int32))) (1 : Int64) ((1 : Int64) * (10 : Int64))) ((cond (ifCond.holds .eq (p0 &&& (1 : Int32))) (1 : Int64) ((1 : Int64) * (10 : Int64))) * (100 : Int64))) ((cond (ifCond.holds .eq (p0 &&& (2 : Int32))) (cond (ifCond.holds .eq (p0 &&& (1 : Int32))) (1 : Int64) ((1 : Int64) * (10 : Int64))) ((cond (ifCond.holds .eq (p0 &&& (1 : Int32))) (1 : Int64) ((1 : Int64) * (10 : Int64))) * (100 : Int64))) * (10000 : Int64))) * (100000000 : Int64))) ((cond (ifCond.holds .eq (p0 &&& (8 : Int32))) (cond (ifCond.holds .eq (p0 &&& (4 : Int32))) (cond (ifCond.holds .eq (p0 &&& (2 : Int32))) (cond (ifCond.holds .eq (p0 &&& (1 : Int32))) (1 : Int64) ((1 : Int64) * (10 : Int64))) ((cond (ifCond.holds .eq (p0 &&& (1 : Int32))) (1 : Int64) ((1 : Int64) * (10 : Int64))) * (100 : Int64))) ((cond (ifCond.holds .eq (p0 &&& (2 : Int32))) (cond (ifCond.holds .eq (p0 &&& (1 : Int32))) (1 : Int64) ((1 : Int64) * (10 : Int64))) ((cond (ifCond.holds .eq (p0 &&& (1 : Int32))) (1 : Int64) ((1 : Int64) * (10 : Int64))) * (100 : Int64))) * (10000 : Int64))) ((cond (ifCond.holds .eq (p0 &&& (4 : Int32))) (cond (ifCond.holds .eq (p0 &&& (2 : Int32))) (cond (ifCond.holds .eq (p0 &&& (1 : Int32))) (1 : Int64) ((1 : Int64) * (10 : Int64))) ((cond (ifCond.holds .eq (p0 &&& (1 : Int32))) (1 : Int64) ((1 : Int64) * (10 : Int64))) * (100 : Int64))) ((cond (ifCond.holds .eq (p0 &&& (2 : Int32))) (cond (ifCond.holds .eq (p0 &&& (1 : Int32))) (1 : Int64) ((1 : Int64) * (10 : Int64))) ((cond (ifCond.holds .eq (p0 &&& (1 : Int32))) (1 : Int64) ((1 : Int64) * (10 : Int64))) * (100 : Int64))) * (10000 : Int64))) * (100000000 : Int64))) * (10000000000000000 : Int64)))), .second] [(.long (cond (ifCond.holds .eq (p0 &&& (16 : Int32))) (cond (ifCond.holds .eq (p0 &&& (8 : Int32))) (cond (ifCond.holds .eq (p0 &&& (4 : Int32))) (cond (ifCond.holds .eq (p0 &&& (2 : Int32))) (cond (ifCond.holds .eq (p0 &&& (1 : Int32))) (1 : Int64) ((1 : Int64) * (10 : Int64))) ((cond (ifCond.holds .eq (p0 &&& (1 : Int32))) (1 : Int64) ((1 : Int64) * (10 : Int64))) * (100 : Int64))) ((cond (ifCond.holds .eq (p0 &&& (2 : Int32))) (cond (ifCond.holds .eq (p0 &&& (1 : Int32))) (1 : Int64) ((1 : Int64) * (10 : Int64))) ((cond (ifCond.holds .eq (p0 &&& (1 : Int32))) (1 : Int64) ((1 : Int64) * (10 : Int64))) * (100 : Int64))) * (10000 : Int64))) ((cond (ifCond.holds .eq (p0 &&& (4 : Int32))) (cond (ifCond.holds .eq (p0 &&& (2 : Int32))) (cond (ifCond.holds .eq (p0 &&& (1 : Int32))) (1 : Int64) ((1 : Int64) * (10 : Int64))) ((cond (ifCond.holds .eq (p0 &&& (1 : Int32))) (1 : Int64) ((1 : Int64) * (10 : Int64))) * (100 : Int64))) ((cond (ifCond.holds .eq (p0 &&& (2 : Int32))) (cond (ifCond.holds .eq (p0 &&& (1 : Int32))) (1 : Int64) ((1 : Int64) * (10 : Int64))) ((cond (ifCond.holds .eq (p0 &&& (1 : Int32))) (1 : Int64) ((1 : Int64) * (10 : Int64))) * (100 : Int64))) * (10000 : Int64))) * (100000000 : Int64))) ((cond (ifCond.holds .eq (p0 &&& (8 : Int32))) (cond (ifCond.holds .eq (p0 &&& (4 : Int32))) (cond (ifCond.holds .eq (p0 &&& (2 : Int32))) (cond (ifCond.holds .eq (p0 &&& (1 : Int32))) (1 : Int64) ((1 : Int64) * (10 : Int64))) ((cond (ifCond.holds .eq (p0 &&& (1 : Int32))) (1 : Int64) ((1 : Int64) * (10 : Int64))) * (100 : Int64))) ((cond (ifCond.holds .eq (p0 &&& (2 : Int32))) (cond (ifCond.holds .eq (p0 &&& (1 : Int32))) (1 : Int64) ((1 : Int64) * (10 : Int64))) ((cond (ifCond.holds .eq (p0 &&& (1 : Int32))) (1 : Int64) ((1 : Int64) * (10 : Int64))) * (100 : Int64))) * (10000 : Int64))) ((cond (ifCond.holds .eq (p0 &&& (4 : Int32))) (cond (ifCond.holds .eq (p0 &&& (2 : Int32))) (cond (ifCond.holds .eq (p0 &&& (1 : Int32))) (1 : Int64) ((1 : Int64) * (10 : Int64))) ((cond (ifCond.holds .eq (p0 &&& (1 : Int32))) (1 : Int64) ((1 : Int64) * (10 : Int64))) * (100 : Int64))) ((cond (ifCond.holds .eq (p0 &&& (2 : Int32))) (cond (ifCond.holds .eq (p0 &&& (1 : Int32))) (1 : Int64) ((1 : Int64) * (10 : Int64))) ((cond (ifCond.holds .eq (p0 &&& (1 : Int32))) (1 : Int64) ((1 : Int64) * (10 : Int64))) * (100 : Int64))) * (10000 : Int64))) * (100000000 : Int64))) * (10000000000000000 : Int64))))])) _
    exact OwnF.retJ X0 hx Bd.returns (hb hby d5_65) hr
  · show QP (some (.long (own_p10 p0))) h0 n0 _ s₁.heap _
    rw [e0]
    exact ⟨rfl, N0, rfl⟩

theorem own_const_48 : NoNaN64 (FP.dmul (4327959241903046656 : UInt64) (4327959241903046656 : UInt64)) := by unfold NoNaN64; decide +kernel
theorem own_const_55 : NoNaN64 (FP.dmul (FP.dmul (4327959241903046656 : UInt64) (4327959241903046656 : UInt64)) (FP.dmul (4327959241903046656 : UInt64) (4327959241903046656 : UInt64))) := by unfold NoNaN64; decide +kernel
theorem own_const_62 : NoNaN64 (FP.dmul (FP.dmul (FP.dmul (4327959241903046656 : UInt64) (4327959241903046656 : UInt64)) (FP.dmul (4327959241903046656 : UInt64) (4327959241903046656 : UInt64))) (FP.dmul (FP.dmul (4327959241903046656 : UInt64) (4327959241903046656 : UInt64)) (FP.dmul (4327959241903046656 : UInt64) (4327959241903046656 : UInt64)))) := by unfold NoNaN64; decide +kernel
theorem own_const_69 : NoNaN64 (FP.dmul (FP.dmul (FP.dmul (FP.dmul (4327959241903046656 : UInt64) (4327959241903046656 : UInt64)) (FP.dmul (4327959241903046656 : UInt64) (4327959241903046656 : UInt64))) (FP.dmul (FP.dmul (4327959241903046656 : UInt64) (4327959241903046656 : UInt64)) (FP.dmul (4327959241903046656 : UInt64) (4327959241903046656 : UInt64)))) (FP.dmul (FP.dmul (FP.dmul (4327959241903046656 : UInt64) (4327959241903046656 : UInt64)) (FP.dmul (4327959241903046656 : UInt64) (4327959241903046656 : UInt64))) (FP.dmul (FP.dmul (4327959241903046656 : UInt64) (4327959241903046656 : UInt64)) (FP.dmul (4327959241903046656 : UInt64) (4327959241903046656 : UInt64))))) := by unfold NoNaN64; decide +kernel
theorem own_const_76 : NoNaN64 (FP.dmul (FP.dmul (FP.dmul (FP.dmul (FP.dmul (4327959241903046656 : UInt64) (4327959241903046656 : UInt64)) (FP.dmul (4327959241903046656 : UInt64) (4327959241903046656 : UInt64))) (FP.dmul (FP.dmul (4327959241903046656 : UInt64) (4327959241903046656 : UInt64)) (FP.dmul (4327959241903046656 : UInt64) (4327959241903046656 : UInt64)))) (FP.dmul (FP.dmul (FP.dmul (4327959241903046656 : UInt64) (4327959241903046656 : UInt64)) (FP.dmul (4327959241903046656 : UInt64) (4327959241903046656 : UInt64))) (FP.dmul (FP.dmul (4327959241903046656 : UInt64) (4327959241903046656 : UInt64)) (FP.dmul (4327959241903046656 : UInt64) (4327959241903046656 : UInt64))))) (4327959241903046656 : UInt64)) := by unfold NoNaN64; decide +kernel
theorem own_const_80 : NoNaN64 (FP.ddiv (FP.dmul (FP.dmul (FP.dmul (FP.dmul (FP.dmul (4327959241903046656 : UInt64) (4327959241903046656 : UInt64)) (FP.dmul (4327959241903046656 : UInt64) (4327959241903046656 : UInt64))) (FP.dmul (FP.dmul (4327959241903046656 : UInt64) (4327959241903046656 : UInt64)) (FP.dmul (4327959241903046656 : UInt64) (4327959241903046656 : UInt64)))) (FP.dmul (FP.dmul (FP.dmul (4327959241903046656 : UInt64) (4327959241903046656 : UInt64)) (FP.dmul (4327959241903046656 : UInt64) (4327959241903046656 : UInt64))) (FP.dmul (FP.dmul (4327959241903046656 : UInt64) (4327959241903046656 : UInt64)) (FP.dmul (4327959241903046656 : UInt64) (4327959241903046656 : UInt64))))) (4327959241903046656 : UInt64)) (4697254411347427328 : UInt64)) := by unfold NoNaN64; decide +kernel
theorem pd_3 : parseMethodDescriptor "(D)I" = some ⟨[.double], some .int⟩ := by decide +kernel
theorem ef_rmS0 (m : MethodId) (x0 : Int32) (x1 : Int64) : entryFrame m #[(.int x0), (.long x1)] maxLocals = mkF m 0 #[.val (.int x0), .val (.long x1), .second, .unset, .unset, .unset, .unset, .unset, .unset, .unset, .unset, .unset, .unset, .unset, .unset, .unset, .unset] [] := by first | (simp [entryFrame, mkF, argsToLocals, Value.category, maxLocals]; done) | rfl
set_option maxRecDepth 65536 in
set_option maxHeartbeats 40000000 in
theorem rmS0 (l : Launch) (Z : State) (a0 : Array Value) (hw : ∀ d ∈ tables_1, d.before a0 Z = true) (ws : List Jvm.Cond)  (p0 : Int32) (q1 : Int64) (fr : Int64) (ms : UInt64) (be : Int32) (h0 : Heap) (n0 : Nat) (Z0 : n0 ≤ h0.size) 
    (hfr : fr = cond (ifCond.holds .eq (((p0.toUInt32 >>> ((9 : Int32) &&& 31).toUInt32).toInt32) &&& (1 : Int32))) (q1 &&& (4503599627370495 : Int64)) (0 : Int64))
    (b23 : ifCond.holds .ne (((p0.toUInt32 >>> ((7 : Int32) &&& 31).toUInt32).toInt32) &&& (3 : Int32)) = false)
    (b29 : ifCond.holds .ne (if fr > (0 : Int64) then 1 else if fr = (0 : Int64) then 0 else -1) = false)
    (hms : ms = (FP.ddiv (FP.dmul (FP.dmul (FP.dmul (FP.dmul (FP.dmul (4327959241903046656 : UInt64) (4327959241903046656 : UInt64)) (FP.dmul (4327959241903046656 : UInt64) (4327959241903046656 : UInt64))) (FP.dmul (FP.dmul (4327959241903046656 : UInt64) (4327959241903046656 : UInt64)) (FP.dmul (4327959241903046656 : UInt64) (4327959241903046656 : UInt64)))) (FP.dmul (FP.dmul (FP.dmul (4327959241903046656 : UInt64) (4327959241903046656 : UInt64)) (FP.dmul (4327959241903046656 : UInt64) (4327959241903046656 : UInt64))) (FP.dmul (FP.dmul (4327959241903046656 : UInt64) (4327959241903046656 : UInt64)) (FP.dmul (4327959241903046656 : UInt64) (4327959241903046656 : UInt64))))) (4327959241903046656 : UInt64)) (4697254411347427328 : UInt64)))
    (n88 : NoNaN64 (FP.dmul (FP.l2d (1 : Int64)) ms))
    (hbe : be = (((FP.dmul (FP.l2d (1 : Int64)) ms).toInt64.toUInt64 >>> ((52 : Int32) &&& 0x3f).toInt64.toUInt64).toInt64).toInt32)
    (d14 : ifCond.holds .ne be = false)
    (b95 : if_icmp.holds .ne (own_f10 (-1074 : Int32)) (-324 : Int32) = false) :
    MetFree l x (head1 (Jvm.Cond.code x code maxLocals ret :: ws) room_1) (fun a U => a = #[(.int p0), (.long q1)] ∧ Z.Warmed39 U.vm ∧ U.heap = h0) (fun _ _ _ _ _ => True) (fun _ U o U' => ∃ v L, o = .returned v ∧ QL n0 v U'.heap L ∧ FrameEnd U o U' L 0 0) := by
  refine MetFree.of_bodySF (plainFor_of_name pn_1) hisR ?_
  intro p e s m args below meth c s₁ Bd hml0 hP hK
  obtain ⟨rfl, hZ, hh⟩ := hP
  have hx := Bd.exec
  have hby := Bd.bytes
  have hml : c.maxLocals = 17 := hml0
  have hown : s.vm.findClass "com/example/sundry/sundry/ShortestDecimalUnitPinLaw" = some m.cls := findClass_of_methodNamed Bd.named
  have hnm := (name_of_methodNamed Bd.named Bd.method).1
  have X0 : Stand p l e room_1 s m #[(.int p0), (.long q1)] below meth c s₁ [] 0 0 := Stand.of_body Bd
  have e0 : s₁.heap = h0 := by rw [← hh, Bd.state]; rfl
  have N0 := Fr.nil n0
  have pre0 : ∀ t, Steps p.tables e below (s₁.setTop (mkF m 0 #[.val (.int p0), .val (.long q1), .second, .unset, .unset, .unset, .unset, .unset, .unset, .unset, .unset, .unset, .unset, .unset, .unset, .unset, .unset] [])) t → Steps p.tables e below (s₁.setTop (entryFrame m #[(.int p0), (.long q1)] maxLocals)) t := fun t k => castTop (ef_rmS0 m p0 q1) k
  have pre12 : ∀ t, Steps p.tables e below (s₁.setTop (mkF m 17 #[.val (.int p0), .val (.long q1), .second, .val (.long fr), .second, .unset, .unset, .unset, .unset, .unset, .unset, .unset, .unset, .unset, .unset, .unset, .unset] [])) t → Steps p.tables e below (s₁.setTop (mkF m 12 #[.val (.int p0), .val (.long q1), .second, .val (.long (q1 &&& (4503599627370495 : Int64))), .second, .unset, .unset, .unset, .unset, .unset, .unset, .unset, .unset, .unset, .unset, .unset, .unset] [(.int (((p0.toUInt32 >>> ((9 : Int32) &&& 31).toUInt32).toInt32) &&& (1 : Int32)))])) t := by
    intro t k
    cases hb12 : ifCond.holds .eq (((p0.toUInt32 >>> ((9 : Int32) &&& 31).toUInt32).toInt32) &&& (1 : Int32))
    · rw [hb12] at hfr
      obtain rfl : fr = (0 : Int64) := hfr
      show Steps p.tables e below (s₁.setTop (mkF m 12 #[.val (.int p0), .val (.long q1), .second, .val (.long (q1 &&& (4503599627370495 : Int64))), .second, .unset, .unset, .unset, .unset, .unset, .unset, .unset, .unset, .unset, .unset, .unset, .unset] [(.int (((p0.toUInt32 >>> ((9 : Int32) &&& 31).toUInt32).toInt32) &&& (1 : Int32)))])) _
      refine XS.ifNo X0.here hx rfl (hb hby at_12) rfl hb12 ?_
      show Steps p.tables e below (s₁.setTop (mkF m 15 #[.val (.int p0), .val (.long q1), .second, .val (.long (q1 &&& (4503599627370495 : Int64))), .second, .unset, .unset, .unset, .unset, .unset, .unset, .unset, .unset, .unset, .unset, .unset, .unset] [])) _
      refine XS.lconst X0.here hx rfl (hb hby at_15) ?_
      show Steps p.tables e below (s₁.setTop (mkF m 16 #[.val (.int p0), .val (.long q1), .second, .val (.long (q1 &&& (4503599627370495 : Int64))), .second, .unset, .unset, .unset, .unset, .unset, .unset, .unset, .unset, .unset, .unset, .unset, .unset] [(.long (0 : Int64))])) _
      refine XS.lstoreN X0.here hx rfl (hb hby at_16) rfl (l' := #[.val (.int p0), .val (.long q1), .second, .val (.long (0 : Int64)), .second, .unset, .unset, .unset, .unset, .unset, .unset, .unset, .unset, .unset, .unset, .unset, .unset]) rfl ?_
      show Steps p.tables e below (s₁.setTop (mkF m 17 #[.val (.int p0), .val (.long q1), .second, .val (.long (0 : Int64)), .second, .unset, .unset, .unset, .unset, .unset, .unset, .unset, .unset, .unset, .unset, .unset, .unset] [])) _
      exact k
    · rw [hb12] at hfr
      obtain rfl : fr = (q1 &&& (4503599627370495 : Int64)) := hfr
      show Steps p.tables e below (s₁.setTop (mkF m 12 #[.val (.int p0), .val (.long q1), .second, .val (.long (q1 &&& (4503599627370495 : Int64))), .second, .unset, .unset, .unset, .unset, .unset, .unset, .unset, .unset, .unset, .unset, .unset, .unset] [(.int (((p0.toUInt32 >>> ((9 : Int32) &&& 31).toUInt32).toInt32) &&& (1 : Int32)))])) _
      refine XS.ifYes X0.here hx rfl (pc0 := 12) (pc' := 17) rfl (hb hby at_12) rfl hb12 (by decide) (by decide) ?_
      show Steps p.tables e below (s₁.setTop (mkF m 17 #[.val (.int p0), .val (.long q1), .second, .val (.long (q1 &&& (4503599627370495 : Int64))), .second, .unset, .unset, .unset, .unset, .unset, .unset, .unset, .unset, .unset, .unset, .unset, .unset] [])) _
      exact k
  obtain ⟨_, _, ⟨T1, L1, k1, n1⟩, -, X1, ⟨Lc1, hQ1, l1, y1, z1⟩, st1⟩ := Jvm.LawKit.callS X0 hx (y := (⟨"com/example/sundry/sundry/ShortestDecimal", "unit", "(D)I"⟩ : MethodName)) hown (mvT hZ (hw _ (List.mem_of_getElem? (i := 3) rfl))) (mvT hZ (hw _ (List.mem_of_getElem? (i := 4) rfl))) (mvT hZ (hw _ (List.mem_of_getElem? (i := 5) rfl))) (mvT hZ (hw _ (List.mem_of_getElem? (i := 6) rfl))) (by decide) (backOf (W := 0) (rmD0 l Z a0 hw [] (FP.dmul (FP.l2d (1 : Int64)) ms) be h0 n0 Z0 hbe d14 (by decide)) hZ (hw _ (List.mem_of_getElem? (i := 6) rfl)) (hw _ (List.mem_of_getElem? (i := 5) rfl)) (by decide) (by decide)) (g := (mkF m 89 #[.val (.int p0), .val (.long q1), .second, .val (.long fr), .second, .val (.long (1 : Int64)), .second, .val (.double (4327959241903046656 : UInt64)), .second, .val (.double (FP.dmul (FP.dmul (FP.dmul (FP.dmul (4327959241903046656 : UInt64) (4327959241903046656 : UInt64)) (FP.dmul (4327959241903046656 : UInt64) (4327959241903046656 : UInt64))) (FP.dmul (FP.dmul (4327959241903046656 : UInt64) (4327959241903046656 : UInt64)) (FP.dmul (4327959241903046656 : UInt64) (4327959241903046656 : UInt64)))) (FP.dmul (FP.dmul (FP.dmul (4327959241903046656 : UInt64) (4327959241903046656 : UInt64)) (FP.dmul (4327959241903046656 : UInt64) (4327959241903046656 : UInt64))) (FP.dmul (FP.dmul (4327959241903046656 : UInt64) (4327959241903046656 : UInt64)) (FP.dmul (4327959241903046656 : UInt64) (4327959241903046656 : UInt64)))))), .second, .val (.double ms), .second, .unset, .unset, .unset, .unset] [(.double (FP.dmul (FP.l2d (1 : Int64)) ms))])) rfl (by rw [hml]; rfl) (argsL := [(.double (FP.dmul (FP.l2d (1 : Int64)) ms))]) (rest := []) (lenOf pd_3 rfl) rfl (by show 2 * 0 + _ ≤ _; exact Nat.le_of_eq rfl) (hb hby at_89) (fun _ _ => ⟨rfl, e0, (by decide : 0 + 0 ≤ _), (by decide : 0 + 0 ≤ _)⟩)
  dsimp only [Pt.U, Pt.locs, Pt.cells, Pt.slots] at X1 l1 y1 z1 st1 hQ1
  subst l1 y1 z1
  obtain ⟨rfl, N1a, e1⟩ := hQ1
  have N1 := Fr.app N0 N1a
  obtain ⟨fs, hr, hrun, hended, hW, hsame⟩ := X1.leave (v := some (.int (1 : Int32))) (fun h => by rw [Bd.returns] at h; cases h)
  refine ⟨_, _, pre0 _ ?_, hrun, hended, _, _, rfl, ?_, ⟨_, rfl⟩, hW, hsame.mono (Nat.le_of_ble_eq_true rfl) (Nat.le_of_ble_eq_true rfl)⟩
  · show Steps p.tables e below (s₁.setTop (mkF m 0 #[.val (.int p0), .val (.long q1), .second, .unset, .unset, .unset, .unset, .unset, .unset, .unset, .unset, .unset, .unset, .unset, .unset, .unset, .unset] [])) _
    refine XS.lloadN X0.here hx rfl (hb hby at_0) rfl ?_
    show Steps p.tables e below (s₁.setTop (mkF m 1 #[.val (.int p0), .val (.long q1), .second, .unset, .unset, .unset, .unset, .unset, .unset, .unset, .unset, .unset, .unset, .unset, .unset, .unset, .unset] [(.long q1)])) _
    refine X0.ldc2Long hx hown (mvT hZ (hw _ (List.mem_of_getElem? (i := 0) rfl))) (g := (mkF m 1 #[.val (.int p0), .val (.long q1), .second, .unset, .unset, .unset, .unset, .unset, .unset, .unset, .unset, .unset, .unset, .unset, .unset, .unset, .unset] [(.long q1)])) rfl (hb hby at_1) _ ?_
    show Steps p.tables e below (s₁.setTop (mkF m 4 #[.val (.int p0), .val (.long q1), .second, .unset, .unset, .unset, .unset, .unset, .unset, .unset, .unset, .unset, .unset, .unset, .unset, .unset, .unset] [(.long (4503599627370495 : Int64)), (.long q1)])) _
    refine XS.land X0.here hx rfl (hb hby at_4) rfl ?_
    show Steps p.tables e below (s₁.setTop (mkF m 5 #[.val (.int p0), .val (.long q1), .second, .unset, .unset, .unset, .unset, .unset, .unset, .unset, .unset, .unset, .unset, .unset, .unset, .unset, .unset] [(.long (q1 &&& (4503599627370495 : Int64)))])) _
    refine XS.lstoreN X0.here hx rfl (hb hby at_5) rfl (l' := #[.val (.int p0), .val (.long q1), .second, .val (.long (q1 &&& (4503599627370495 : Int64))), .second, .unset, .unset, .unset, .unset, .unset, .unset, .unset, .unset, .unset, .unset, .unset, .unset]) rfl ?_
    show Steps p.tables e below (s₁.setTop (mkF m 6 #[.val (.int p0), .val (.long q1), .second, .val (.long (q1 &&& (4503599627370495 : Int64))), .second, .unset, .unset, .unset, .unset, .unset, .unset, .unset, .unset, .unset, .unset, .unset, .unset] [])) _
    refine XS.iloadN X0.here hx rfl (hb hby at_6) rfl ?_
    show Steps p.tables e below (s₁.setTop (mkF m 7 #[.val (.int p0), .val (.long q1), .second, .val (.long (q1 &&& (4503599627370495 : Int64))), .second, .unset, .unset, .unset, .unset, .unset, .unset, .unset, .unset, .unset, .unset, .unset, .unset] [(.int p0)])) _
    refine XS.bipush X0.here hx rfl (hb hby at_7) ?_
    show Steps p.tables e below (s₁.setTop (mkF m 9 #[.val (.int p0), .val (.long q1), .second, .val (.long (q1 &&& (4503599627370495 : Int64))), .second, .unset, .unset, .unset, .unset, .unset, .unset, .unset, .unset, .unset, .unset, .unset, .unset] [(.int (9 : Int32)), (.int p0)])) _
    refine XS.iushr X0.here hx rfl (hb hby at_9) rfl ?_
    show Steps p.tables e below (s₁.setTop (mkF m 10 #[.val (.int p0), .val (.long q1), .second, .val (.long (q1 &&& (4503599627370495 : Int64))), .second, .unset, .unset, .unset, .unset, .unset, .unset, .unset, .unset, .unset, .unset, .unset, .unset] [(.int ((p0.toUInt32 >>> ((9 : Int32) &&& 31).toUInt32).toInt32))])) _
    refine XS.iconst X0.here hx rfl (hb hby at_10) ?_
    show Steps p.tables e below (s₁.setTop (mkF m 11 #[.val (.int p0), .val (.long q1), .second, .val (.long (q1 &&& (4503599627370495 : Int64))), .second, .unset, .unset, .unset, .unset, .unset, .unset, .unset, .unset, .unset, .unset, .unset, .unset] [(.int (1 : Int32)), (.int ((p0.toUInt32 >>> ((9 : Int32) &&& 31).toUInt32).toInt32))])) _
    refine XS.iand X0.here hx rfl (hb hby at_11) rfl ?_
    show Steps p.tables e below (s₁.setTop (mkF m 12 #[.val (.int p0), .val (.long q1), .second, .val (.long (q1 &&& (4503599627370495 : Int64))), .second, .unset, .unset, .unset, .unset, .unset, .unset, .unset, .unset, .unset, .unset, .unset, .unset] [(.int (((p0.toUInt32 >>> ((9 : Int32) &&& 31).toUInt32).toInt32) &&& (1 : Int32)))])) _
    refine pre12 _ ?_
    show Steps p.tables e below (s₁.setTop (mkF m 17 #[.val (.int p0), .val (.long q1), .second, .val (.long fr), .second, .unset, .unset, .unset, .unset, .unset, .unset, .unset, .unset, .unset, .unset, .unset, .unset] [])) _
    refine XS.iloadN X0.here hx rfl (hb hby at_17) rfl ?_
    show Steps p.tables e below (s₁.setTop (mkF m 18 #[.val (.int p0), .val (.long q1), .second, .val (.long fr), .second, .unset, .unset, .unset, .unset, .unset, .unset, .unset, .unset, .unset, .unset, .unset, .unset] [(.int p0)])) _
    refine XS.bipush X0.here hx rfl (hb hby at_18) ?_
    show Steps p.tables e below (s₁.setTop (mkF m 20 #[.val (.int p0), .val (.long q1), .second, .val (.long fr), .second, .unset, .unset, .unset, .unset, .unset, .unset, .unset, .unset, .unset, .unset, .unset, .unset] [(.int (7 : Int32)), (.int p0)])) _
    refine XS.iushr X0.here hx rfl (hb hby at_20) rfl ?_
    show Steps p.tables e below (s₁.setTop (mkF m 21 #[.val (.int p0), .val (.long q1), .second, .val (.long fr), .second, .unset, .unset, .unset, .unset, .unset, .unset, .unset, .unset, .unset, .unset, .unset, .unset] [(.int ((p0.toUInt32 >>> ((7 : Int32) &&& 31).toUInt32).toInt32))])) _
    refine XS.iconst X0.here hx rfl (hb hby at_21) ?_
    show Steps p.tables e below (s₁.setTop (mkF m 22 #[.val (.int p0), .val (.long q1), .second, .val (.long fr), .second, .unset, .unset, .unset, .unset, .unset, .unset, .unset, .unset, .unset, .unset, .unset, .unset] [(.int (3 : Int32)), (.int ((p0.toUInt32 >>> ((7 : Int32) &&& 31).toUInt32).toInt32))])) _
    refine XS.iand X0.here hx rfl (hb hby at_22) rfl ?_
    show Steps p.tables e below (s₁.setTop (mkF m 23 #[.val (.int p0), .val (.long q1), .second, .val (.long fr), .second, .unset, .unset, .unset, .unset, .unset, .unset, .unset, .unset, .unset, .unset, .unset, .unset] [(.int (((p0.toUInt32 >>> ((7 : Int32) &&& 31).toUInt32).toInt32) &&& (3 : Int32)))])) _
    refine XS.ifNo X0.here hx rfl (hb hby at_23) rfl b23 ?_
    show Steps p.tables e below (s₁.setTop (mkF m 26 #[.val (.int p0), .val (.long q1), .second, .val (.long fr), .second, .unset, .unset, .unset, .unset, .unset, .unset, .unset, .unset, .unset, .unset, .unset, .unset] [])) _
    refine XS.lloadN X0.here hx rfl (hb hby at_26) rfl ?_
    show Steps p.tables e below (s₁.setTop (mkF m 27 #[.val (.int p0), .val (.long q1), .second, .val (.long fr), .second, .unset, .unset, .unset, .unset, .unset, .unset, .unset, .unset, .unset, .unset, .unset, .unset] [(.long fr)])) _
    refine XS.lconst X0.here hx rfl (hb hby at_27) ?_
    show Steps p.tables e below (s₁.setTop (mkF m 28 #[.val (.int p0), .val (.long q1), .second, .val (.long fr), .second, .unset, .unset, .unset, .unset, .unset, .unset, .unset, .unset, .unset, .unset, .unset, .unset] [(.long (0 : Int64)), (.long fr)])) _
    refine XS.lcmp X0.here hx rfl (hb hby at_28) rfl ?_
    show Steps p.tables e below (s₁.setTop (mkF m 29 #[.val (.int p0), .val (.long q1), .second, .val (.long fr), .second, .unset, .unset, .unset, .unset, .unset, .unset, .unset, .unset, .unset, .unset, .unset, .unset] [(.int (if fr > (0 : Int64) then 1 else if fr = (0 : Int64) then 0 else -1))])) _
    refine XS.ifNo X0.here hx rfl (hb hby at_29) rfl b29 ?_
    show Steps p.tables e below (s₁.setTop (mkF m 32 #[.val (.int p0), .val (.long q1), .second, .val (.long fr), .second, .unset, .unset, .unset, .unset, .unset, .unset, .unset, .unset, .unset, .unset, .unset, .unset] [])) _
    refine XS.lconst X0.here hx rfl (hb hby at_32) ?_
    show Steps p.tables e below (s₁.setTop (mkF m 33 #[.val (.int p0), .val (.long q1), .second, .val (.long fr), .second, .unset, .unset, .unset, .unset, .unset, .unset, .unset, .unset, .unset, .unset, .unset, .unset] [(.long (1 : Int64))])) _
    refine XS.goto X0.here hx rfl (pc0 := 33) (pc' := 37) rfl (hb hby at_33) (by decide) (by decide) ?_
    show Steps p.tables e below (s₁.setTop (mkF m 37 #[.val (.int p0), .val (.long q1), .second, .val (.long fr), .second, .unset, .unset, .unset, .unset, .unset, .unset, .unset, .unset, .unset, .unset, .unset, .unset] [(.long (1 : Int64))])) _
    refine XS.lstore X0.here hx rfl (hb hby at_37) rfl (l' := #[.val (.int p0), .val (.long q1), .second, .val (.long fr), .second, .val (.long (1 : Int64)), .second, .unset, .unset, .unset, .unset, .unset, .unset, .unset, .unset, .unset, .unset]) rfl ?_
    show Steps p.tables e below (s₁.setTop (mkF m 39 #[.val (.int p0), .val (.long q1), .second, .val (.long fr), .second, .val (.long (1 : Int64)), .second, .unset, .unset, .unset, .unset, .unset, .unset, .unset, .unset, .unset, .unset] [])) _
    refine X0.ldc2DoubleC hx hown (mvT hZ (hw _ (List.mem_of_getElem? (i := 1) rfl))) (g := (mkF m 39 #[.val (.int p0), .val (.long q1), .second, .val (.long fr), .second, .val (.long (1 : Int64)), .second, .unset, .unset, .unset, .unset, .unset, .unset, .unset, .unset, .unset, .unset] [])) rfl (hb hby at_39) _ ?_
    show Steps p.tables e below (s₁.setTop (mkF m 42 #[.val (.int p0), .val (.long q1), .second, .val (.long fr), .second, .val (.long (1 : Int64)), .second, .unset, .unset, .unset, .unset, .unset, .unset, .unset, .unset, .unset, .unset] [(.double (4327959241903046656 : UInt64))])) _
    refine XS.dstore X0.here hx rfl (hb hby at_42) rfl (l' := #[.val (.int p0), .val (.long q1), .second, .val (.long fr), .second, .val (.long (1 : Int64)), .second, .val (.double (4327959241903046656 : UInt64)), .second, .unset, .unset, .unset, .unset, .unset, .unset, .unset, .unset]) rfl ?_
    show Steps p.tables e below (s₁.setTop (mkF m 44 #[.val (.int p0), .val (.long q1), .second, .val (.long fr), .second, .val (.long (1 : Int64)), .second, .val (.double (4327959241903046656 : UInt64)), .second, .unset, .unset, .unset, .unset, .unset, .unset, .unset, .unset] [])) _
    refine XS.dload X0.here hx rfl (hb hby at_44) rfl ?_
    show Steps p.tables e below (s₁.setTop (mkF m 46 #[.val (.int p0), .val (.long q1), .second, .val (.long fr), .second, .val (.long (1 : Int64)), .second, .val (.double (4327959241903046656 : UInt64)), .second, .unset, .unset, .unset, .unset, .unset, .unset, .unset, .unset] [(.double (4327959241903046656 : UInt64))])) _
    refine XS.dload X0.here hx rfl (hb hby at_46) rfl ?_
    show Steps p.tables e below (s₁.setTop (mkF m 48 #[.val (.int p0), .val (.long q1), .second, .val (.long fr), .second, .val (.long (1 : Int64)), .second, .val (.double (4327959241903046656 : UInt64)), .second, .unset, .unset, .unset, .unset, .unset, .unset, .unset, .unset] [(.double (4327959241903046656 : UInt64)), (.double (4327959241903046656 : UInt64))])) _
    refine XS.dmulS X0.here hx rfl (hb hby at_48) rfl own_const_48 rfl ?_
    show Steps p.tables e below (s₁.setTop (mkF m 49 #[.val (.int p0), .val (.long q1), .second, .val (.long fr), .second, .val (.long (1 : Int64)), .second, .val (.double (4327959241903046656 : UInt64)), .second, .unset, .unset, .unset, .unset, .unset, .unset, .unset, .unset] [(.double (FP.dmul (4327959241903046656 : UInt64) (4327959241903046656 : UInt64)))])) _
    refine XS.dstore X0.here hx rfl (hb hby at_49) rfl (l' := #[.val (.int p0), .val (.long q1), .second, .val (.long fr), .second, .val (.long (1 : Int64)), .second, .val (.double (4327959241903046656 : UInt64)), .second, .val (.double (FP.dmul (4327959241903046656 : UInt64) (4327959241903046656 : UInt64))), .second, .unset, .unset, .unset, .unset, .unset, .unset]) rfl ?_
    show Steps p.tables e below (s₁.setTop (mkF m 51 #[.val (.int p0), .val (.long q1), .second, .val (.long fr), .second, .val (.long (1 : Int64)), .second, .val (.double (4327959241903046656 : UInt64)), .second, .val (.double (FP.dmul (4327959241903046656 : UInt64) (4327959241903046656 : UInt64))), .second, .unset, .unset, .unset, .unset, .unset, .unset] [])) _
    refine XS.dload X0.here hx rfl (hb hby at_51) rfl ?_
    show Steps p.tables e below (s₁.setTop (mkF m 53 #[.val (.int p0), .val (.long q1), .second, .val (.long fr), .second, .val (.long (1 : Int64)), .second, .val (.double (4327959241903046656 : UInt64)), .second, .val (.double (FP.dmul (4327959241903046656 : UInt64) (4327959241903046656 : UInt64))), .second, .unset, .unset, .unset, .unset, .unset, .unset] [(.double (FP.dmul (4327959241903046656 : UInt64) (4327959241903046656 : UInt64)))])) _
    refine XS.dload X0.here hx rfl (hb hby at_53) rfl ?_
    show Steps p.tables e below (s₁.setTop (mkF m 55 #[.val (.int p0), .val (.long q1), .second, .val (.long fr), .second, .val (.long (1 : Int64)), .second, .val (.double (4327959241903046656 : UInt64)), .second, .val (.double (FP.dmul (4327959241903046656 : UInt64) (4327959241903046656 : UInt64))), .second, .unset, .unset, .unset, .unset, .unset, .unset] [(.double (FP.dmul (4327959241903046656 : UInt64) (4327959241903046656 : UInt64))), (.double (FP.dmul (4327959241903046656 : UInt64) (4327959241903046656 : UInt64)))])) _
    refine XS.dmulS X0.here hx rfl (hb hby at_55) rfl own_const_55 rfl ?_
    show Steps p.tables e below (s₁.setTop (mkF m 56 #[.val (.int p0), .val (.long q1), .second, .val (.long fr), .second, .val (.long (1 : Int64)), .second, .val (.double (4327959241903046656 : UInt64)), .second, .val (.double (FP.dmul (4327959241903046656 : UInt64) (4327959241903046656 : UInt64))), .second, .unset, .unset, .unset, .unset, .unset, .unset] [(.double (FP.dmul (FP.dmul (4327959241903046656 : UInt64) (4327959241903046656 : UInt64)) (FP.dmul (4327959241903046656 : UInt64) (4327959241903046656 : UInt64))))])) _
    refine XS.dstore X0.here hx rfl (hb hby at_56) rfl (l' := #[.val (.int p0), .val (.long q1), .second, .val (.long fr), .second, .val (.long (1 : Int64)), .second, .val (.double (4327959241903046656 : UInt64)), .second, .val (.double (FP.dmul (FP.dmul (4327959241903046656 : UInt64) (4327959241903046656 : UInt64)) (FP.dmul (4327959241903046656 : UInt64) (4327959241903046656 : UInt64)))), .second, .unset, .unset, .unset, .unset, .unset, .unset]) rfl ?_
    show Steps p.tables e below (s₁.setTop (mkF m 58 #[.val (.int p0), .val (.long q1), .second, .val (.long fr), .second, .val (.long (1 : Int64)), .second, .val (.double (4327959241903046656 : UInt64)), .second, .val (.double (FP.dmul (FP.dmul (4327959241903046656 : UInt64) (4327959241903046656 : UInt64)) (FP.dmul (4327959241903046656 : UInt64) (4327959241903046656 : UInt64)))), .second, .unset, .unset, .unset, .unset, .unset, .unset] [])) _
    refine XS.dload X0.here hx rfl (hb hby at_58) rfl ?_
    show Steps p.tables e below (s₁.setTop (mkF m 60 #[.val (.int p0), .val (.long q1), .second, .val (.long fr), .second, .val (.long (1 : Int64)), .second, .val (.double (4327959241903046656 : UInt64)), .second, .val (.double (FP.dmul (FP.dmul (4327959241903046656 : UInt64) (4327959241903046656 : UInt64)) (FP.dmul (4327959241903046656 : UInt64) (4327959241903046656 : UInt64)))), .second, .unset, .unset, .unset, .unset, .unset, .unset] [(.double (FP.dmul (FP.dmul (4327959241903046656 : UInt64) (4327959241903046656 : UInt64)) (FP.dmul (4327959241903046656 : UInt64) (4327959241903046656 : UInt64))))])) _
    refine XS.dload X0.here hx rfl (hb hby at_60) rfl ?_
    show Steps p.tables e below (s₁.setTop (mkF m 62 #[.val (.int p0), .val (.long q1), .second, .val (.long fr), .second, .val (.long (1 : Int64)), .second, .val (.double (4327959241903046656 : UInt64)), .second, .val (.double (FP.dmul (FP.dmul (4327959241903046656 : UInt64) (4327959241903046656 : UInt64)) (FP.dmul (4327959241903046656 : UInt64) (4327959241903046656 : UInt64)))), .second, .unset, .unset, .unset, .unset, .unset, .unset] [(.double (FP.dmul (FP.dmul (4327959241903046656 : UInt64) (4327959241903046656 : UInt64)) (FP.dmul (4327959241903046656 : UInt64) (4327959241903046656 : UInt64)))), (.double (FP.dmul (FP.dmul (4327959241903046656 : UInt64) (4327959241903046656 : UInt64)) (FP.dmul (4327959241903046656 : UInt64) (4327959241903046656 : UInt64))))])) _
    refine XS.dmulS X0.here hx rfl (hb hby at_62) rfl own_const_62 rfl ?_
    show Steps p.tables e below (s₁.setTop (mkF m 63 #[.val (.int p0), .val (.long q1), .second, .val (.long fr), .second, .val (.long (1 : Int64)), .second, .val (.double (4327959241903046656 : UInt64)), .second, .val (.double (FP.dmul (FP.dmul (4327959241903046656 : UInt64) (4327959241903046656 : UInt64)) (FP.dmul (4327959241903046656 : UInt64) (4327959241903046656 : UInt64)))), .second, .unset, .unset, .unset, .unset, .unset, .unset] [(.double (FP.dmul (FP.dmul (FP.dmul (4327959241903046656 : UInt64) (4327959241903046656 : UInt64)) (FP.dmul (4327959241903046656 : UInt64) (4327959241903046656 : UInt64))) (FP.dmul (FP.dmul (4327959241903046656 : UInt64) (4327959241903046656 : UInt64)) (FP.dmul (4327959241903046656 : UInt64) (4327959241903046656 : UInt64)))))])) _
    refine XS.dstore X0.here hx rfl (hb hby at_63) rfl (l' := #[.val (.int p0), .val (.long q1), .second, .val (.long fr), .second, .val (.long (1 : Int64)), .second, .val (.double (4327959241903046656 : UInt64)), .second, .val (.double (FP.dmul (FP.dmul (FP.dmul (4327959241903046656 : UInt64) (4327959241903046656 : UInt64)) (FP.dmul (4327959241903046656 : UInt64) (4327959241903046656 : UInt64))) (FP.dmul (FP.dmul (4327959241903046656 : UInt64) (4327959241903046656 : UInt64)) (FP.dmul (4327959241903046656 : UInt64) (4327959241903046656 : UInt64))))), .second, .unset, .unset, .unset, .unset, .unset, .unset]) rfl ?_
    show Steps p.tables e below (s₁.setTop (mkF m 65 #[.val (.int p0), .val (.long q1), .second, .val (.long fr), .second, .val (.long (1 : Int64)), .second, .val (.double (4327959241903046656 : UInt64)), .second, .val (.double (FP.dmul (FP.dmul (FP.dmul (4327959241903046656 : UInt64) (4327959241903046656 : UInt64)) (FP.dmul (4327959241903046656 : UInt64) (4327959241903046656 : UInt64))) (FP.dmul (FP.dmul (4327959241903046656 : UInt64) (4327959241903046656 : UInt64)) (FP.dmul (4327959241903046656 : UInt64) (4327959241903046656 : UInt64))))), .second, .unset, .unset, .unset, .unset, .unset, .unset] [])) _
    refine XS.dload X0.here hx rfl (hb hby at_65) rfl ?_
    show Steps p.tables e below (s₁.setTop (mkF m 67 #[.val (.int p0), .val (.long q1), .second, .val (.long fr), .second, .val (.long (1 : Int64)), .second, .val (.double (4327959241903046656 : UInt64)), .second, .val (.double (FP.dmul (FP.dmul (FP.dmul (4327959241903046656 : UInt64) (4327959241903046656 : UInt64)) (FP.dmul (4327959241903046656 : UInt64) (4327959241903046656 : UInt64))) (FP.dmul (FP.dmul (4327959241903046656 : UInt64) (4327959241903046656 : UInt64)) (FP.dmul (4327959241903046656 : UInt64) (4327959241903046656 : UInt64))))), .second, .unset, .unset, .unset, .unset, .unset, .unset] [(.double (FP.dmul (FP.dmul (FP.dmul (4327959241903046656 : UInt64) (4327959241903046656 : UInt64)) (FP.dmul (4327959241903046656 : UInt64) (4327959241903046656 : UInt64))) (FP.dmul (FP.dmul (4327959241903046656 : UInt64) (4327959241903046656 : UInt64)) (FP.dmul (4327959241903046656 : UInt64) (4327959241903046656 : UInt64)))))])) _
    refine XS.dload X0.here hx rfl (hb hby at_67) rfl ?_
    show Steps p.tables e below (s₁.setTop (mkF m 69 #[.val (.int p0), .val (.long q1), .second, .val (.long fr), .second, .val (.long (1 : Int64)), .second, .val (.double (4327959241903046656 : UInt64)), .second, .val (.double (FP.dmul (FP.dmul (FP.dmul (4327959241903046656 : UInt64) (4327959241903046656 : UInt64)) (FP.dmul (4327959241903046656 : UInt64) (4327959241903046656 : UInt64))) (FP.dmul (FP.dmul (4327959241903046656 : UInt64) (4327959241903046656 : UInt64)) (FP.dmul (4327959241903046656 : UInt64) (4327959241903046656 : UInt64))))), .second, .unset, .unset, .unset, .unset, .unset, .unset] [(.double (FP.dmul (FP.dmul (FP.dmul (4327959241903046656 : UInt64) (4327959241903046656 : UInt64)) (FP.dmul (4327959241903046656 : UInt64) (4327959241903046656 : UInt64))) (FP.dmul (FP.dmul (4327959241903046656 : UInt64) (4327959241903046656 : UInt64)) (FP.dmul (4327959241903046656 : UInt64) (4327959241903046656 : UInt64))))), (.double (FP.dmul (FP.dmul (FP.dmul (4327959241903046656 : UInt64) (4327959241903046656 : UInt64)) (FP.dmul (4327959241903046656 : UInt64) (4327959241903046656 : UInt64))) (FP.dmul (FP.dmul (4327959241903046656 : UInt64) (4327959241903046656 : UInt64)) (FP.dmul (4327959241903046656 : UInt64) (4327959241903046656 : UInt64)))))])) _
    refine XS.dmulS X0.here hx rfl (hb hby at_69) rfl own_const_69 rfl ?_
    show Steps p.tables e below (s₁.setTop (mkF m 70 #[.val (.int p0), .val (.long q1), .second, .val (.long fr), .second, .val (.long (1 : Int64)), .second, .val (.double (4327959241903046656 : UInt64)), .second, .val (.double (FP.dmul (FP.dmul (FP.dmul (4327959241903046656 : UInt64) (4327959241903046656 : UInt64)) (FP.dmul (4327959241903046656 : UInt64) (4327959241903046656 : UInt64))) (FP.dmul (FP.dmul (4327959241903046656 : UInt64) (4327959241903046656 : UInt64)) (FP.dmul (4327959241903046656 : UInt64) (4327959241903046656 : UInt64))))), .second, .unset, .unset, .unset, .unset, .unset, .unset] [(.double (FP.dmul (FP.dmul (FP.dmul (FP.dmul (4327959241903046656 : UInt64) (4327959241903046656 : UInt64)) (FP.dmul (4327959241903046656 : UInt64) (4327959241903046656 : UInt64))) (FP.dmul (FP.dmul (4327959241903046656 : UInt64) (4327959241903046656 : UInt64)) (FP.dmul (4327959241903046656 : UInt64) (4327959241903046656 : UInt64)))) (FP.dmul (FP.dmul (FP.dmul (4327959241903046656 : UInt64) (4327959241903046656 : UInt64)) (FP.dmul (4327959241903046656 : UInt64) (4327959241903046656 : UInt64))) (FP.dmul (FP.dmul (4327959241903046656 : UInt64) (4327959241903046656 : UInt64)) (FP.dmul (4327959241903046656 : UInt64) (4327959241903046656 : UInt64))))))])) _
    refine XS.dstore X0.here hx rfl (hb hby at_70) rfl (l' := #[.val (.int p0), .val (.long q1), .second, .val (.long fr), .second, .val (.long (1 : Int64)), .second, .val (.double (4327959241903046656 : UInt64)), .second, .val (.double (FP.dmul (FP.dmul (FP.dmul (FP.dmul (4327959241903046656 : UInt64) (4327959241903046656 : UInt64)) (FP.dmul (4327959241903046656 : UInt64) (4327959241903046656 : UInt64))) (FP.dmul (FP.dmul (4327959241903046656 : UInt64) (4327959241903046656 : UInt64)) (FP.dmul (4327959241903046656 : UInt64) (4327959241903046656 : UInt64)))) (FP.dmul (FP.dmul (FP.dmul (4327959241903046656 : UInt64) (4327959241903046656 : UInt64)) (FP.dmul (4327959241903046656 : UInt64) (4327959241903046656 : UInt64))) (FP.dmul (FP.dmul (4327959241903046656 : UInt64) (4327959241903046656 : UInt64)) (FP.dmul (4327959241903046656 : UInt64) (4327959241903046656 : UInt64)))))), .second, .unset, .unset, .unset, .unset, .unset, .unset]) rfl ?_
    show Steps p.tables e below (s₁.setTop (mkF m 72 #[.val (.int p0), .val (.long q1), .second, .val (.long fr), .second, .val (.long (1 : Int64)), .second, .val (.double (4327959241903046656 : UInt64)), .second, .val (.double (FP.dmul (FP.dmul (FP.dmul (FP.dmul (4327959241903046656 : UInt64) (4327959241903046656 : UInt64)) (FP.dmul (4327959241903046656 : UInt64) (4327959241903046656 : UInt64))) (FP.dmul (FP.dmul (4327959241903046656 : UInt64) (4327959241903046656 : UInt64)) (FP.dmul (4327959241903046656 : UInt64) (4327959241903046656 : UInt64)))) (FP.dmul (FP.dmul (FP.dmul (4327959241903046656 : UInt64) (4327959241903046656 : UInt64)) (FP.dmul (4327959241903046656 : UInt64) (4327959241903046656 : UInt64))) (FP.dmul (FP.dmul (4327959241903046656 : UInt64) (4327959241903046656 : UInt64)) (FP.dmul (4327959241903046656 : UInt64) (4327959241903046656 : UInt64)))))), .second, .unset, .unset, .unset, .unset, .unset, .unset] [])) _
    refine XS.dload X0.here hx rfl (hb hby at_72) rfl ?_
    show Steps p.tables e below (s₁.setTop (mkF m 74 #[.val (.int p0), .val (.long q1), .second, .val (.long fr), .second, .val (.long (1 : Int64)), .second, .val (.double (4327959241903046656 : UInt64)), .second, .val (.double (FP.dmul (FP.dmul (FP.dmul (FP.dmul (4327959241903046656 : UInt64) (4327959241903046656 : UInt64)) (FP.dmul (4327959241903046656 : UInt64) (4327959241903046656 : UInt64))) (FP.dmul (FP.dmul (4327959241903046656 : UInt64) (4327959241903046656 : UInt64)) (FP.dmul (4327959241903046656 : UInt64) (4327959241903046656 : UInt64)))) (FP.dmul (FP.dmul (FP.dmul (4327959241903046656 : UInt64) (4327959241903046656 : UInt64)) (FP.dmul (4327959241903046656 : UInt64) (4327959241903046656 : UInt64))) (FP.dmul (FP.dmul (4327959241903046656 : UInt64) (4327959241903046656 : UInt64)) (FP.dmul (4327959241903046656 : UInt64) (4327959241903046656 : UInt64)))))), .second, .unset, .unset, .unset, .unset, .unset, .unset] [(.double (FP.dmul (FP.dmul (FP.dmul (FP.dmul (4327959241903046656 : UInt64) (4327959241903046656 : UInt64)) (FP.dmul (4327959241903046656 : UInt64) (4327959241903046656 : UInt64))) (FP.dmul (FP.dmul (4327959241903046656 : UInt64) (4327959241903046656 : UInt64)) (FP.dmul (4327959241903046656 : UInt64) (4327959241903046656 : UInt64)))) (FP.dmul (FP.dmul (FP.dmul (4327959241903046656 : UInt64) (4327959241903046656 : UInt64)) (FP.dmul (4327959241903046656 : UInt64) (4327959241903046656 : UInt64))) (FP.dmul (FP.dmul (4327959241903046656 : UInt64) (4327959241903046656 : UInt64)) (FP.dmul (4327959241903046656 : UInt64) (4327959241903046656 : UInt64))))))])) _
    refine XS.dload X0.here hx rfl (hb hby at_74) rfl ?_
    show Steps p.tables e below (s₁.setTop (mkF m 76 #[.val (.int p0), .val (.long q1), .second, .val (.long fr), .second, .val (.long (1 : Int64)), .second, .val (.double (4327959241903046656 : UInt64)), .second, .val (.double (FP.dmul (FP.dmul (FP.dmul (FP.dmul (4327959241903046656 : UInt64) (4327959241903046656 : UInt64)) (FP.dmul (4327959241903046656 : UInt64) (4327959241903046656 : UInt64))) (FP.dmul (FP.dmul (4327959241903046656 : UInt64) (4327959241903046656 : UInt64)) (FP.dmul (4327959241903046656 : UInt64) (4327959241903046656 : UInt64)))) (FP.dmul (FP.dmul (FP.dmul (4327959241903046656 : UInt64) (4327959241903046656 : UInt64)) (FP.dmul (4327959241903046656 : UInt64) (4327959241903046656 : UInt64))) (FP.dmul (FP.dmul (4327959241903046656 : UInt64) (4327959241903046656 : UInt64)) (FP.dmul (4327959241903046656 : UInt64) (4327959241903046656 : UInt64)))))), .second, .unset, .unset, .unset, .unset, .unset, .unset] [(.double (4327959241903046656 : UInt64)), (.double (FP.dmul (FP.dmul (FP.dmul (FP.dmul (4327959241903046656 : UInt64) (4327959241903046656 : UInt64)) (FP.dmul (4327959241903046656 : UInt64) (4327959241903046656 : UInt64))) (FP.dmul (FP.dmul (4327959241903046656 : UInt64) (4327959241903046656 : UInt64)) (FP.dmul (4327959241903046656 : UInt64) (4327959241903046656 : UInt64)))) (FP.dmul (FP.dmul (FP.dmul (4327959241903046656 : UInt64) (4327959241903046656 : UInt64)) (FP.dmul (4327959241903046656 : UInt64) (4327959241903046656 : UInt64))) (FP.dmul (FP.dmul (4327959241903046656 : UInt64) (4327959241903046656 : UInt64)) (FP.dmul (4327959241903046656 : UInt64) (4327959241903046656 : UInt64))))))])) _
    refine XS.dmulS X0.here hx rfl (hb hby at_76) rfl own_const_76 rfl ?_
    show Steps p.tables e below (s₁.setTop (mkF m 77 #[.val (.int p0), .val (.long q1), .second, .val (.long fr), .second, .val (.long (1 : Int64)), .second, .val (.double (4327959241903046656 : UInt64)), .second, .val (.double (FP.dmul (FP.dmul (FP.dmul (FP.dmul (4327959241903046656 : UInt64) (4327959241903046656 : UInt64)) (FP.dmul (4327959241903046656 : UInt64) (4327959241903046656 : UInt64))) (FP.dmul (FP.dmul (4327959241903046656 : UInt64) (4327959241903046656 : UInt64)) (FP.dmul (4327959241903046656 : UInt64) (4327959241903046656 : UInt64)))) (FP.dmul (FP.dmul (FP.dmul (4327959241903046656 : UInt64) (4327959241903046656 : UInt64)) (FP.dmul (4327959241903046656 : UInt64) (4327959241903046656 : UInt64))) (FP.dmul (FP.dmul (4327959241903046656 : UInt64) (4327959241903046656 : UInt64)) (FP.dmul (4327959241903046656 : UInt64) (4327959241903046656 : UInt64)))))), .second, .unset, .unset, .unset, .unset, .unset, .unset] [(.double (FP.dmul (FP.dmul (FP.dmul (FP.dmul (FP.dmul (4327959241903046656 : UInt64) (4327959241903046656 : UInt64)) (FP.dmul (4327959241903046656 : UInt64) (4327959241903046656 : UInt64))) (FP.dmul (FP.dmul (4327959241903046656 : UInt64) (4327959241903046656 : UInt64)) (FP.dmul (4327959241903046656 : UInt64) (4327959241903046656 : UInt64)))) (FP.dmul (FP.dmul (FP.dmul (4327959241903046656 : UInt64) (4327959241903046656 : UInt64)) (FP.dmul (4327959241903046656 : UInt64) (4327959241903046656 : UInt64))) (FP.dmul (FP.dmul (4327959241903046656 : UInt64) (4327959241903046656 : UInt64)) (FP.dmul (4327959241903046656 : UInt64) (4327959241903046656 : UInt64))))) (4327959241903046656 : UInt64)))])) _
    refine X0.ldc2DoubleC hx hown (mvT hZ (hw _ (List.mem_of_getElem? (i := 2) rfl))) (g := (mkF m 77 #[.val (.int p0), .val (.long q1), .second, .val (.long fr), .second, .val (.long (1 : Int64)), .second, .val (.double (4327959241903046656 : UInt64)), .second, .val (.double (FP.dmul (FP.dmul (FP.dmul (FP.dmul (4327959241903046656 : UInt64) (4327959241903046656 : UInt64)) (FP.dmul (4327959241903046656 : UInt64) (4327959241903046656 : UInt64))) (FP.dmul (FP.dmul (4327959241903046656 : UInt64) (4327959241903046656 : UInt64)) (FP.dmul (4327959241903046656 : UInt64) (4327959241903046656 : UInt64)))) (FP.dmul (FP.dmul (FP.dmul (4327959241903046656 : UInt64) (4327959241903046656 : UInt64)) (FP.dmul (4327959241903046656 : UInt64) (4327959241903046656 : UInt64))) (FP.dmul (FP.dmul (4327959241903046656 : UInt64) (4327959241903046656 : UInt64)) (FP.dmul (4327959241903046656 : UInt64) (4327959241903046656 : UInt64)))))), .second, .unset, .unset, .unset, .unset, .unset, .unset] [(.double (FP.dmul (FP.dmul (FP.dmul (FP.dmul (FP.dmul (4327959241903046656 : UInt64) (4327959241903046656 : UInt64)) (FP.dmul (4327959241903046656 : UInt64) (4327959241903046656 : UInt64))) (FP.dmul (FP.dmul (4327959241903046656 : UInt64) (4327959241903046656 : UInt64)) (FP.dmul (4327959241903046656 : UInt64) (4327959241903046656 : UInt64)))) (FP.dmul (FP.dmul (FP.dmul (4327959241903046656 : UInt64) (4327959241903046656 : UInt64)) (FP.dmul (4327959241903046656 : UInt64) (4327959241903046656 : UInt64))) (FP.dmul (FP.dmul (4327959241903046656 : UInt64) (4327959241903046656 : UInt64)) (FP.dmul (4327959241903046656 : UInt64) (4327959241903046656 : UInt64))))) (4327959241903046656 : UInt64)))])) rfl (hb hby at_77) _ ?_
    show Steps p.tables e below (s₁.setTop (mkF m 80 #[.val (.int p0), .val (.long q1), .second, .val (.long fr), .second, .val (.long (1 : Int64)), .second, .val (.double (4327959241903046656 : UInt64)), .second, .val (.double (FP.dmul (FP.dmul (FP.dmul (FP.dmul (4327959241903046656 : UInt64) (4327959241903046656 : UInt64)) (FP.dmul (4327959241903046656 : UInt64) (4327959241903046656 : UInt64))) (FP.dmul (FP.dmul (4327959241903046656 : UInt64) (4327959241903046656 : UInt64)) (FP.dmul (4327959241903046656 : UInt64) (4327959241903046656 : UInt64)))) (FP.dmul (FP.dmul (FP.dmul (4327959241903046656 : UInt64) (4327959241903046656 : UInt64)) (FP.dmul (4327959241903046656 : UInt64) (4327959241903046656 : UInt64))) (FP.dmul (FP.dmul (4327959241903046656 : UInt64) (4327959241903046656 : UInt64)) (FP.dmul (4327959241903046656 : UInt64) (4327959241903046656 : UInt64)))))), .second, .unset, .unset, .unset, .unset, .unset, .unset] [(.double (4697254411347427328 : UInt64)), (.double (FP.dmul (FP.dmul (FP.dmul (FP.dmul (FP.dmul (4327959241903046656 : UInt64) (4327959241903046656 : UInt64)) (FP.dmul (4327959241903046656 : UInt64) (4327959241903046656 : UInt64))) (FP.dmul (FP.dmul (4327959241903046656 : UInt64) (4327959241903046656 : UInt64)) (FP.dmul (4327959241903046656 : UInt64) (4327959241903046656 : UInt64)))) (FP.dmul (FP.dmul (FP.dmul (4327959241903046656 : UInt64) (4327959241903046656 : UInt64)) (FP.dmul (4327959241903046656 : UInt64) (4327959241903046656 : UInt64))) (FP.dmul (FP.dmul (4327959241903046656 : UInt64) (4327959241903046656 : UInt64)) (FP.dmul (4327959241903046656 : UInt64) (4327959241903046656 : UInt64))))) (4327959241903046656 : UInt64)))])) _
    refine XS.ddivS X0.here hx rfl (hb hby at_80) rfl own_const_80 rfl ?_
    show Steps p.tables e below (s₁.setTop (mkF m 81 #[.val (.int p0), .val (.long q1), .second, .val (.long fr), .second, .val (.long (1 : Int64)), .second, .val (.double (4327959241903046656 : UInt64)), .second, .val (.double (FP.dmul (FP.dmul (FP.dmul (FP.dmul (4327959241903046656 : UInt64) (4327959241903046656 : UInt64)) (FP.dmul (4327959241903046656 : UInt64) (4327959241903046656 : UInt64))) (FP.dmul (FP.dmul (4327959241903046656 : UInt64) (4327959241903046656 : UInt64)) (FP.dmul (4327959241903046656 : UInt64) (4327959241903046656 : UInt64)))) (FP.dmul (FP.dmul (FP.dmul (4327959241903046656 : UInt64) (4327959241903046656 : UInt64)) (FP.dmul (4327959241903046656 : UInt64) (4327959241903046656 : UInt64))) (FP.dmul (FP.dmul (4327959241903046656 : UInt64) (4327959241903046656 : UInt64)) (FP.dmul (4327959241903046656 : UInt64) (4327959241903046656 : UInt64)))))), .second, .unset, .unset, .unset, .unset, .unset, .unset] [(.double (FP.ddiv (FP.dmul (FP.dmul (FP.dmul (FP.dmul (FP.dmul (4327959241903046656 : UInt64) (4327959241903046656 : UInt64)) (FP.dmul (4327959241903046656 : UInt64) (4327959241903046656 : UInt64))) (FP.dmul (FP.dmul (4327959241903046656 : UInt64) (4327959241903046656 : UInt64)) (FP.dmul (4327959241903046656 : UInt64) (4327959241903046656 : UInt64)))) (FP.dmul (FP.dmul (FP.dmul (4327959241903046656 : UInt64) (4327959241903046656 : UInt64)) (FP.dmul (4327959241903046656 : UInt64) (4327959241903046656 : UInt64))) (FP.dmul (FP.dmul (4327959241903046656 : UInt64) (4327959241903046656 : UInt64)) (FP.dmul (4327959241903046656 : UInt64) (4327959241903046656 : UInt64))))) (4327959241903046656 : UInt64)) (4697254411347427328 : UInt64)))])) _
    rw [← hms]
    show Steps p.tables e below (s₁.setTop (mkF m 81 #[.val (.int p0), .val (.long q1), .second, .val (.long fr), .second, .val (.long (1 : Int64)), .second, .val (.double (4327959241903046656 : UInt64)), .second, .val (.double (FP.dmul (FP.dmul (FP.dmul (FP.dmul (4327959241903046656 : UInt64) (4327959241903046656 : UInt64)) (FP.dmul (4327959241903046656 : UInt64) (4327959241903046656 : UInt64))) (FP.dmul (FP.dmul (4327959241903046656 : UInt64) (4327959241903046656 : UInt64)) (FP.dmul (4327959241903046656 : UInt64) (4327959241903046656 : UInt64)))) (FP.dmul (FP.dmul (FP.dmul (4327959241903046656 : UInt64) (4327959241903046656 : UInt64)) (FP.dmul (4327959241903046656 : UInt64) (4327959241903046656 : UInt64))) (FP.dmul (FP.dmul (4327959241903046656 : UInt64) (4327959241903046656 : UInt64)) (FP.dmul (4327959241903046656 : UInt64) (4327959241903046656 : UInt64)))))), .second, .unset, .unset, .unset, .unset, .unset, .unset] [(.double ms)])) _
    refine XS.dstore X0.here hx rfl (hb hby at_81) rfl (l' := #[.val (.int p0), .val (.long q1), .second, .val (.long fr), .second, .val (.long (1 : Int64)), .second, .val (.double (4327959241903046656 : UInt64)), .second, .val (.double (FP.dmul (FP.dmul (FP.dmul (FP.dmul (4327959241903046656 : UInt64) (4327959241903046656 : UInt64)) (FP.dmul (4327959241903046656 : UInt64) (4327959241903046656 : UInt64))) (FP.dmul (FP.dmul (4327959241903046656 : UInt64) (4327959241903046656 : UInt64)) (FP.dmul (4327959241903046656 : UInt64) (4327959241903046656 : UInt64)))) (FP.dmul (FP.dmul (FP.dmul (4327959241903046656 : UInt64) (4327959241903046656 : UInt64)) (FP.dmul (4327959241903046656 : UInt64) (4327959241903046656 : UInt64))) (FP.dmul (FP.dmul (4327959241903046656 : UInt64) (4327959241903046656 : UInt64)) (FP.dmul (4327959241903046656 : UInt64) (4327959241903046656 : UInt64)))))), .second, .val (.double ms), .second, .unset, .unset, .unset, .unset]) rfl ?_
    show Steps p.tables e below (s₁.setTop (mkF m 83 #[.val (.int p0), .val (.long q1), .second, .val (.long fr), .second, .val (.long (1 : Int64)), .second, .val (.double (4327959241903046656 : UInt64)), .second, .val (.double (FP.dmul (FP.dmul (FP.dmul (FP.dmul (4327959241903046656 : UInt64) (4327959241903046656 : UInt64)) (FP.dmul (4327959241903046656 : UInt64) (4327959241903046656 : UInt64))) (FP.dmul (FP.dmul (4327959241903046656 : UInt64) (4327959241903046656 : UInt64)) (FP.dmul (4327959241903046656 : UInt64) (4327959241903046656 : UInt64)))) (FP.dmul (FP.dmul (FP.dmul (4327959241903046656 : UInt64) (4327959241903046656 : UInt64)) (FP.dmul (4327959241903046656 : UInt64) (4327959241903046656 : UInt64))) (FP.dmul (FP.dmul (4327959241903046656 : UInt64) (4327959241903046656 : UInt64)) (FP.dmul (4327959241903046656 : UInt64) (4327959241903046656 : UInt64)))))), .second, .val (.double ms), .second, .unset, .unset, .unset, .unset] [])) _
    refine XS.lload X0.here hx rfl (hb hby at_83) rfl ?_
    show Steps p.tables e below (s₁.setTop (mkF m 85 #[.val (.int p0), .val (.long q1), .second, .val (.long fr), .second, .val (.long (1 : Int64)), .second, .val (.double (4327959241903046656 : UInt64)), .second, .val (.double (FP.dmul (FP.dmul (FP.dmul (FP.dmul (4327959241903046656 : UInt64) (4327959241903046656 : UInt64)) (FP.dmul (4327959241903046656 : UInt64) (4327959241903046656 : UInt64))) (FP.dmul (FP.dmul (4327959241903046656 : UInt64) (4327959241903046656 : UInt64)) (FP.dmul (4327959241903046656 : UInt64) (4327959241903046656 : UInt64)))) (FP.dmul (FP.dmul (FP.dmul (4327959241903046656 : UInt64) (4327959241903046656 : UInt64)) (FP.dmul (4327959241903046656 : UInt64) (4327959241903046656 : UInt64))) (FP.dmul (FP.dmul (4327959241903046656 : UInt64) (4327959241903046656 : UInt64)) (FP.dmul (4327959241903046656 : UInt64) (4327959241903046656 : UInt64)))))), .second, .val (.double ms), .second, .unset, .unset, .unset, .unset] [(.long (1 : Int64))])) _
    refine XS.l2dS X0.here hx rfl (hb hby at_85) rfl rfl ?_
    show Steps p.tables e below (s₁.setTop (mkF m 86 #[.val (.int p0), .val (.long q1), .second, .val (.long fr), .second, .val (.long (1 : Int64)), .second, .val (.double (4327959241903046656 : UInt64)), .second, .val (.double (FP.dmul (FP.dmul (FP.dmul (FP.dmul (4327959241903046656 : UInt64) (4327959241903046656 : UInt64)) (FP.dmul (4327959241903046656 : UInt64) (4327959241903046656 : UInt64))) (FP.dmul (FP.dmul (4327959241903046656 : UInt64) (4327959241903046656 : UInt64)) (FP.dmul (4327959241903046656 : UInt64) (4327959241903046656 : UInt64)))) (FP.dmul (FP.dmul (FP.dmul (4327959241903046656 : UInt64) (4327959241903046656 : UInt64)) (FP.dmul (4327959241903046656 : UInt64) (4327959241903046656 : UInt64))) (FP.dmul (FP.dmul (4327959241903046656 : UInt64) (4327959241903046656 : UInt64)) (FP.dmul (4327959241903046656 : UInt64) (4327959241903046656 : UInt64)))))), .second, .val (.double ms), .second, .unset, .unset, .unset, .unset] [(.double (FP.l2d (1 : Int64)))])) _
    refine XS.dload X0.here hx rfl (hb hby at_86) rfl ?_
    show Steps p.tables e below (s₁.setTop (mkF m 88 #[.val (.int p0), .val (.long q1), .second, .val (.long fr), .second, .val (.long (1 : Int64)), .second, .val (.double (4327959241903046656 : UInt64)), .second, .val (.double (FP.dmul (FP.dmul (FP.dmul (FP.dmul (4327959241903046656 : UInt64) (4327959241903046656 : UInt64)) (FP.dmul (4327959241903046656 : UInt64) (4327959241903046656 : UInt64))) (FP.dmul (FP.dmul (4327959241903046656 : UInt64) (4327959241903046656 : UInt64)) (FP.dmul (4327959241903046656 : UInt64) (4327959241903046656 : UInt64)))) (FP.dmul (FP.dmul (FP.dmul (4327959241903046656 : UInt64) (4327959241903046656 : UInt64)) (FP.dmul (4327959241903046656 : UInt64) (4327959241903046656 : UInt64))) (FP.dmul (FP.dmul (4327959241903046656 : UInt64) (4327959241903046656 : UInt64)) (FP.dmul (4327959241903046656 : UInt64) (4327959241903046656 : UInt64)))))), .second, .val (.double ms), .second, .unset, .unset, .unset, .unset] [(.double ms), (.double (FP.l2d (1 : Int64)))])) _
    refine XS.dmulS X0.here hx rfl (hb hby at_88) rfl n88 rfl ?_
    show Steps p.tables e below (s₁.setTop (mkF m 89 #[.val (.int p0), .val (.long q1), .second, .val (.long fr), .second, .val (.long (1 : Int64)), .second, .val (.double (4327959241903046656 : UInt64)), .second, .val (.double (FP.dmul (FP.dmul (FP.dmul (FP.dmul (4327959241903046656 : UInt64) (4327959241903046656 : UInt64)) (FP.dmul (4327959241903046656 : UInt64) (4327959241903046656 : UInt64))) (FP.dmul (FP.dmul (4327959241903046656 : UInt64) (4327959241903046656 : UInt64)) (FP.dmul (4327959241903046656 : UInt64) (4327959241903046656 : UInt64)))) (FP.dmul (FP.dmul (FP.dmul (4327959241903046656 : UInt64) (4327959241903046656 : UInt64)) (FP.dmul (4327959241903046656 : UInt64) (4327959241903046656 : UInt64))) (FP.dmul (FP.dmul (4327959241903046656 : UInt64) (4327959241903046656 : UInt64)) (FP.dmul (4327959241903046656 : UInt64) (4327959241903046656 : UInt64)))))), .second, .val (.double ms), .second, .unset, .unset, .unset, .unset] [(.double (FP.dmul (FP.l2d (1 : Int64)) ms))])) _
    refine st1 _ ?_
    show Steps p.tables e below (T1.setTop (mkF m 92 #[.val (.int p0), .val (.long q1), .second, .val (.long fr), .second, .val (.long (1 : Int64)), .second, .val (.double (4327959241903046656 : UInt64)), .second, .val (.double (FP.dmul (FP.dmul (FP.dmul (FP.dmul (4327959241903046656 : UInt64) (4327959241903046656 : UInt64)) (FP.dmul (4327959241903046656 : UInt64) (4327959241903046656 : UInt64))) (FP.dmul (FP.dmul (4327959241903046656 : UInt64) (4327959241903046656 : UInt64)) (FP.dmul (4327959241903046656 : UInt64) (4327959241903046656 : UInt64)))) (FP.dmul (FP.dmul (FP.dmul (4327959241903046656 : UInt64) (4327959241903046656 : UInt64)) (FP.dmul (4327959241903046656 : UInt64) (4327959241903046656 : UInt64))) (FP.dmul (FP.dmul (4327959241903046656 : UInt64) (4327959241903046656 : UInt64)) (FP.dmul (4327959241903046656 : UInt64) (4327959241903046656 : UInt64)))))), .second, .val (.double ms), .second, .unset, .unset, .unset, .unset] [(.int (own_f10 (-1074 : Int32)))])) _
    refine XS.sipush X1.here hx rfl (hb hby at_92) ?_
    show Steps p.tables e below (T1.setTop (mkF m 95 #[.val (.int p0), .val (.long q1), .second, .val (.long fr), .second, .val (.long (1 : Int64)), .second, .val (.double (4327959241903046656 : UInt64)), .second, .val (.double (FP.dmul (FP.dmul (FP.dmul (FP.dmul (4327959241903046656 : UInt64) (4327959241903046656 : UInt64)) (FP.dmul (4327959241903046656 : UInt64) (4327959241903046656 : UInt64))) (FP.dmul (FP.dmul (4327959241903046656 : UInt64) (4327959241903046656 : UInt64)) (FP.dmul (4327959241903046656 : UInt64) (4327959241903046656 : UInt64)))) (FP.dmul (FP.dmul (FP.dmul (4327959241903046656 : UInt64) (4327959241903046656 : UInt64)) (FP.dmul (4327959241903046656 : UInt64) (4327959241903046656 : UInt64))) (FP.dmul (FP.dmul (4327959241903046656 : UInt64) (4327959241903046656 : UInt64)) (FP.dmul (4327959241903046656 : UInt64) (4327959241903046656 : UInt64)))))), .second, .val (.double ms), .second, .unset, .unset, .unset, .unset] [(.int (-324 : Int32)), (.int (own_f10 (-1074 : Int32)))])) _
    refine XS.icmpNo X1.here hx rfl (hb hby at_95) rfl b95 ?_
    show Steps p.tables e below (T1.setTop (mkF m 98 #[.val (.int p0), .val (.long q1), .second, .val (.long fr), .second, .val (.long (1 : Int64)), .second, .val (.double (4327959241903046656 : UInt64)), .second, .val (.double (FP.dmul (FP.dmul (FP.dmul (FP.dmul (4327959241903046656 : UInt64) (4327959241903046656 : UInt64)) (FP.dmul (4327959241903046656 : UInt64) (4327959241903046656 : UInt64))) (FP.dmul (FP.dmul (4327959241903046656 : UInt64) (4327959241903046656 : UInt64)) (FP.dmul (4327959241903046656 : UInt64) (4327959241903046656 : UInt64)))) (FP.dmul (FP.dmul (FP.dmul (4327959241903046656 : UInt64) (4327959241903046656 : UInt64)) (FP.dmul (4327959241903046656 : UInt64) (4327959241903046656 : UInt64))) (FP.dmul (FP.dmul (4327959241903046656 : UInt64) (4327959241903046656 : UInt64)) (FP.dmul (4327959241903046656 : UInt64) (4327959241903046656 : UInt64)))))), .second, .val (.double ms), .second, .unset, .unset, .unset, .unset] [])) _
    refine XS.iconst X1.here hx rfl (hb hby at_98) ?_
    show Steps p.tables e below (T1.setTop (mkF m 99 #[.val (.int p0), .val (.long q1), .second, .val (.long fr), .second, .val (.long (1 : Int64)), .second, .val (.double (4327959241903046656 : UInt64)), .second, .val (.double (FP.dmul (FP.dmul (FP.dmul (FP.dmul (4327959241903046656 : UInt64) (4327959241903046656 : UInt64)) (FP.dmul (4327959241903046656 : UInt64) (4327959241903046656 : UInt64))) (FP.dmul (FP.dmul (4327959241903046656 : UInt64) (4327959241903046656 : UInt64)) (FP.dmul (4327959241903046656 : UInt64) (4327959241903046656 : UInt64)))) (FP.dmul (FP.dmul (FP.dmul (4327959241903046656 : UInt64) (4327959241903046656 : UInt64)) (FP.dmul (4327959241903046656 : UInt64) (4327959241903046656 : UInt64))) (FP.dmul (FP.dmul (4327959241903046656 : UInt64) (4327959241903046656 : UInt64)) (FP.dmul (4327959241903046656 : UInt64) (4327959241903046656 : UInt64)))))), .second, .val (.double ms), .second, .unset, .unset, .unset, .unset] [(.int (1 : Int32))])) _
    refine XS.goto X1.here hx rfl (pc0 := 99) (pc' := 103) rfl (hb hby at_99) (by decide) (by decide) ?_
    show Steps p.tables e below (T1.setTop (mkF m 103 #[.val (.int p0), .val (.long q1), .second, .val (.long fr), .second, .val (.long (1 : Int64)), .second, .val (.double (4327959241903046656 : UInt64)), .second, .val (.double (FP.dmul (FP.dmul (FP.dmul (FP.dmul (4327959241903046656 : UInt64) (4327959241903046656 : UInt64)) (FP.dmul (4327959241903046656 : UInt64) (4327959241903046656 : UInt64))) (FP.dmul (FP.dmul (4327959241903046656 : UInt64) (4327959241903046656 : UInt64)) (FP.dmul (4327959241903046656 : UInt64) (4327959241903046656 : UInt64)))) (FP.dmul (FP.dmul (FP.dmul (4327959241903046656 : UInt64) (4327959241903046656 : UInt64)) (FP.dmul (4327959241903046656 : UInt64) (4327959241903046656 : UInt64))) (FP.dmul (FP.dmul (4327959241903046656 : UInt64) (4327959241903046656 : UInt64)) (FP.dmul (4327959241903046656 : UInt64) (4327959241903046656 : UInt64)))))), .second, .val (.double ms), .second, .unset, .unset, .unset, .unset] [(.int (1 : Int32))])) _
    exact retN X1 hx (t := .boolean) Bd.returns (by simp) (hb hby at_103) hr
  · show QL n0 _ T1.heap _
    exact ⟨rfl, N1⟩
theorem ef_rmS1 (m : MethodId) (x0 : Int32) (x1 : Int64) : entryFrame m #[(.int x0), (.long x1)] maxLocals = mkF m 0 #[.val (.int x0), .val (.long x1), .second, .unset, .unset, .unset, .unset, .unset, .unset, .unset, .unset, .unset, .unset, .unset, .unset, .unset, .unset] [] := by first | (simp [entryFrame, mkF, argsToLocals, Value.category, maxLocals]; done) | rfl
set_option maxRecDepth 65536 in
set_option maxHeartbeats 40000000 in
theorem rmS1 (l : Launch) (Z : State) (a0 : Array Value) (hw : ∀ d ∈ tables_1, d.before a0 Z = true) (ws : List Jvm.Cond)  (p0 : Int32) (q1 : Int64) (fr : Int64) (ms : UInt64) (be : Int32) (h0 : Heap) (n0 : Nat) (Z0 : n0 ≤ h0.size) 
    (hfr : fr = cond (ifCond.holds .eq (((p0.toUInt32 >>> ((9 : Int32) &&& 31).toUInt32).toInt32) &&& (1 : Int32))) (q1 &&& (4503599627370495 : Int64)) (0 : Int64))
    (b23 : ifCond.holds .ne (((p0.toUInt32 >>> ((7 : Int32) &&& 31).toUInt32).toInt32) &&& (3 : Int32)) = false)
    (b29 : ifCond.holds .ne (if fr > (0 : Int64) then 1 else if fr = (0 : Int64) then 0 else -1) = true)
    (hms : ms = (FP.ddiv (FP.dmul (FP.dmul (FP.dmul (FP.dmul (FP.dmul (4327959241903046656 : UInt64) (4327959241903046656 : UInt64)) (FP.dmul (4327959241903046656 : UInt64) (4327959241903046656 : UInt64))) (FP.dmul (FP.dmul (4327959241903046656 : UInt64) (4327959241903046656 : UInt64)) (FP.dmul (4327959241903046656 : UInt64) (4327959241903046656 : UInt64)))) (FP.dmul (FP.dmul (FP.dmul (4327959241903046656 : UInt64) (4327959241903046656 : UInt64)) (FP.dmul (4327959241903046656 : UInt64) (4327959241903046656 : UInt64))) (FP.dmul (FP.dmul (4327959241903046656 : UInt64) (4327959241903046656 : UInt64)) (FP.dmul (4327959241903046656 : UInt64) (4327959241903046656 : UInt64))))) (4327959241903046656 : UInt64)) (4697254411347427328 : UInt64)))
    (n88 : NoNaN64 (FP.dmul (FP.l2d fr) ms))
    (hbe : be = (((FP.dmul (FP.l2d fr) ms).toInt64.toUInt64 >>> ((52 : Int32) &&& 0x3f).toInt64.toUInt64).toInt64).toInt32)
    (d14 : ifCond.holds .ne be = false)
    (b95 : if_icmp.holds .ne (own_f10 (-1074 : Int32)) (-324 : Int32) = false) :
    MetFree l x (head1 (Jvm.Cond.code x code maxLocals ret :: ws) room_1) (fun a U => a = #[(.int p0), (.long q1)] ∧ Z.Warmed39 U.vm ∧ U.heap = h0) (fun _ _ _ _ _ => True) (fun _ U o U' => ∃ v L, o = .returned v ∧ QL n0 v U'.heap L ∧ FrameEnd U o U' L 0 0) := by
  refine MetFree.of_bodySF (plainFor_of_name pn_1) hisR ?_
  intro p e s m args below meth c s₁ Bd hml0 hP hK
  obtain ⟨rfl, hZ, hh⟩ := hP
  have hx := Bd.exec
  have hby := Bd.bytes
  have hml : c.maxLocals = 17 := hml0
  have hown : s.vm.findClass "com/example/sundry/sundry/ShortestDecimalUnitPinLaw" = some m.cls := findClass_of_methodNamed Bd.named
  have hnm := (name_of_methodNamed Bd.named Bd.method).1
  have X0 : Stand p l e room_1 s m #[(.int p0), (.long q1)] below meth c s₁ [] 0 0 := Stand.of_body Bd
  have e0 : s₁.heap = h0 := by rw [← hh, Bd.state]; rfl
  have N0 := Fr.nil n0
  have pre0 : ∀ t, Steps p.tables e below (s₁.setTop (mkF m 0 #[.val (.int p0), .val (.long q1), .second, .unset, .unset, .unset, .unset, .unset, .unset, .unset, .unset, .unset, .unset, .unset, .unset, .unset, .unset] [])) t → Steps p.tables e below (s₁.setTop (entryFrame m #[(.int p0), (.long q1)] maxLocals)) t := fun t k => castTop (ef_rmS1 m p0 q1) k
  have pre12 : ∀ t, Steps p.tables e below (s₁.setTop (mkF m 17 #[.val (.int p0), .val (.long q1), .second, .val (.long fr), .second, .unset, .unset, .unset, .unset, .unset, .unset, .unset, .unset, .unset, .unset, .unset, .unset] [])) t → Steps p.tables e below (s₁.setTop (mkF m 12 #[.val (.int p0), .val (.long q1), .second, .val (.long (q1 &&& (4503599627370495 : Int64))), .second, .unset, .unset, .unset, .unset, .unset, .unset, .unset, .unset, .unset, .unset, .unset, .unset] [(.int (((p0.toUInt32 >>> ((9 : Int32) &&& 31).toUInt32).toInt32) &&& (1 : Int32)))])) t := by
    intro t k
    cases hb12 : ifCond.holds .eq (((p0.toUInt32 >>> ((9 : Int32) &&& 31).toUInt32).toInt32) &&& (1 : Int32))
    · rw [hb12] at hfr
      obtain rfl : fr = (0 : Int64) := hfr
      show Steps p.tables e below (s₁.setTop (mkF m 12 #[.val (.int p0), .val (.long q1), .second, .val (.long (q1 &&& (4503599627370495 : Int64))), .second, .unset, .unset, .unset, .unset, .unset, .unset, .unset, .unset, .unset, .unset, .unset, .unset] [(.int (((p0.toUInt32 >>> ((9 : Int32) &&& 31).toUInt32).toInt32) &&& (1 : Int32)))])) _
      refine XS.ifNo X0.here hx rfl (hb hby at_12) rfl hb12 ?_
      show Steps p.tables e below (s₁.setTop (mkF m 15 #[.val (.int p0), .val (.long q1), .second, .val (.long (q1 &&& (4503599627370495 : Int64))), .second, .unset, .unset, .unset, .unset, .unset, .unset, .unset, .unset, .unset, .unset, .unset, .unset] [])) _
      refine XS.lconst X0.here hx rfl (hb hby at_15) ?_
      show Steps p.tables e below (s₁.setTop (mkF m 16 #[.val (.int p0), .val (.long q1), .second, .val (.long (q1 &&& (4503599627370495 : Int64))), .second, .unset, .unset, .unset, .unset, .unset, .unset, .unset, .unset, .unset, .unset, .unset, .unset] [(.long (0 : Int64))])) _
      refine XS.lstoreN X0.here hx rfl (hb hby at_16) rfl (l' := #[.val (.int p0), .val (.long q1), .second, .val (.long (0 : Int64)), .second, .unset, .unset, .unset, .unset, .unset, .unset, .unset, .unset, .unset, .unset, .unset, .unset]) rfl ?_
      show Steps p.tables e below (s₁.setTop (mkF m 17 #[.val (.int p0), .val (.long q1), .second, .val (.long (0 : Int64)), .second, .unset, .unset, .unset, .unset, .unset, .unset, .unset, .unset, .unset, .unset, .unset, .unset] [])) _
      exact k
    · rw [hb12] at hfr
      obtain rfl : fr = (q1 &&& (4503599627370495 : Int64)) := hfr
      show Steps p.tables e below (s₁.setTop (mkF m 12 #[.val (.int p0), .val (.long q1), .second, .val (.long (q1 &&& (4503599627370495 : Int64))), .second, .unset, .unset, .unset, .unset, .unset, .unset, .unset, .unset, .unset, .unset, .unset, .unset] [(.int (((p0.toUInt32 >>> ((9 : Int32) &&& 31).toUInt32).toInt32) &&& (1 : Int32)))])) _
      refine XS.ifYes X0.here hx rfl (pc0 := 12) (pc' := 17) rfl (hb hby at_12) rfl hb12 (by decide) (by decide) ?_
      show Steps p.tables e below (s₁.setTop (mkF m 17 #[.val (.int p0), .val (.long q1), .second, .val (.long (q1 &&& (4503599627370495 : Int64))), .second, .unset, .unset, .unset, .unset, .unset, .unset, .unset, .unset, .unset, .unset, .unset, .unset] [])) _
      exact k
  obtain ⟨_, _, ⟨T1, L1, k1, n1⟩, -, X1, ⟨Lc1, hQ1, l1, y1, z1⟩, st1⟩ := Jvm.LawKit.callS X0 hx (y := (⟨"com/example/sundry/sundry/ShortestDecimal", "unit", "(D)I"⟩ : MethodName)) hown (mvT hZ (hw _ (List.mem_of_getElem? (i := 3) rfl))) (mvT hZ (hw _ (List.mem_of_getElem? (i := 4) rfl))) (mvT hZ (hw _ (List.mem_of_getElem? (i := 5) rfl))) (mvT hZ (hw _ (List.mem_of_getElem? (i := 6) rfl))) (by decide) (backOf (W := 0) (rmD0 l Z a0 hw [] (FP.dmul (FP.l2d fr) ms) be h0 n0 Z0 hbe d14 (by decide)) hZ (hw _ (List.mem_of_getElem? (i := 6) rfl)) (hw _ (List.mem_of_getElem? (i := 5) rfl)) (by decide) (by decide)) (g := (mkF m 89 #[.val (.int p0), .val (.long q1), .second, .val (.long fr), .second, .val (.long fr), .second, .val (.double (4327959241903046656 : UInt64)), .second, .val (.double (FP.dmul (FP.dmul (FP.dmul (FP.dmul (4327959241903046656 : UInt64) (4327959241903046656 : UInt64)) (FP.dmul (4327959241903046656 : UInt64) (4327959241903046656 : UInt64))) (FP.dmul (FP.dmul (4327959241903046656 : UInt64) (4327959241903046656 : UInt64)) (FP.dmul (4327959241903046656 : UInt64) (4327959241903046656 : UInt64)))) (FP.dmul (FP.dmul (FP.dmul (4327959241903046656 : UInt64) (4327959241903046656 : UInt64)) (FP.dmul (4327959241903046656 : UInt64) (4327959241903046656 : UInt64))) (FP.dmul (FP.dmul (4327959241903046656 : UInt64) (4327959241903046656 : UInt64)) (FP.dmul (4327959241903046656 : UInt64) (4327959241903046656 : UInt64)))))), .second, .val (.double ms), .second, .unset, .unset, .unset, .unset] [(.double (FP.dmul (FP.l2d fr) ms))])) rfl (by rw [hml]; rfl) (argsL := [(.double (FP.dmul (FP.l2d fr) ms))]) (rest := []) (lenOf pd_3 rfl) rfl (by show 2 * 0 + _ ≤ _; exact Nat.le_of_eq rfl) (hb hby at_89) (fun _ _ => ⟨rfl, e0, (by decide : 0 + 0 ≤ _), (by decide : 0 + 0 ≤ _)⟩)
  dsimp only [Pt.U, Pt.locs, Pt.cells, Pt.slots] at X1 l1 y1 z1 st1 hQ1
  subst l1 y1 z1
  obtain ⟨rfl, N1a, e1⟩ := hQ1
  have N1 := Fr.app N0 N1a
  obtain ⟨fs, hr, hrun, hended, hW, hsame⟩ := X1.leave (v := some (.int (1 : Int32))) (fun h => by rw [Bd.returns] at h; cases h)
  refine ⟨_, _, pre0 _ ?_, hrun, hended, _, _, rfl, ?_, ⟨_, rfl⟩, hW, hsame.mono (Nat.le_of_ble_eq_true rfl) (Nat.le_of_ble_eq_true rfl)⟩
  · show Steps p.tables e below (s₁.setTop (mkF m 0 #[.val (.int p0), .val (.long q1), .second, .unset, .unset, .unset, .unset, .unset, .unset, .unset, .unset, .unset, .unset, .unset, .unset, .unset, .unset] [])) _
    refine XS.lloadN X0.here hx rfl (hb hby at_0) rfl ?_
    show Steps p.tables e below (s₁.setTop (mkF m 1 #[.val (.int p0), .val (.long q1), .second, .unset, .unset, .unset, .unset, .unset, .unset, .unset, .unset, .unset, .unset, .unset, .unset, .unset, .unset] [(.long q1)])) _
    refine X0.ldc2Long hx hown (mvT hZ (hw _ (List.mem_of_getElem? (i := 0) rfl))) (g := (mkF m 1 #[.val (.int p0), .val (.long q1), .second, .unset, .unset, .unset, .unset, .unset, .unset, .unset, .unset, .unset, .unset, .unset, .unset, .unset, .unset] [(.long q1)])) rfl (hb hby at_1) _ ?_
    show Steps p.tables e below (s₁.setTop (mkF m 4 #[.val (.int p0), .val (.long q1), .second, .unset, .unset, .unset, .unset, .unset, .unset, .unset, .unset, .unset, .unset, .unset, .unset, .unset, .unset] [(.long (4503599627370495 : Int64)), (.long q1)])) _
    refine XS.land X0.here hx rfl (hb hby at_4) rfl ?_
    show Steps p.tables e below (s₁.setTop (mkF m 5 #[.val (.int p0), .val (.long q1), .second, .unset, .unset, .unset, .unset, .unset, .unset, .unset, .unset, .unset, .unset, .unset, .unset, .unset, .unset] [(.long (q1 &&& (4503599627370495 : Int64)))])) _
    refine XS.lstoreN X0.here hx rfl (hb hby at_5) rfl (l' := #[.val (.int p0), .val (.long q1), .second, .val (.long (q1 &&& (4503599627370495 : Int64))), .second, .unset, .unset, .unset, .unset, .unset, .unset, .unset, .unset, .unset, .unset, .unset, .unset]) rfl ?_
    show Steps p.tables e below (s₁.setTop (mkF m 6 #[.val (.int p0), .val (.long q1), .second, .val (.long (q1 &&& (4503599627370495 : Int64))), .second, .unset, .unset, .unset, .unset, .unset, .unset, .unset, .unset, .unset, .unset, .unset, .unset] [])) _
    refine XS.iloadN X0.here hx rfl (hb hby at_6) rfl ?_
    show Steps p.tables e below (s₁.setTop (mkF m 7 #[.val (.int p0), .val (.long q1), .second, .val (.long (q1 &&& (4503599627370495 : Int64))), .second, .unset, .unset, .unset, .unset, .unset, .unset, .unset, .unset, .unset, .unset, .unset, .unset] [(.int p0)])) _
    refine XS.bipush X0.here hx rfl (hb hby at_7) ?_
    show Steps p.tables e below (s₁.setTop (mkF m 9 #[.val (.int p0), .val (.long q1), .second, .val (.long (q1 &&& (4503599627370495 : Int64))), .second, .unset, .unset, .unset, .unset, .unset, .unset, .unset, .unset, .unset, .unset, .unset, .unset] [(.int (9 : Int32)), (.int p0)])) _
    refine XS.iushr X0.here hx rfl (hb hby at_9) rfl ?_
    show Steps p.tables e below (s₁.setTop (mkF m 10 #[.val (.int p0), .val (.long q1), .second, .val (.long (q1 &&& (4503599627370495 : Int64))), .second, .unset, .unset, .unset, .unset, .unset, .unset, .unset, .unset, .unset, .unset, .unset, .unset] [(.int ((p0.toUInt32 >>> ((9 : Int32) &&& 31).toUInt32).toInt32))])) _
    refine XS.iconst X0.here hx rfl (hb hby at_10) ?_
    show Steps p.tables e below (s₁.setTop (mkF m 11 #[.val (.int p0), .val (.long q1), .second, .val (.long (q1 &&& (4503599627370495 : Int64))), .second, .unset, .unset, .unset, .unset, .unset, .unset, .unset, .unset, .unset, .unset, .unset, .unset] [(.int (1 : Int32)), (.int ((p0.toUInt32 >>> ((9 : Int32) &&& 31).toUInt32).toInt32))])) _
    refine XS.iand X0.here hx rfl (hb hby at_11) rfl ?_
    show Steps p.tables e below (s₁.setTop (mkF m 12 #[.val (.int p0), .val (.long q1), .second, .val (.long (q1 &&& (4503599627370495 : Int64))), .second, .unset, .unset, .unset, .unset, .unset, .unset, .unset, .unset, .unset, .unset, .unset, .unset] [(.int (((p0.toUInt32 >>> ((9 : Int32) &&& 31).toUInt32).toInt32) &&& (1 : Int32)))])) _
    refine pre12 _ ?_
    show Steps p.tables e below (s₁.setTop (mkF m 17 #[.val (.int p0), .val (.long q1), .second, .val (.long fr), .second, .unset, .unset, .unset, .unset, .unset, .unset, .unset, .unset, .unset, .unset, .unset, .unset] [])) _
    refine XS.iloadN X0.here hx rfl (hb hby at_17) rfl ?_
    show Steps p.tables e below (s₁.setTop (mkF m 18 #[.val (.int p0), .val (.long q1), .second, .val (.long fr), .second, .unset, .unset, .unset, .unset, .unset, .unset, .unset, .unset, .unset, .unset, .unset, .unset] [(.int p0)])) _
    refine XS.bipush X0.here hx rfl (hb hby at_18) ?_
    show Steps p.tables e below (s₁.setTop (mkF m 20 #[.val (.int p0), .val (.long q1), .second, .val (.long fr), .second, .unset, .unset, .unset, .unset, .unset, .unset, .unset, .unset, .unset, .unset, .unset, .unset] [(.int (7 : Int32)), (.int p0)])) _
    refine XS.iushr X0.here hx rfl (hb hby at_20) rfl ?_
    show Steps p.tables e below (s₁.setTop (mkF m 21 #[.val (.int p0), .val (.long q1), .second, .val (.long fr), .second, .unset, .unset, .unset, .unset, .unset, .unset, .unset, .unset, .unset, .unset, .unset, .unset] [(.int ((p0.toUInt32 >>> ((7 : Int32) &&& 31).toUInt32).toInt32))])) _
    refine XS.iconst X0.here hx rfl (hb hby at_21) ?_
    show Steps p.tables e below (s₁.setTop (mkF m 22 #[.val (.int p0), .val (.long q1), .second, .val (.long fr), .second, .unset, .unset, .unset, .unset, .unset, .unset, .unset, .unset, .unset, .unset, .unset, .unset] [(.int (3 : Int32)), (.int ((p0.toUInt32 >>> ((7 : Int32) &&& 31).toUInt32).toInt32))])) _
    refine XS.iand X0.here hx rfl (hb hby at_22) rfl ?_
    show Steps p.tables e below (s₁.setTop (mkF m 23 #[.val (.int p0), .val (.long q1), .second, .val (.long fr), .second, .unset, .unset, .unset, .unset, .unset, .unset, .unset, .unset, .unset, .unset, .unset, .unset] [(.int (((p0.toUInt32 >>> ((7 : Int32) &&& 31).toUInt32).toInt32) &&& (3 : Int32)))])) _
    refine XS.ifNo X0.here hx rfl (hb hby at_23) rfl b23 ?_
    show Steps p.tables e below (s₁.setTop (mkF m 26 #[.val (.int p0), .val (.long q1), .second, .val (.long fr), .second, .unset, .unset, .unset, .unset, .unset, .unset, .unset, .unset, .unset, .unset, .unset, .unset] [])) _
    refine XS.lloadN X0.here hx rfl (hb hby at_26) rfl ?_
    show Steps p.tables e below (s₁.setTop (mkF m 27 #[.val (.int p0), .val (.long q1), .second, .val (.long fr), .second, .unset, .unset, .unset, .unset, .unset, .unset, .unset, .unset, .unset, .unset, .unset, .unset] [(.long fr)])) _
    refine XS.lconst X0.here hx rfl (hb hby at_27) ?_
    show Steps p.tables e below (s₁.setTop (mkF m 28 #[.val (.int p0), .val (.long q1), .second, .val (.long fr), .second, .unset, .unset, .unset, .unset, .unset, .unset, .unset, .unset, .unset, .unset, .unset, .unset] [(.long (0 : Int64)), (.long fr)])) _
    refine XS.lcmp X0.here hx rfl (hb hby at_28) rfl ?_
    show Steps p.tables e below (s₁.setTop (mkF m 29 #[.val (.int p0), .val (.long q1), .second, .val (.long fr), .second, .unset, .unset, .unset, .unset, .unset, .unset, .unset, .unset, .unset, .unset, .unset, .unset] [(.int (if fr > (0 : Int64) then 1 else if fr = (0 : Int64) then 0 else -1))])) _
    refine XS.ifYes X0.here hx rfl (pc0 := 29) (pc' := 36) rfl (hb hby at_29) rfl b29 (by decide) (by decide) ?_
    show Steps p.tables e below (s₁.setTop (mkF m 36 #[.val (.int p0), .val (.long q1), .second, .val (.long fr), .second, .unset, .unset, .unset, .unset, .unset, .unset, .unset, .unset, .unset, .unset, .unset, .unset] [])) _
    refine XS.lloadN X0.here hx rfl (hb hby at_36) rfl ?_
    show Steps p.tables e below (s₁.setTop (mkF m 37 #[.val (.int p0), .val (.long q1), .second, .val (.long fr), .second, .unset, .unset, .unset, .unset, .unset, .unset, .unset, .unset, .unset, .unset, .unset, .unset] [(.long fr)])) _
    refine XS.lstore X0.here hx rfl (hb hby at_37) rfl (l' := #[.val (.int p0), .val (.long q1), .second, .val (.long fr), .second, .val (.long fr), .second, .unset, .unset, .unset, .unset, .unset, .unset, .unset, .unset, .unset, .unset]) rfl ?_
    show Steps p.tables e below (s₁.setTop (mkF m 39 #[.val (.int p0), .val (.long q1), .second, .val (.long fr), .second, .val (.long fr), .second, .unset, .unset, .unset, .unset, .unset, .unset, .unset, .unset, .unset, .unset] [])) _
    refine X0.ldc2DoubleC hx hown (mvT hZ (hw _ (List.mem_of_getElem? (i := 1) rfl))) (g := (mkF m 39 #[.val (.int p0), .val (.long q1), .second, .val (.long fr), .second, .val (.long fr), .second, .unset, .unset, .unset, .unset, .unset, .unset, .unset, .unset, .unset, .unset] [])) rfl (hb hby at_39) _ ?_
    show Steps p.tables e below (s₁.setTop (mkF m 42 #[.val (.int p0), .val (.long q1), .second, .val (.long fr), .second, .val (.long fr), .second, .unset, .unset, .unset, .unset, .unset, .unset, .unset, .unset, .unset, .unset] [(.double (4327959241903046656 : UInt64))])) _
    refine XS.dstore X0.here hx rfl (hb hby at_42) rfl (l' := #[.val (.int p0), .val (.long q1), .second, .val (.long fr), .second, .val (.long fr), .second, .val (.double (4327959241903046656 : UInt64)), .second, .unset, .unset, .unset, .unset, .unset, .unset, .unset, .unset]) rfl ?_
    show Steps p.tables e below (s₁.setTop (mkF m 44 #[.val (.int p0), .val (.long q1), .second, .val (.long fr), .second, .val (.long fr), .second, .val (.double (4327959241903046656 : UInt64)), .second, .unset, .unset, .unset, .unset, .unset, .unset, .unset, .unset] [])) _
    refine XS.dload X0.here hx rfl (hb hby at_44) rfl ?_
    show Steps p.tables e below (s₁.setTop (mkF m 46 #[.val (.int p0), .val (.long q1), .second, .val (.long fr), .second, .val (.long fr), .second, .val (.double (4327959241903046656 : UInt64)), .second, .unset, .unset, .unset, .unset, .unset, .unset, .unset, .unset] [(.double (4327959241903046656 : UInt64))])) _
    refine XS.dload X0.here hx rfl (hb hby at_46) rfl ?_
    show Steps p.tables e below (s₁.setTop (mkF m 48 #[.val (.int p0), .val (.long q1), .second, .val (.long fr), .second, .val (.long fr), .second, .val (.double (4327959241903046656 : UInt64)), .second, .unset, .unset, .unset, .unset, .unset, .unset, .unset, .unset] [(.double (4327959241903046656 : UInt64)), (.double (4327959241903046656 : UInt64))])) _
    refine XS.dmulS X0.here hx rfl (hb hby at_48) rfl own_const_48 rfl ?_
    show Steps p.tables e below (s₁.setTop (mkF m 49 #[.val (.int p0), .val (.long q1), .second, .val (.long fr), .second, .val (.long fr), .second, .val (.double (4327959241903046656 : UInt64)), .second, .unset, .unset, .unset, .unset, .unset, .unset, .unset, .unset] [(.double (FP.dmul (4327959241903046656 : UInt64) (4327959241903046656 : UInt64)))])) _
    refine XS.dstore X0.here hx rfl (hb hby at_49) rfl (l' := #[.val (.int p0), .val (.long q1), .second, .val (.long fr), .second, .val (.long fr), .second, .val (.double (4327959241903046656 : UInt64)), .second, .val (.double (FP.dmul (4327959241903046656 : UInt64) (4327959241903046656 : UInt64))), .second, .unset, .unset, .unset, .unset, .unset, .unset]) rfl ?_
    show Steps p.tables e below (s₁.setTop (mkF m 51 #[.val (.int p0), .val (.long q1), .second, .val (.long fr), .second, .val (.long fr), .second, .val (.double (4327959241903046656 : UInt64)), .second, .val (.double (FP.dmul (4327959241903046656 : UInt64) (4327959241903046656 : UInt64))), .second, .unset, .unset, .unset, .unset, .unset, .unset] [])) _
    refine XS.dload X0.here hx rfl (hb hby at_51) rfl ?_
    show Steps p.tables e below (s₁.setTop (mkF m 53 #[.val (.int p0), .val (.long q1), .second, .val (.long fr), .second, .val (.long fr), .second, .val (.double (4327959241903046656 : UInt64)), .second, .val (.double (FP.dmul (4327959241903046656 : UInt64) (4327959241903046656 : UInt64))), .second, .unset, .unset, .unset, .unset, .unset, .unset] [(.double (FP.dmul (4327959241903046656 : UInt64) (4327959241903046656 : UInt64)))])) _
    refine XS.dload X0.here hx rfl (hb hby at_53) rfl ?_
    show Steps p.tables e below (s₁.setTop (mkF m 55 #[.val (.int p0), .val (.long q1), .second, .val (.long fr), .second, .val (.long fr), .second, .val (.double (4327959241903046656 : UInt64)), .second, .val (.double (FP.dmul (4327959241903046656 : UInt64) (4327959241903046656 : UInt64))), .second, .unset, .unset, .unset, .unset, .unset, .unset] [(.double (FP.dmul (4327959241903046656 : UInt64) (4327959241903046656 : UInt64))), (.double (FP.dmul (4327959241903046656 : UInt64) (4327959241903046656 : UInt64)))])) _
    refine XS.dmulS X0.here hx rfl (hb hby at_55) rfl own_const_55 rfl ?_
    show Steps p.tables e below (s₁.setTop (mkF m 56 #[.val (.int p0), .val (.long q1), .second, .val (.long fr), .second, .val (.long fr), .second, .val (.double (4327959241903046656 : UInt64)), .second, .val (.double (FP.dmul (4327959241903046656 : UInt64) (4327959241903046656 : UInt64))), .second, .unset, .unset, .unset, .unset, .unset, .unset] [(.double (FP.dmul (FP.dmul (4327959241903046656 : UInt64) (4327959241903046656 : UInt64)) (FP.dmul (4327959241903046656 : UInt64) (4327959241903046656 : UInt64))))])) _
    refine XS.dstore X0.here hx rfl (hb hby at_56) rfl (l' := #[.val (.int p0), .val (.long q1), .second, .val (.long fr), .second, .val (.long fr), .second, .val (.double (4327959241903046656 : UInt64)), .second, .val (.double (FP.dmul (FP.dmul (4327959241903046656 : UInt64) (4327959241903046656 : UInt64)) (FP.dmul (4327959241903046656 : UInt64) (4327959241903046656 : UInt64)))), .second, .unset, .unset, .unset, .unset, .unset, .unset]) rfl ?_
    show Steps p.tables e below (s₁.setTop (mkF m 58 #[.val (.int p0), .val (.long q1), .second, .val (.long fr), .second, .val (.long fr), .second, .val (.double (4327959241903046656 : UInt64)), .second, .val (.double (FP.dmul (FP.dmul (4327959241903046656 : UInt64) (4327959241903046656 : UInt64)) (FP.dmul (4327959241903046656 : UInt64) (4327959241903046656 : UInt64)))), .second, .unset, .unset, .unset, .unset, .unset, .unset] [])) _
    refine XS.dload X0.here hx rfl (hb hby at_58) rfl ?_
    show Steps p.tables e below (s₁.setTop (mkF m 60 #[.val (.int p0), .val (.long q1), .second, .val (.long fr), .second, .val (.long fr), .second, .val (.double (4327959241903046656 : UInt64)), .second, .val (.double (FP.dmul (FP.dmul (4327959241903046656 : UInt64) (4327959241903046656 : UInt64)) (FP.dmul (4327959241903046656 : UInt64) (4327959241903046656 : UInt64)))), .second, .unset, .unset, .unset, .unset, .unset, .unset] [(.double (FP.dmul (FP.dmul (4327959241903046656 : UInt64) (4327959241903046656 : UInt64)) (FP.dmul (4327959241903046656 : UInt64) (4327959241903046656 : UInt64))))])) _
    refine XS.dload X0.here hx rfl (hb hby at_60) rfl ?_
    show Steps p.tables e below (s₁.setTop (mkF m 62 #[.val (.int p0), .val (.long q1), .second, .val (.long fr), .second, .val (.long fr), .second, .val (.double (4327959241903046656 : UInt64)), .second, .val (.double (FP.dmul (FP.dmul (4327959241903046656 : UInt64) (4327959241903046656 : UInt64)) (FP.dmul (4327959241903046656 : UInt64) (4327959241903046656 : UInt64)))), .second, .unset, .unset, .unset, .unset, .unset, .unset] [(.double (FP.dmul (FP.dmul (4327959241903046656 : UInt64) (4327959241903046656 : UInt64)) (FP.dmul (4327959241903046656 : UInt64) (4327959241903046656 : UInt64)))), (.double (FP.dmul (FP.dmul (4327959241903046656 : UInt64) (4327959241903046656 : UInt64)) (FP.dmul (4327959241903046656 : UInt64) (4327959241903046656 : UInt64))))])) _
    refine XS.dmulS X0.here hx rfl (hb hby at_62) rfl own_const_62 rfl ?_
    show Steps p.tables e below (s₁.setTop (mkF m 63 #[.val (.int p0), .val (.long q1), .second, .val (.long fr), .second, .val (.long fr), .second, .val (.double (4327959241903046656 : UInt64)), .second, .val (.double (FP.dmul (FP.dmul (4327959241903046656 : UInt64) (4327959241903046656 : UInt64)) (FP.dmul (4327959241903046656 : UInt64) (4327959241903046656 : UInt64)))), .second, .unset, .unset, .unset, .unset, .unset, .unset] [(.double (FP.dmul (FP.dmul (FP.dmul (4327959241903046656 : UInt64) (4327959241903046656 : UInt64)) (FP.dmul (4327959241903046656 : UInt64) (4327959241903046656 : UInt64))) (FP.dmul (FP.dmul (4327959241903046656 : UInt64) (4327959241903046656 : UInt64)) (FP.dmul (4327959241903046656 : UInt64) (4327959241903046656 : UInt64)))))])) _
    refine XS.dstore X0.here hx rfl (hb hby at_63) rfl (l' := #[.val (.int p0), .val (.long q1), .second, .val (.long fr), .second, .val (.long fr), .second, .val (.double (4327959241903046656 : UInt64)), .second, .val (.double (FP.dmul (FP.dmul (FP.dmul (4327959241903046656 : UInt64) (4327959241903046656 : UInt64)) (FP.dmul (4327959241903046656 : UInt64) (4327959241903046656 : UInt64))) (FP.dmul (FP.dmul (4327959241903046656 : UInt64) (4327959241903046656 : UInt64)) (FP.dmul (4327959241903046656 : UInt64) (4327959241903046656 : UInt64))))), .second, .unset, .unset, .unset, .unset, .unset, .unset]) rfl ?_
    show Steps p.tables e below (s₁.setTop (mkF m 65 #[.val (.int p0), .val (.long q1), .second, .val (.long fr), .second, .val (.long fr), .second, .val (.double (4327959241903046656 : UInt64)), .second, .val (.double (FP.dmul (FP.dmul (FP.dmul (4327959241903046656 : UInt64) (4327959241903046656 : UInt64)) (FP.dmul (4327959241903046656 : UInt64) (4327959241903046656 : UInt64))) (FP.dmul (FP.dmul (4327959241903046656 : UInt64) (4327959241903046656 : UInt64)) (FP.dmul (4327959241903046656 : UInt64) (4327959241903046656 : UInt64))))), .second, .unset, .unset, .unset, .unset, .unset, .unset] [])) _
    refine XS.dload X0.here hx rfl (hb hby at_65) rfl ?_
    show Steps p.tables e below (s₁.setTop (mkF m 67 #[.val (.int p0), .val (.long q1), .second, .val (.long fr), .second, .val (.long fr), .second, .val (.double (4327959241903046656 : UInt64)), .second, .val (.double (FP.dmul (FP.dmul (FP.dmul (4327959241903046656 : UInt64) (4327959241903046656 : UInt64)) (FP.dmul (4327959241903046656 : UInt64) (4327959241903046656 : UInt64))) (FP.dmul (FP.dmul (4327959241903046656 : UInt64) (4327959241903046656 : UInt64)) (FP.dmul (4327959241903046656 : UInt64) (4327959241903046656 : UInt64))))), .second, .unset, .unset, .unset, .unset, .unset, .unset] [(.double (FP.dmul (FP.dmul (FP.dmul (4327959241903046656 : UInt64) (4327959241903046656 : UInt64)) (FP.dmul (4327959241903046656 : UInt64) (4327959241903046656 : UInt64))) (FP.dmul (FP.dmul (4327959241903046656 : UInt64) (4327959241903046656 : UInt64)) (FP.dmul (4327959241903046656 : UInt64) (4327959241903046656 : UInt64)))))])) _
    refine XS.dload X0.here hx rfl (hb hby at_67) rfl ?_
    show Steps p.tables e below (s₁.setTop (mkF m 69 #[.val (.int p0), .val (.long q1), .second, .val (.long fr), .second, .val (.long fr), .second, .val (.double (4327959241903046656 : UInt64)), .second, .val (.double (FP.dmul (FP.dmul (FP.dmul (4327959241903046656 : UInt64) (4327959241903046656 : UInt64)) (FP.dmul (4327959241903046656 : UInt64) (4327959241903046656 : UInt64))) (FP.dmul (FP.dmul (4327959241903046656 : UInt64) (4327959241903046656 : UInt64)) (FP.dmul (4327959241903046656 : UInt64) (4327959241903046656 : UInt64))))), .second, .unset, .unset, .unset, .unset, .unset, .unset] [(.double (FP.dmul (FP.dmul (FP.dmul (4327959241903046656 : UInt64) (4327959241903046656 : UInt64)) (FP.dmul (4327959241903046656 : UInt64) (4327959241903046656 : UInt64))) (FP.dmul (FP.dmul (4327959241903046656 : UInt64) (4327959241903046656 : UInt64)) (FP.dmul (4327959241903046656 : UInt64) (4327959241903046656 : UInt64))))), (.double (FP.dmul (FP.dmul (FP.dmul (4327959241903046656 : UInt64) (4327959241903046656 : UInt64)) (FP.dmul (4327959241903046656 : UInt64) (4327959241903046656 : UInt64))) (FP.dmul (FP.dmul (4327959241903046656 : UInt64) (4327959241903046656 : UInt64)) (FP.dmul (4327959241903046656 : UInt64) (4327959241903046656 : UInt64)))))])) _
    refine XS.dmulS X0.here hx rfl (hb hby at_69) rfl own_const_69 rfl ?_
    show Steps p.tables e below (s₁.setTop (mkF m 70 #[.val (.int p0), .val (.long q1), .second, .val (.long fr), .second, .val (.long fr), .second, .val (.double (4327959241903046656 : UInt64)), .second, .val (.double (FP.dmul (FP.dmul (FP.dmul (4327959241903046656 : UInt64) (4327959241903046656 : UInt64)) (FP.dmul (4327959241903046656 : UInt64) (4327959241903046656 : UInt64))) (FP.dmul (FP.dmul (4327959241903046656 : UInt64) (4327959241903046656 : UInt64)) (FP.dmul (4327959241903046656 : UInt64) (4327959241903046656 : UInt64))))), .second, .unset, .unset, .unset, .unset, .unset, .unset] [(.double (FP.dmul (FP.dmul (FP.dmul (FP.dmul (4327959241903046656 : UInt64) (4327959241903046656 : UInt64)) (FP.dmul (4327959241903046656 : UInt64) (4327959241903046656 : UInt64))) (FP.dmul (FP.dmul (4327959241903046656 : UInt64) (4327959241903046656 : UInt64)) (FP.dmul (4327959241903046656 : UInt64) (4327959241903046656 : UInt64)))) (FP.dmul (FP.dmul (FP.dmul (4327959241903046656 : UInt64) (4327959241903046656 : UInt64)) (FP.dmul (4327959241903046656 : UInt64) (4327959241903046656 : UInt64))) (FP.dmul (FP.dmul (4327959241903046656 : UInt64) (4327959241903046656 : UInt64)) (FP.dmul (4327959241903046656 : UInt64) (4327959241903046656 : UInt64))))))])) _
    refine XS.dstore X0.here hx rfl (hb hby at_70) rfl (l' := #[.val (.int p0), .val (.long q1), .second, .val (.long fr), .second, .val (.long fr), .second, .val (.double (4327959241903046656 : UInt64)), .second, .val (.double (FP.dmul (FP.dmul (FP.dmul (FP.dmul (4327959241903046656 : UInt64) (4327959241903046656 : UInt64)) (FP.dmul (4327959241903046656 : UInt64) (4327959241903046656 : UInt64))) (FP.dmul (FP.dmul (4327959241903046656 : UInt64) (4327959241903046656 : UInt64)) (FP.dmul (4327959241903046656 : UInt64) (4327959241903046656 : UInt64)))) (FP.dmul (FP.dmul (FP.dmul (4327959241903046656 : UInt64) (4327959241903046656 : UInt64)) (FP.dmul (4327959241903046656 : UInt64) (4327959241903046656 : UInt64))) (FP.dmul (FP.dmul (4327959241903046656 : UInt64) (4327959241903046656 : UInt64)) (FP.dmul (4327959241903046656 : UInt64) (4327959241903046656 : UInt64)))))), .second, .unset, .unset, .unset, .unset, .unset, .unset]) rfl ?_
    show Steps p.tables e below (s₁.setTop (mkF m 72 #[.val (.int p0), .val (.long q1), .second, .val (.long fr), .second, .val (.long fr), .second, .val (.double (4327959241903046656 : UInt64)), .second, .val (.double (FP.dmul (FP.dmul (FP.dmul (FP.dmul (4327959241903046656 : UInt64) (4327959241903046656 : UInt64)) (FP.dmul (4327959241903046656 : UInt64) (4327959241903046656 : UInt64))) (FP.dmul (FP.dmul (4327959241903046656 : UInt64) (4327959241903046656 : UInt64)) (FP.dmul (4327959241903046656 : UInt64) (4327959241903046656 : UInt64)))) (FP.dmul (FP.dmul (FP.dmul (4327959241903046656 : UInt64) (4327959241903046656 : UInt64)) (FP.dmul (4327959241903046656 : UInt64) (4327959241903046656 : UInt64))) (FP.dmul (FP.dmul (4327959241903046656 : UInt64) (4327959241903046656 : UInt64)) (FP.dmul (4327959241903046656 : UInt64) (4327959241903046656 : UInt64)))))), .second, .unset, .unset, .unset, .unset, .unset, .unset] [])) _
    refine XS.dload X0.here hx rfl (hb hby at_72) rfl ?_
    show Steps p.tables e below (s₁.setTop (mkF m 74 #[.val (.int p0), .val (.long q1), .second, .val (.long fr), .second, .val (.long fr), .second, .val (.double (4327959241903046656 : UInt64)), .second, .val (.double (FP.dmul (FP.dmul (FP.dmul (FP.dmul (4327959241903046656 : UInt64) (4327959241903046656 : UInt64)) (FP.dmul (4327959241903046656 : UInt64) (4327959241903046656 : UInt64))) (FP.dmul (FP.dmul (4327959241903046656 : UInt64) (4327959241903046656 : UInt64)) (FP.dmul (4327959241903046656 : UInt64) (4327959241903046656 : UInt64)))) (FP.dmul (FP.dmul (FP.dmul (4327959241903046656 : UInt64) (4327959241903046656 : UInt64)) (FP.dmul (4327959241903046656 : UInt64) (4327959241903046656 : UInt64))) (FP.dmul (FP.dmul (4327959241903046656 : UInt64) (4327959241903046656 : UInt64)) (FP.dmul (4327959241903046656 : UInt64) (4327959241903046656 : UInt64)))))), .second, .unset, .unset, .unset, .unset, .unset, .unset] [(.double (FP.dmul (FP.dmul (FP.dmul (FP.dmul (4327959241903046656 : UInt64) (4327959241903046656 : UInt64)) (FP.dmul (4327959241903046656 : UInt64) (4327959241903046656 : UInt64))) (FP.dmul (FP.dmul (4327959241903046656 : UInt64) (4327959241903046656 : UInt64)) (FP.dmul (4327959241903046656 : UInt64) (4327959241903046656 : UInt64)))) (FP.dmul (FP.dmul (FP.dmul (4327959241903046656 : UInt64) (4327959241903046656 : UInt64)) (FP.dmul (4327959241903046656 : UInt64) (4327959241903046656 : UInt64))) (FP.dmul (FP.dmul (4327959241903046656 : UInt64) (4327959241903046656 : UInt64)) (FP.dmul (4327959241903046656 : UInt64) (4327959241903046656 : UInt64))))))])) _
    refine XS.dload X0.here hx rfl (hb hby at_74) rfl ?_
    show Steps p.tables e below (s₁.setTop (mkF m 76 #[.val (.int p0), .val (.long q1), .second, .val (.long fr), .second, .val (.long fr), .second, .val (.double (4327959241903046656 : UInt64)), .second, .val (.double (FP.dmul (FP.dmul (FP.dmul (FP.dmul (4327959241903046656 : UInt64) (4327959241903046656 : UInt64)) (FP.dmul (4327959241903046656 : UInt64) (4327959241903046656 : UInt64))) (FP.dmul (FP.dmul (4327959241903046656 : UInt64) (4327959241903046656 : UInt64)) (FP.dmul (4327959241903046656 : UInt64) (4327959241903046656 : UInt64)))) (FP.dmul (FP.dmul (FP.dmul (4327959241903046656 : UInt64) (4327959241903046656 : UInt64)) (FP.dmul (4327959241903046656 : UInt64) (4327959241903046656 : UInt64))) (FP.dmul (FP.dmul (4327959241903046656 : UInt64) (4327959241903046656 : UInt64)) (FP.dmul (4327959241903046656 : UInt64) (4327959241903046656 : UInt64)))))), .second, .unset, .unset, .unset, .unset, .unset, .unset] [(.double (4327959241903046656 : UInt64)), (.double (FP.dmul (FP.dmul (FP.dmul (FP.dmul (4327959241903046656 : UInt64) (4327959241903046656 : UInt64)) (FP.dmul (4327959241903046656 : UInt64) (4327959241903046656 : UInt64))) (FP.dmul (FP.dmul (4327959241903046656 : UInt64) (4327959241903046656 : UInt64)) (FP.dmul (4327959241903046656 : UInt64) (4327959241903046656 : UInt64)))) (FP.dmul (FP.dmul (FP.dmul (4327959241903046656 : UInt64) (4327959241903046656 : UInt64)) (FP.dmul (4327959241903046656 : UInt64) (4327959241903046656 : UInt64))) (FP.dmul (FP.dmul (4327959241903046656 : UInt64) (4327959241903046656 : UInt64)) (FP.dmul (4327959241903046656 : UInt64) (4327959241903046656 : UInt64))))))])) _
    refine XS.dmulS X0.here hx rfl (hb hby at_76) rfl own_const_76 rfl ?_
    show Steps p.tables e below (s₁.setTop (mkF m 77 #[.val (.int p0), .val (.long q1), .second, .val (.long fr), .second, .val (.long fr), .second, .val (.double (4327959241903046656 : UInt64)), .second, .val (.double (FP.dmul (FP.dmul (FP.dmul (FP.dmul (4327959241903046656 : UInt64) (4327959241903046656 : UInt64)) (FP.dmul (4327959241903046656 : UInt64) (4327959241903046656 : UInt64))) (FP.dmul (FP.dmul (4327959241903046656 : UInt64) (4327959241903046656 : UInt64)) (FP.dmul (4327959241903046656 : UInt64) (4327959241903046656 : UInt64)))) (FP.dmul (FP.dmul (FP.dmul (4327959241903046656 : UInt64) (4327959241903046656 : UInt64)) (FP.dmul (4327959241903046656 : UInt64) (4327959241903046656 : UInt64))) (FP.dmul (FP.dmul (4327959241903046656 : UInt64) (4327959241903046656 : UInt64)) (FP.dmul (4327959241903046656 : UInt64) (4327959241903046656 : UInt64)))))), .second, .unset, .unset, .unset, .unset, .unset, .unset] [(.double (FP.dmul (FP.dmul (FP.dmul (FP.dmul (FP.dmul (4327959241903046656 : UInt64) (4327959241903046656 : UInt64)) (FP.dmul (4327959241903046656 : UInt64) (4327959241903046656 : UInt64))) (FP.dmul (FP.dmul (4327959241903046656 : UInt64) (4327959241903046656 : UInt64)) (FP.dmul (4327959241903046656 : UInt64) (4327959241903046656 : UInt64)))) (FP.dmul (FP.dmul (FP.dmul (4327959241903046656 : UInt64) (4327959241903046656 : UInt64)) (FP.dmul (4327959241903046656 : UInt64) (4327959241903046656 : UInt64))) (FP.dmul (FP.dmul (4327959241903046656 : UInt64) (4327959241903046656 : UInt64)) (FP.dmul (4327959241903046656 : UInt64) (4327959241903046656 : UInt64))))) (4327959241903046656 : UInt64)))])) _
    refine X0.ldc2DoubleC hx hown (mvT hZ (hw _ (List.mem_of_getElem? (i := 2) rfl))) (g := (mkF m 77 #[.val (.int p0), .val (.long q1), .second, .val (.long fr), .second, .val (.long fr), .second, .val (.double (4327959241903046656 : UInt64)), .second, .val (.double (FP.dmul (FP.dmul (FP.dmul (FP.dmul (4327959241903046656 : UInt64) (4327959241903046656 : UInt64)) (FP.dmul (4327959241903046656 : UInt64) (4327959241903046656 : UInt64))) (FP.dmul (FP.dmul (4327959241903046656 : UInt64) (4327959241903046656 : UInt64)) (FP.dmul (4327959241903046656 : UInt64) (4327959241903046656 : UInt64)))) (FP.dmul (FP.dmul (FP.dmul (4327959241903046656 : UInt64) (4327959241903046656 : UInt64)) (FP.dmul (4327959241903046656 : UInt64) (4327959241903046656 : UInt64))) (FP.dmul (FP.dmul (4327959241903046656 : UInt64) (4327959241903046656 : UInt64)) (FP.dmul (4327959241903046656 : UInt64) (4327959241903046656 : UInt64)))))), .second, .unset, .unset, .unset, .unset, .unset, .unset] [(.double (FP.dmul (FP.dmul (FP.dmul (FP.dmul (FP.dmul (4327959241903046656 : UInt64) (4327959241903046656 : UInt64)) (FP.dmul (4327959241903046656 : UInt64) (4327959241903046656 : UInt64))) (FP.dmul (FP.dmul (4327959241903046656 : UInt64) (4327959241903046656 : UInt64)) (FP.dmul (4327959241903046656 : UInt64) (4327959241903046656 : UInt64)))) (FP.dmul (FP.dmul (FP.dmul (4327959241903046656 : UInt64) (4327959241903046656 : UInt64)) (FP.dmul (4327959241903046656 : UInt64) (4327959241903046656 : UInt64))) (FP.dmul (FP.dmul (4327959241903046656 : UInt64) (4327959241903046656 : UInt64)) (FP.dmul (4327959241903046656 : UInt64) (4327959241903046656 : UInt64))))) (4327959241903046656 : UInt64)))])) rfl (hb hby at_77) _ ?_
    show Steps p.tables e below (s₁.setTop (mkF m 80 #[.val (.int p0), .val (.long q1), .second, .val (.long fr), .second, .val (.long fr), .second, .val (.double (4327959241903046656 : UInt64)), .second, .val (.double (FP.dmul (FP.dmul (FP.dmul (FP.dmul (4327959241903046656 : UInt64) (4327959241903046656 : UInt64)) (FP.dmul (4327959241903046656 : UInt64) (4327959241903046656 : UInt64))) (FP.dmul (FP.dmul (4327959241903046656 : UInt64) (4327959241903046656 : UInt64)) (FP.dmul (4327959241903046656 : UInt64) (4327959241903046656 : UInt64)))) (FP.dmul (FP.dmul (FP.dmul (4327959241903046656 : UInt64) (4327959241903046656 : UInt64)) (FP.dmul (4327959241903046656 : UInt64) (4327959241903046656 : UInt64))) (FP.dmul (FP.dmul (4327959241903046656 : UInt64) (4327959241903046656 : UInt64)) (FP.dmul (4327959241903046656 : UInt64) (4327959241903046656 : UInt64)))))), .second, .unset, .unset, .unset, .unset, .unset, .unset] [(.double (4697254411347427328 : UInt64)), (.double (FP.dmul (FP.dmul (FP.dmul (FP.dmul (FP.dmul (4327959241903046656 : UInt64) (4327959241903046656 : UInt64)) (FP.dmul (4327959241903046656 : UInt64) (4327959241903046656 : UInt64))) (FP.dmul (FP.dmul (4327959241903046656 : UInt64) (4327959241903046656 : UInt64)) (FP.dmul (4327959241903046656 : UInt64) (4327959241903046656 : UInt64)))) (FP.dmul (FP.dmul (FP.dmul (4327959241903046656 : UInt64) (4327959241903046656 : UInt64)) (FP.dmul (4327959241903046656 : UInt64) (4327959241903046656 : UInt64))) (FP.dmul (FP.dmul (4327959241903046656 : UInt64) (4327959241903046656 : UInt64)) (FP.dmul (4327959241903046656 : UInt64) (4327959241903046656 : UInt64))))) (4327959241903046656 : UInt64)))])) _
    refine XS.ddivS X0.here hx rfl (hb hby at_80) rfl own_const_80 rfl ?_
    show Steps p.tables e below (s₁.setTop (mkF m 81 #[.val (.int p0), .val (.long q1), .second, .val (.long fr), .second, .val (.long fr), .second, .val (.double (4327959241903046656 : UInt64)), .second, .val (.double (FP.dmul (FP.dmul (FP.dmul (FP.dmul (4327959241903046656 : UInt64) (4327959241903046656 : UInt64)) (FP.dmul (4327959241903046656 : UInt64) (4327959241903046656 : UInt64))) (FP.dmul (FP.dmul (4327959241903046656 : UInt64) (4327959241903046656 : UInt64)) (FP.dmul (4327959241903046656 : UInt64) (4327959241903046656 : UInt64)))) (FP.dmul (FP.dmul (FP.dmul (4327959241903046656 : UInt64) (4327959241903046656 : UInt64)) (FP.dmul (4327959241903046656 : UInt64) (4327959241903046656 : UInt64))) (FP.dmul (FP.dmul (4327959241903046656 : UInt64) (4327959241903046656 : UInt64)) (FP.dmul (4327959241903046656 : UInt64) (4327959241903046656 : UInt64)))))), .second, .unset, .unset, .unset, .unset, .unset, .unset] [(.double (FP.ddiv (FP.dmul (FP.dmul (FP.dmul (FP.dmul (FP.dmul (4327959241903046656 : UInt64) (4327959241903046656 : UInt64)) (FP.dmul (4327959241903046656 : UInt64) (4327959241903046656 : UInt64))) (FP.dmul (FP.dmul (4327959241903046656 : UInt64) (4327959241903046656 : UInt64)) (FP.dmul (4327959241903046656 : UInt64) (4327959241903046656 : UInt64)))) (FP.dmul (FP.dmul (FP.dmul (4327959241903046656 : UInt64) (4327959241903046656 : UInt64)) (FP.dmul (4327959241903046656 : UInt64) (4327959241903046656 : UInt64))) (FP.dmul (FP.dmul (4327959241903046656 : UInt64) (4327959241903046656 : UInt64)) (FP.dmul (4327959241903046656 : UInt64) (4327959241903046656 : UInt64))))) (4327959241903046656 : UInt64)) (4697254411347427328 : UInt64)))])) _
    rw [← hms]
    show Steps p.tables e below (s₁.setTop (mkF m 81 #[.val (.int p0), .val (.long q1), .second, .val (.long fr), .second, .val (.long fr), .second, .val (.double (4327959241903046656 : UInt64)), .second, .val (.double (FP.dmul (FP.dmul (FP.dmul (FP.dmul (4327959241903046656 : UInt64) (4327959241903046656 : UInt64)) (FP.dmul (4327959241903046656 : UInt64) (4327959241903046656 : UInt64))) (FP.dmul (FP.dmul (4327959241903046656 : UInt64) (4327959241903046656 : UInt64)) (FP.dmul (4327959241903046656 : UInt64) (4327959241903046656 : UInt64)))) (FP.dmul (FP.dmul (FP.dmul (4327959241903046656 : UInt64) (4327959241903046656 : UInt64)) (FP.dmul (4327959241903046656 : UInt64) (4327959241903046656 : UInt64))) (FP.dmul (FP.dmul (4327959241903046656 : UInt64) (4327959241903046656 : UInt64)) (FP.dmul (4327959241903046656 : UInt64) (4327959241903046656 : UInt64)))))), .second, .unset, .unset, .unset, .unset, .unset, .unset] [(.double ms)])) _
    refine XS.dstore X0.here hx rfl (hb hby at_81) rfl (l' := #[.val (.int p0), .val (.long q1), .second, .val (.long fr), .second, .val (.long fr), .second, .val (.double (4327959241903046656 : UInt64)), .second, .val (.double (FP.dmul (FP.dmul (FP.dmul (FP.dmul (4327959241903046656 : UInt64) (4327959241903046656 : UInt64)) (FP.dmul (4327959241903046656 : UInt64) (4327959241903046656 : UInt64))) (FP.dmul (FP.dmul (4327959241903046656 : UInt64) (4327959241903046656 : UInt64)) (FP.dmul (4327959241903046656 : UInt64) (4327959241903046656 : UInt64)))) (FP.dmul (FP.dmul (FP.dmul (4327959241903046656 : UInt64) (4327959241903046656 : UInt64)) (FP.dmul (4327959241903046656 : UInt64) (4327959241903046656 : UInt64))) (FP.dmul (FP.dmul (4327959241903046656 : UInt64) (4327959241903046656 : UInt64)) (FP.dmul (4327959241903046656 : UInt64) (4327959241903046656 : UInt64)))))), .second, .val (.double ms), .second, .unset, .unset, .unset, .unset]) rfl ?_
    show Steps p.tables e below (s₁.setTop (mkF m 83 #[.val (.int p0), .val (.long q1), .second, .val (.long fr), .second, .val (.long fr), .second, .val (.double (4327959241903046656 : UInt64)), .second, .val (.double (FP.dmul (FP.dmul (FP.dmul (FP.dmul (4327959241903046656 : UInt64) (4327959241903046656 : UInt64)) (FP.dmul (4327959241903046656 : UInt64) (4327959241903046656 : UInt64))) (FP.dmul (FP.dmul (4327959241903046656 : UInt64) (4327959241903046656 : UInt64)) (FP.dmul (4327959241903046656 : UInt64) (4327959241903046656 : UInt64)))) (FP.dmul (FP.dmul (FP.dmul (4327959241903046656 : UInt64) (4327959241903046656 : UInt64)) (FP.dmul (4327959241903046656 : UInt64) (4327959241903046656 : UInt64))) (FP.dmul (FP.dmul (4327959241903046656 : UInt64) (4327959241903046656 : UInt64)) (FP.dmul (4327959241903046656 : UInt64) (4327959241903046656 : UInt64)))))), .second, .val (.double ms), .second, .unset, .unset, .unset, .unset] [])) _
    refine XS.lload X0.here hx rfl (hb hby at_83) rfl ?_
    show Steps p.tables e below (s₁.setTop (mkF m 85 #[.val (.int p0), .val (.long q1), .second, .val (.long fr), .second, .val (.long fr), .second, .val (.double (4327959241903046656 : UInt64)), .second, .val (.double (FP.dmul (FP.dmul (FP.dmul (FP.dmul (4327959241903046656 : UInt64) (4327959241903046656 : UInt64)) (FP.dmul (4327959241903046656 : UInt64) (4327959241903046656 : UInt64))) (FP.dmul (FP.dmul (4327959241903046656 : UInt64) (4327959241903046656 : UInt64)) (FP.dmul (4327959241903046656 : UInt64) (4327959241903046656 : UInt64)))) (FP.dmul (FP.dmul (FP.dmul (4327959241903046656 : UInt64) (4327959241903046656 : UInt64)) (FP.dmul (4327959241903046656 : UInt64) (4327959241903046656 : UInt64))) (FP.dmul (FP.dmul (4327959241903046656 : UInt64) (4327959241903046656 : UInt64)) (FP.dmul (4327959241903046656 : UInt64) (4327959241903046656 : UInt64)))))), .second, .val (.double ms), .second, .unset, .unset, .unset, .unset] [(.long fr)])) _
    refine XS.l2dS X0.here hx rfl (hb hby at_85) rfl rfl ?_
    show Steps p.tables e below (s₁.setTop (mkF m 86 #[.val (.int p0), .val (.long q1), .second, .val (.long fr), .second, .val (.long fr), .second, .val (.double (4327959241903046656 : UInt64)), .second, .val (.double (FP.dmul (FP.dmul (FP.dmul (FP.dmul (4327959241903046656 : UInt64) (4327959241903046656 : UInt64)) (FP.dmul (4327959241903046656 : UInt64) (4327959241903046656 : UInt64))) (FP.dmul (FP.dmul (4327959241903046656 : UInt64) (4327959241903046656 : UInt64)) (FP.dmul (4327959241903046656 : UInt64) (4327959241903046656 : UInt64)))) (FP.dmul (FP.dmul (FP.dmul (4327959241903046656 : UInt64) (4327959241903046656 : UInt64)) (FP.dmul (4327959241903046656 : UInt64) (4327959241903046656 : UInt64))) (FP.dmul (FP.dmul (4327959241903046656 : UInt64) (4327959241903046656 : UInt64)) (FP.dmul (4327959241903046656 : UInt64) (4327959241903046656 : UInt64)))))), .second, .val (.double ms), .second, .unset, .unset, .unset, .unset] [(.double (FP.l2d fr))])) _
    refine XS.dload X0.here hx rfl (hb hby at_86) rfl ?_
    show Steps p.tables e below (s₁.setTop (mkF m 88 #[.val (.int p0), .val (.long q1), .second, .val (.long fr), .second, .val (.long fr), .second, .val (.double (4327959241903046656 : UInt64)), .second, .val (.double (FP.dmul (FP.dmul (FP.dmul (FP.dmul (4327959241903046656 : UInt64) (4327959241903046656 : UInt64)) (FP.dmul (4327959241903046656 : UInt64) (4327959241903046656 : UInt64))) (FP.dmul (FP.dmul (4327959241903046656 : UInt64) (4327959241903046656 : UInt64)) (FP.dmul (4327959241903046656 : UInt64) (4327959241903046656 : UInt64)))) (FP.dmul (FP.dmul (FP.dmul (4327959241903046656 : UInt64) (4327959241903046656 : UInt64)) (FP.dmul (4327959241903046656 : UInt64) (4327959241903046656 : UInt64))) (FP.dmul (FP.dmul (4327959241903046656 : UInt64) (4327959241903046656 : UInt64)) (FP.dmul (4327959241903046656 : UInt64) (4327959241903046656 : UInt64)))))), .second, .val (.double ms), .second, .unset, .unset, .unset, .unset] [(.double ms), (.double (FP.l2d fr))])) _
    refine XS.dmulS X0.here hx rfl (hb hby at_88) rfl n88 rfl ?_
    show Steps p.tables e below (s₁.setTop (mkF m 89 #[.val (.int p0), .val (.long q1), .second, .val (.long fr), .second, .val (.long fr), .second, .val (.double (4327959241903046656 : UInt64)), .second, .val (.double (FP.dmul (FP.dmul (FP.dmul (FP.dmul (4327959241903046656 : UInt64) (4327959241903046656 : UInt64)) (FP.dmul (4327959241903046656 : UInt64) (4327959241903046656 : UInt64))) (FP.dmul (FP.dmul (4327959241903046656 : UInt64) (4327959241903046656 : UInt64)) (FP.dmul (4327959241903046656 : UInt64) (4327959241903046656 : UInt64)))) (FP.dmul (FP.dmul (FP.dmul (4327959241903046656 : UInt64) (4327959241903046656 : UInt64)) (FP.dmul (4327959241903046656 : UInt64) (4327959241903046656 : UInt64))) (FP.dmul (FP.dmul (4327959241903046656 : UInt64) (4327959241903046656 : UInt64)) (FP.dmul (4327959241903046656 : UInt64) (4327959241903046656 : UInt64)))))), .second, .val (.double ms), .second, .unset, .unset, .unset, .unset] [(.double (FP.dmul (FP.l2d fr) ms))])) _
    refine st1 _ ?_
    show Steps p.tables e below (T1.setTop (mkF m 92 #[.val (.int p0), .val (.long q1), .second, .val (.long fr), .second, .val (.long fr), .second, .val (.double (4327959241903046656 : UInt64)), .second, .val (.double (FP.dmul (FP.dmul (FP.dmul (FP.dmul (4327959241903046656 : UInt64) (4327959241903046656 : UInt64)) (FP.dmul (4327959241903046656 : UInt64) (4327959241903046656 : UInt64))) (FP.dmul (FP.dmul (4327959241903046656 : UInt64) (4327959241903046656 : UInt64)) (FP.dmul (4327959241903046656 : UInt64) (4327959241903046656 : UInt64)))) (FP.dmul (FP.dmul (FP.dmul (4327959241903046656 : UInt64) (4327959241903046656 : UInt64)) (FP.dmul (4327959241903046656 : UInt64) (4327959241903046656 : UInt64))) (FP.dmul (FP.dmul (4327959241903046656 : UInt64) (4327959241903046656 : UInt64)) (FP.dmul (4327959241903046656 : UInt64) (4327959241903046656 : UInt64)))))), .second, .val (.double ms), .second, .unset, .unset, .unset, .unset] [(.int (own_f10 (-1074 : Int32)))])) _
    refine XS.sipush X1.here hx rfl (hb hby at_92) ?_
    show Steps p.tables e below (T1.setTop (mkF m 95 #[.val (.int p0), .val (.long q1), .second, .val (.long fr), .second, .val (.long fr), .second, .val (.double (4327959241903046656 : UInt64)), .second, .val (.double (FP.dmul (FP.dmul (FP.dmul (FP.dmul (4327959241903046656 : UInt64) (4327959241903046656 : UInt64)) (FP.dmul (4327959241903046656 : UInt64) (4327959241903046656 : UInt64))) (FP.dmul (FP.dmul (4327959241903046656 : UInt64) (4327959241903046656 : UInt64)) (FP.dmul (4327959241903046656 : UInt64) (4327959241903046656 : UInt64)))) (FP.dmul (FP.dmul (FP.dmul (4327959241903046656 : UInt64) (4327959241903046656 : UInt64)) (FP.dmul (4327959241903046656 : UInt64) (4327959241903046656 : UInt64))) (FP.dmul (FP.dmul (4327959241903046656 : UInt64) (4327959241903046656 : UInt64)) (FP.dmul (4327959241903046656 : UInt64) (4327959241903046656 : UInt64)))))), .second, .val (.double ms), .second, .unset, .unset, .unset, .unset] [(.int (-324 : Int32)), (.int (own_f10 (-1074 : Int32)))])) _
    refine XS.icmpNo X1.here hx rfl (hb hby at_95) rfl b95 ?_
    show Steps p.tables e below (T1.setTop (mkF m 98 #[.val (.int p0), .val (.long q1), .second, .val (.long fr), .second, .val (.long fr), .second, .val (.double (4327959241903046656 : UInt64)), .second, .val (.double (FP.dmul (FP.dmul (FP.dmul (FP.dmul (4327959241903046656 : UInt64) (4327959241903046656 : UInt64)) (FP.dmul (4327959241903046656 : UInt64) (4327959241903046656 : UInt64))) (FP.dmul (FP.dmul (4327959241903046656 : UInt64) (4327959241903046656 : UInt64)) (FP.dmul (4327959241903046656 : UInt64) (4327959241903046656 : UInt64)))) (FP.dmul (FP.dmul (FP.dmul (4327959241903046656 : UInt64) (4327959241903046656 : UInt64)) (FP.dmul (4327959241903046656 : UInt64) (4327959241903046656 : UInt64))) (FP.dmul (FP.dmul (4327959241903046656 : UInt64) (4327959241903046656 : UInt64)) (FP.dmul (4327959241903046656 : UInt64) (4327959241903046656 : UInt64)))))), .second, .val (.double ms), .second, .unset, .unset, .unset, .unset] [])) _
    refine XS.iconst X1.here hx rfl (hb hby at_98) ?_
    show Steps p.tables e below (T1.setTop (mkF m 99 #[.val (.int p0), .val (.long q1), .second, .val (.long fr), .second, .val (.long fr), .second, .val (.double (4327959241903046656 : UInt64)), .second, .val (.double (FP.dmul (FP.dmul (FP.dmul (FP.dmul (4327959241903046656 : UInt64) (4327959241903046656 : UInt64)) (FP.dmul (4327959241903046656 : UInt64) (4327959241903046656 : UInt64))) (FP.dmul (FP.dmul (4327959241903046656 : UInt64) (4327959241903046656 : UInt64)) (FP.dmul (4327959241903046656 : UInt64) (4327959241903046656 : UInt64)))) (FP.dmul (FP.dmul (FP.dmul (4327959241903046656 : UInt64) (4327959241903046656 : UInt64)) (FP.dmul (4327959241903046656 : UInt64) (4327959241903046656 : UInt64))) (FP.dmul (FP.dmul (4327959241903046656 : UInt64) (4327959241903046656 : UInt64)) (FP.dmul (4327959241903046656 : UInt64) (4327959241903046656 : UInt64)))))), .second, .val (.double ms), .second, .unset, .unset, .unset, .unset] [(.int (1 : Int32))])) _
    refine XS.goto X1.here hx rfl (pc0 := 99) (pc' := 103) rfl (hb hby at_99) (by decide) (by decide) ?_
    show Steps p.tables e below (T1.setTop (mkF m 103 #[.val (.int p0), .val (.long q1), .second, .val (.long fr), .second, .val (.long fr), .second, .val (.double (4327959241903046656 : UInt64)), .second, .val (.double (FP.dmul (FP.dmul (FP.dmul (FP.dmul (4327959241903046656 : UInt64) (4327959241903046656 : UInt64)) (FP.dmul (4327959241903046656 : UInt64) (4327959241903046656 : UInt64))) (FP.dmul (FP.dmul (4327959241903046656 : UInt64) (4327959241903046656 : UInt64)) (FP.dmul (4327959241903046656 : UInt64) (4327959241903046656 : UInt64)))) (FP.dmul (FP.dmul (FP.dmul (4327959241903046656 : UInt64) (4327959241903046656 : UInt64)) (FP.dmul (4327959241903046656 : UInt64) (4327959241903046656 : UInt64))) (FP.dmul (FP.dmul (4327959241903046656 : UInt64) (4327959241903046656 : UInt64)) (FP.dmul (4327959241903046656 : UInt64) (4327959241903046656 : UInt64)))))), .second, .val (.double ms), .second, .unset, .unset, .unset, .unset] [(.int (1 : Int32))])) _
    exact retN X1 hx (t := .boolean) Bd.returns (by simp) (hb hby at_103) hr
  · show QL n0 _ T1.heap _
    exact ⟨rfl, N1⟩
theorem pd_4 : parseMethodDescriptor "(I)J" = some ⟨[.int], some .long⟩ := by decide +kernel
theorem ef_rmA0 (m : MethodId) (x0 : Int32) (x1 : Int64) : entryFrame m #[(.int x0), (.long x1)] maxLocals = mkF m 0 #[.val (.int x0), .val (.long x1), .second, .unset, .unset, .unset, .unset, .unset, .unset, .unset, .unset, .unset, .unset, .unset, .unset, .unset, .unset] [] := by first | (simp [entryFrame, mkF, argsToLocals, Value.category, maxLocals]; done) | rfl
set_option maxRecDepth 65536 in
set_option maxHeartbeats 40000000 in
theorem rmA0 (l : Launch) (Z : State) (a0 : Array Value) (hw : ∀ d ∈ tables_1, d.before a0 Z = true) (ws : List Jvm.Cond)  (p0 : Int32) (q1 : Int64) (fr : Int64) (q : Int32) (pw : UInt64) (va : UInt64) (be : Int32) (kk : Int32) (tt : Int32) (h0 : Heap) (n0 : Nat) (Z0 : n0 ≤ h0.size) 
    (hfr : fr = cond (ifCond.holds .eq (((p0.toUInt32 >>> ((9 : Int32) &&& 31).toUInt32).toInt32) &&& (1 : Int32))) (q1 &&& (4503599627370495 : Int64)) (0 : Int64))
    (b23 : ifCond.holds .ne (((p0.toUInt32 >>> ((7 : Int32) &&& 31).toUInt32).toInt32) &&& (3 : Int32)) = true)
    (hq : q = (((p0 &&& (127 : Int32)) - ((p0 &&& (127 : Int32)) / (115 : Int32)) * (115 : Int32)) - (56 : Int32)))
    (b118 : ifCond.holds .lt q = false)
    (hpw : pw = (FP.l2d ((1 : Int64) <<< (q &&& 0x3f).toInt64)))
    (n147 : NoNaN64 (FP.dmul (FP.l2d ((4503599627370496 : Int64) ||| fr)) pw))
    (hva : va = (FP.dmul (FP.l2d ((4503599627370496 : Int64) ||| fr)) pw))
    (hbe : be = ((va.toInt64.toUInt64 >>> ((52 : Int32) &&& 0x3f).toInt64.toUInt64).toInt64).toInt32)
    (d14 : ifCond.holds .ne be = true)
    (v0 : ifCond.holds .ne (if (va.toInt64 &&& (4503599627370495 : Int64)) > (0 : Int64) then 1 else if (va.toInt64 &&& (4503599627370495 : Int64)) = (0 : Int64) then 0 else -1) = false)
    (v1 : if_icmp.holds .le ((va.toInt64.toUInt64 >>> ((52 : Int32) &&& 0x3f).toInt64.toUInt64).toInt64).toInt32 (1 : Int32) = false)
    (hkk : kk = (own_f34 (((-1074 : Int32) + be) - (1 : Int32))))
    (b160 : ifCond.holds .ne (if fr > (0 : Int64) then 1 else if fr = (0 : Int64) then 0 else -1) = false)
    (htt : tt = ((2 : Int32) - q))
    (b182 : ifCond.holds .gt tt = false)
    (b195 : ifCond.holds .lt kk = false)
    (b202 : if_icmp.holds .le kk (17 : Int32) = true)
    (b215 : ifCond.holds .gt (if (own_p10 kk) > ((3 : Int64) <<< ((-tt) &&& 0x3f).toInt64) then 1 else if (own_p10 kk) = ((3 : Int64) <<< ((-tt) &&& 0x3f).toInt64) then 0 else -1) = false)
    (b228 : ifCond.holds .ge (if ((3 : Int64) <<< ((-tt) &&& 0x3f).toInt64) > (own_p10 (kk + (1 : Int32))) then 1 else if ((3 : Int64) <<< ((-tt) &&& 0x3f).toInt64) = (own_p10 (kk + (1 : Int32))) then 0 else -1) = false) :
    MetFree l x (head1 (Jvm.Cond.code x code maxLocals ret :: ws) room_1) (fun a U => a = #[(.int p0), (.long q1)] ∧ Z.Warmed39 U.vm ∧ U.heap = h0) (fun _ _ _ _ _ => True) (fun _ U o U' => ∃ v L, o = .returned v ∧ QL n0 v U'.heap L ∧ FrameEnd U o U' L 0 0) := by
  refine MetFree.of_bodySF (plainFor_of_name pn_1) hisR ?_
  intro p e s m args below meth c s₁ Bd hml0 hP hK
  obtain ⟨rfl, hZ, hh⟩ := hP
  have hx := Bd.exec
  have hby := Bd.bytes
  have hml : c.maxLocals = 17 := hml0
  have hown : s.vm.findClass "com/example/sundry/sundry/ShortestDecimalUnitPinLaw" = some m.cls := findClass_of_methodNamed Bd.named
  have hnm := (name_of_methodNamed Bd.named Bd.method).1
  have X0 : Stand p l e room_1 s m #[(.int p0), (.long q1)] below meth c s₁ [] 0 0 := Stand.of_body Bd
  have e0 : s₁.heap = h0 := by rw [← hh, Bd.state]; rfl
  have N0 := Fr.nil n0
  have pre0 : ∀ t, Steps p.tables e below (s₁.setTop (mkF m 0 #[.val (.int p0), .val (.long q1), .second, .unset, .unset, .unset, .unset, .unset, .unset, .unset, .unset, .unset, .unset, .unset, .unset, .unset, .unset] [])) t → Steps p.tables e below (s₁.setTop (entryFrame m #[(.int p0), (.long q1)] maxLocals)) t := fun t k => castTop (ef_rmA0 m p0 q1) k
  have pre12 : ∀ t, Steps p.tables e below (s₁.setTop (mkF m 17 #[.val (.int p0), .val (.long q1), .second, .val (.long fr), .second, .unset, .unset, .unset, .unset, .unset, .unset, .unset, .unset, .unset, .unset, .unset, .unset] [])) t → Steps p.tables e below (s₁.setTop (mkF m 12 #[.val (.int p0), .val (.long q1), .second, .val (.long (q1 &&& (4503599627370495 : Int64))), .second, .unset, .unset, .unset, .unset, .unset, .unset, .unset, .unset, .unset, .unset, .unset, .unset] [(.int (((p0.toUInt32 >>> ((9 : Int32) &&& 31).toUInt32).toInt32) &&& (1 : Int32)))])) t := by
    intro t k
    cases hb12 : ifCond.holds .eq (((p0.toUInt32 >>> ((9 : Int32) &&& 31).toUInt32).toInt32) &&& (1 : Int32))
    · rw [hb12] at hfr
      obtain rfl : fr = (0 : Int64) := hfr
      show Steps p.tables e below (s₁.setTop (mkF m 12 #[.val (.int p0), .val (.long q1), .second, .val (.long (q1 &&& (4503599627370495 : Int64))), .second, .unset, .unset, .unset, .unset, .unset, .unset, .unset, .unset, .unset, .unset, .unset, .unset] [(.int (((p0.toUInt32 >>> ((9 : Int32) &&& 31).toUInt32).toInt32) &&& (1 : Int32)))])) _
      refine XS.ifNo X0.here hx rfl (hb hby at_12) rfl hb12 ?_
      show Steps p.tables e below (s₁.setTop (mkF m 15 #[.val (.int p0), .val (.long q1), .second, .val (.long (q1 &&& (4503599627370495 : Int64))), .second, .unset, .unset, .unset, .unset, .unset, .unset, .unset, .unset, .unset, .unset, .unset, .unset] [])) _
      refine XS.lconst X0.here hx rfl (hb hby at_15) ?_
      show Steps p.tables e below (s₁.setTop (mkF m 16 #[.val (.int p0), .val (.long q1), .second, .val (.long (q1 &&& (4503599627370495 : Int64))), .second, .unset, .unset, .unset, .unset, .unset, .unset, .unset, .unset, .unset, .unset, .unset, .unset] [(.long (0 : Int64))])) _
      refine XS.lstoreN X0.here hx rfl (hb hby at_16) rfl (l' := #[.val (.int p0), .val (.long q1), .second, .val (.long (0 : Int64)), .second, .unset, .unset, .unset, .unset, .unset, .unset, .unset, .unset, .unset, .unset, .unset, .unset]) rfl ?_
      show Steps p.tables e below (s₁.setTop (mkF m 17 #[.val (.int p0), .val (.long q1), .second, .val (.long (0 : Int64)), .second, .unset, .unset, .unset, .unset, .unset, .unset, .unset, .unset, .unset, .unset, .unset, .unset] [])) _
      exact k
    · rw [hb12] at hfr
      obtain rfl : fr = (q1 &&& (4503599627370495 : Int64)) := hfr
      show Steps p.tables e below (s₁.setTop (mkF m 12 #[.val (.int p0), .val (.long q1), .second, .val (.long (q1 &&& (4503599627370495 : Int64))), .second, .unset, .unset, .unset, .unset, .unset, .unset, .unset, .unset, .unset, .unset, .unset, .unset] [(.int (((p0.toUInt32 >>> ((9 : Int32) &&& 31).toUInt32).toInt32) &&& (1 : Int32)))])) _
      refine XS.ifYes X0.here hx rfl (pc0 := 12) (pc' := 17) rfl (hb hby at_12) rfl hb12 (by decide) (by decide) ?_
      show Steps p.tables e below (s₁.setTop (mkF m 17 #[.val (.int p0), .val (.long q1), .second, .val (.long (q1 &&& (4503599627370495 : Int64))), .second, .unset, .unset, .unset, .unset, .unset, .unset, .unset, .unset, .unset, .unset, .unset, .unset] [])) _
      exact k
  obtain ⟨_, _, ⟨T1, L1, k1, n1⟩, -, X1, ⟨Lc1, hQ1, l1, y1, z1⟩, st1⟩ := Jvm.LawKit.callS X0 hx (y := (⟨"com/example/sundry/sundry/ShortestDecimal", "unit", "(D)I"⟩ : MethodName)) hown (mvT hZ (hw _ (List.mem_of_getElem? (i := 3) rfl))) (mvT hZ (hw _ (List.mem_of_getElem? (i := 4) rfl))) (mvT hZ (hw _ (List.mem_of_getElem? (i := 5) rfl))) (mvT hZ (hw _ (List.mem_of_getElem? (i := 6) rfl))) (by decide) (backOf (W := 0) (rmD2 l Z a0 hw [] va be h0 n0 Z0 hbe d14 v0 v1 (by decide)) hZ (hw _ (List.mem_of_getElem? (i := 6) rfl)) (hw _ (List.mem_of_getElem? (i := 5) rfl)) (by decide) (by decide)) (g := (mkF m 152 #[.val (.int p0), .val (.long q1), .second, .val (.long fr), .second, .val (.int q), .val (.double pw), .second, .val (.double va), .second, .unset, .unset, .unset, .unset, .unset, .unset, .unset] [(.double va)])) rfl (by rw [hml]; rfl) (argsL := [(.double va)]) (rest := []) (lenOf pd_3 rfl) rfl (by show 2 * 0 + _ ≤ _; exact Nat.le_of_eq rfl) (hb hby at_152) (fun _ _ => ⟨rfl, e0, (by decide : 0 + 0 ≤ _), (by decide : 0 + 0 ≤ _)⟩)
  dsimp only [Pt.U, Pt.locs, Pt.cells, Pt.slots] at X1 l1 y1 z1 st1 hQ1
  subst l1 y1 z1
  obtain ⟨rfl, N1a, e1⟩ := hQ1
  have N1 := Fr.app N0 N1a
  obtain ⟨_, _, ⟨T2, L2, k2, n2⟩, -, X2, ⟨Lc2, hQ2, l2, y2, z2⟩, st2⟩ := Jvm.LawKit.callS X1 hx (y := (⟨"com/example/sundry/sundry/ShortestDecimalUnitPinLaw", "pow10", "(I)J"⟩ : MethodName)) hown (mvT hZ (hw _ (List.mem_of_getElem? (i := 24) rfl))) (mvT hZ (hw _ (List.mem_of_getElem? (i := 25) rfl))) (mvT hZ (hw _ (List.mem_of_getElem? (i := 26) rfl))) (mvT hZ (hw _ (List.mem_of_getElem? (i := 27) rfl))) (by decide) (backOf (W := 0) (rmP l Z a0 hw [] kk h0 n0 Z0) hZ (hw _ (List.mem_of_getElem? (i := 27) rfl)) (hw _ (List.mem_of_getElem? (i := 26) rfl)) (by decide) (by decide)) (g := (mkF m 209 #[.val (.int p0), .val (.long q1), .second, .val (.long fr), .second, .val (.int q), .val (.double pw), .second, .val (.double va), .second, .val (.int kk), .val (.long (3 : Int64)), .second, .val (.int tt), .val (.long ((3 : Int64) <<< ((-tt) &&& 0x3f).toInt64)), .second, .unset] [(.int kk)])) rfl (by rw [hml]; rfl) (argsL := [(.int kk)]) (rest := []) (lenOf pd_4 rfl) rfl (by show 2 * 0 + _ ≤ _; exact Nat.le_of_eq rfl) (hb hby at_209) (fun _ _ => ⟨rfl, e1, (by decide : 0 + 0 ≤ _), (by decide : 0 + 0 ≤ _)⟩)
  dsimp only [Pt.U, Pt.locs, Pt.cells, Pt.slots] at X2 l2 y2 z2 st2 hQ2
  subst l2 y2 z2
  obtain ⟨rfl, N2a, e2⟩ := hQ2
  have N2 := Fr.app N1 N2a
  obtain ⟨_, _, ⟨T3, L3, k3, n3⟩, -, X3, ⟨Lc3, hQ3, l3, y3, z3⟩, st3⟩ := Jvm.LawKit.callS X2 hx (y := (⟨"com/example/sundry/sundry/ShortestDecimalUnitPinLaw", "pow10", "(I)J"⟩ : MethodName)) hown (mvT hZ (hw _ (List.mem_of_getElem? (i := 24) rfl))) (mvT hZ (hw _ (List.mem_of_getElem? (i := 25) rfl))) (mvT hZ (hw _ (List.mem_of_getElem? (i := 26) rfl))) (mvT hZ (hw _ (List.mem_of_getElem? (i := 27) rfl))) (by decide) (backOf (W := 2) (rmP l Z a0 hw [] (kk + (1 : Int32)) h0 n0 Z0) hZ (hw _ (List.mem_of_getElem? (i := 27) rfl)) (hw _ (List.mem_of_getElem? (i := 26) rfl)) (by decide) (by decide)) (g := (mkF m 224 #[.val (.int p0), .val (.long q1), .second, .val (.long fr), .second, .val (.int q), .val (.double pw), .second, .val (.double va), .second, .val (.int kk), .val (.long (3 : Int64)), .second, .val (.int tt), .val (.long ((3 : Int64) <<< ((-tt) &&& 0x3f).toInt64)), .second, .unset] [(.int (kk + (1 : Int32))), (.long ((3 : Int64) <<< ((-tt) &&& 0x3f).toInt64))])) rfl (by rw [hml]; rfl) (argsL := [(.int (kk + (1 : Int32)))]) (rest := [(.long ((3 : Int64) <<< ((-tt) &&& 0x3f).toInt64))]) (lenOf pd_4 rfl) rfl (by show 2 * 0 + _ ≤ _; exact Nat.le_of_eq rfl) (hb hby at_224) (fun _ _ => ⟨rfl, e2, (by decide : 0 + 0 ≤ _), (by decide : 0 + 0 ≤ _)⟩)
  dsimp only [Pt.U, Pt.locs, Pt.cells, Pt.slots] at X3 l3 y3 z3 st3 hQ3
  subst l3 y3 z3
  obtain ⟨rfl, N3a, e3⟩ := hQ3
  have N3 := Fr.app N2 N3a
  obtain ⟨fs, hr, hrun, hended, hW, hsame⟩ := X3.leave (v := some (.int (1 : Int32))) (fun h => by rw [Bd.returns] at h; cases h)
  refine ⟨_, _, pre0 _ ?_, hrun, hended, _, _, rfl, ?_, ⟨_, rfl⟩, hW, hsame.mono (Nat.le_of_ble_eq_true rfl) (Nat.le_of_ble_eq_true rfl)⟩
  · show Steps p.tables e below (s₁.setTop (mkF m 0 #[.val (.int p0), .val (.long q1), .second, .unset, .unset, .unset, .unset, .unset, .unset, .unset, .unset, .unset, .unset, .unset, .unset, .unset, .unset] [])) _
    refine XS.lloadN X0.here hx rfl (hb hby at_0) rfl ?_
    show Steps p.tables e below (s₁.setTop (mkF m 1 #[.val (.int p0), .val (.long q1), .second, .unset, .unset, .unset, .unset, .unset, .unset, .unset, .unset, .unset, .unset, .unset, .unset, .unset, .unset] [(.long q1)])) _
    refine X0.ldc2Long hx hown (mvT hZ (hw _ (List.mem_of_getElem? (i := 0) rfl))) (g := (mkF m 1 #[.val (.int p0), .val (.long q1), .second, .unset, .unset, .unset, .unset, .unset, .unset, .unset, .unset, .unset, .unset, .unset, .unset, .unset, .unset] [(.long q1)])) rfl (hb hby at_1) _ ?_
    show Steps p.tables e below (s₁.setTop (mkF m 4 #[.val (.int p0), .val (.long q1), .second, .unset, .unset, .unset, .unset, .unset, .unset, .unset, .unset, .unset, .unset, .unset, .unset, .unset, .unset] [(.long (4503599627370495 : Int64)), (.long q1)])) _
    refine XS.land X0.here hx rfl (hb hby at_4) rfl ?_
    show Steps p.tables e below (s₁.setTop (mkF m 5 #[.val (.int p0), .val (.long q1), .second, .unset, .unset, .unset, .unset, .unset, .unset, .unset, .unset, .unset, .unset, .unset, .unset, .unset, .unset] [(.long (q1 &&& (4503599627370495 : Int64)))])) _
    refine XS.lstoreN X0.here hx rfl (hb hby at_5) rfl (l' := #[.val (.int p0), .val (.long q1), .second, .val (.long (q1 &&& (4503599627370495 : Int64))), .second, .unset, .unset, .unset, .unset, .unset, .unset, .unset, .unset, .unset, .unset, .unset, .unset]) rfl ?_
    show Steps p.tables e below (s₁.setTop (mkF m 6 #[.val (.int p0), .val (.long q1), .second, .val (.long (q1 &&& (4503599627370495 : Int64))), .second, .unset, .unset, .unset, .unset, .unset, .unset, .unset, .unset, .unset, .unset, .unset, .unset] [])) _
    refine XS.iloadN X0.here hx rfl (hb hby at_6) rfl ?_
    show Steps p.tables e below (s₁.setTop (mkF m 7 #[.val (.int p0), .val (.long q1), .second, .val (.long (q1 &&& (4503599627370495 : Int64))), .second, .unset, .unset, .unset, .unset, .unset, .unset, .unset, .unset, .unset, .unset, .unset, .unset] [(.int p0)])) _
    refine XS.bipush X0.here hx rfl (hb hby at_7) ?_
    show Steps p.tables e below (s₁.setTop (mkF m 9 #[.val (.int p0), .val (.long q1), .second, .val (.long (q1 &&& (4503599627370495 : Int64))), .second, .unset, .unset, .unset, .unset, .unset, .unset, .unset, .unset, .unset, .unset, .unset, .unset] [(.int (9 : Int32)), (.int p0)])) _
    refine XS.iushr X0.here hx rfl (hb hby at_9) rfl ?_
    show Steps p.tables e below (s₁.setTop (mkF m 10 #[.val (.int p0), .val (.long q1), .second, .val (.long (q1 &&& (4503599627370495 : Int64))), .second, .unset, .unset, .unset, .unset, .unset, .unset, .unset, .unset, .unset, .unset, .unset, .unset] [(.int ((p0.toUInt32 >>> ((9 : Int32) &&& 31).toUInt32).toInt32))])) _
    refine XS.iconst X0.here hx rfl (hb hby at_10) ?_
    show Steps p.tables e below (s₁.setTop (mkF m 11 #[.val (.int p0), .val (.long q1), .second, .val (.long (q1 &&& (4503599627370495 : Int64))), .second, .unset, .unset, .unset, .unset, .unset, .unset, .unset, .unset, .unset, .unset, .unset, .unset] [(.int (1 : Int32)), (.int ((p0.toUInt32 >>> ((9 : Int32) &&& 31).toUInt32).toInt32))])) _
    refine XS.iand X0.here hx rfl (hb hby at_11) rfl ?_
    show Steps p.tables e below (s₁.setTop (mkF m 12 #[.val (.int p0), .val (.long q1), .second, .val (.long (q1 &&& (4503599627370495 : Int64))), .second, .unset, .unset, .unset, .unset, .unset, .unset, .unset, .unset, .unset, .unset, .unset, .unset] [(.int (((p0.toUInt32 >>> ((9 : Int32) &&& 31).toUInt32).toInt32) &&& (1 : Int32)))])) _
    refine pre12 _ ?_
    show Steps p.tables e below (s₁.setTop (mkF m 17 #[.val (.int p0), .val (.long q1), .second, .val (.long fr), .second, .unset, .unset, .unset, .unset, .unset, .unset, .unset, .unset, .unset, .unset, .unset, .unset] [])) _
    refine XS.iloadN X0.here hx rfl (hb hby at_17) rfl ?_
    show Steps p.tables e below (s₁.setTop (mkF m 18 #[.val (.int p0), .val (.long q1), .second, .val (.long fr), .second, .unset, .unset, .unset, .unset, .unset, .unset, .unset, .unset, .unset, .unset, .unset, .unset] [(.int p0)])) _
    refine XS.bipush X0.here hx rfl (hb hby at_18) ?_
    show Steps p.tables e below (s₁.setTop (mkF m 20 #[.val (.int p0), .val (.long q1), .second, .val (.long fr), .second, .unset, .unset, .unset, .unset, .unset, .unset, .unset, .unset, .unset, .unset, .unset, .unset] [(.int (7 : Int32)), (.int p0)])) _
    refine XS.iushr X0.here hx rfl (hb hby at_20) rfl ?_
    show Steps p.tables e below (s₁.setTop (mkF m 21 #[.val (.int p0), .val (.long q1), .second, .val (.long fr), .second, .unset, .unset, .unset, .unset, .unset, .unset, .unset, .unset, .unset, .unset, .unset, .unset] [(.int ((p0.toUInt32 >>> ((7 : Int32) &&& 31).toUInt32).toInt32))])) _
    refine XS.iconst X0.here hx rfl (hb hby at_21) ?_
    show Steps p.tables e below (s₁.setTop (mkF m 22 #[.val (.int p0), .val (.long q1), .second, .val (.long fr), .second, .unset, .unset, .unset, .unset, .unset, .unset, .unset, .unset, .unset, .unset, .unset, .unset] [(.int (3 : Int32)), (.int ((p0.toUInt32 >>> ((7 : Int32) &&& 31).toUInt32).toInt32))])) _
    refine XS.iand X0.here hx rfl (hb hby at_22) rfl ?_
    show Steps p.tables e below (s₁.setTop (mkF m 23 #[.val (.int p0), .val (.long q1), .second, .val (.long fr), .second, .unset, .unset, .unset, .unset, .unset, .unset, .unset, .unset, .unset, .unset, .unset, .unset] [(.int (((p0.toUInt32 >>> ((7 : Int32) &&& 31).toUInt32).toInt32) &&& (3 : Int32)))])) _
    refine XS.ifYes X0.here hx rfl (pc0 := 23) (pc' := 104) rfl (hb hby at_23) rfl b23 (by decide) (by decide) ?_
    show Steps p.tables e below (s₁.setTop (mkF m 104 #[.val (.int p0), .val (.long q1), .second, .val (.long fr), .second, .unset, .unset, .unset, .unset, .unset, .unset, .unset, .unset, .unset, .unset, .unset, .unset] [])) _
    refine XS.iloadN X0.here hx rfl (hb hby at_104) rfl ?_
    show Steps p.tables e below (s₁.setTop (mkF m 105 #[.val (.int p0), .val (.long q1), .second, .val (.long fr), .second, .unset, .unset, .unset, .unset, .unset, .unset, .unset, .unset, .unset, .unset, .unset, .unset] [(.int p0)])) _
    refine XS.bipush X0.here hx rfl (hb hby at_105) ?_
    show Steps p.tables e below (s₁.setTop (mkF m 107 #[.val (.int p0), .val (.long q1), .second, .val (.long fr), .second, .unset, .unset, .unset, .unset, .unset, .unset, .unset, .unset, .unset, .unset, .unset, .unset] [(.int (127 : Int32)), (.int p0)])) _
    refine XS.iand X0.here hx rfl (hb hby at_107) rfl ?_
    show Steps p.tables e below (s₁.setTop (mkF m 108 #[.val (.int p0), .val (.long q1), .second, .val (.long fr), .second, .unset, .unset, .unset, .unset, .unset, .unset, .unset, .unset, .unset, .unset, .unset, .unset] [(.int (p0 &&& (127 : Int32)))])) _
    refine XS.bipush X0.here hx rfl (hb hby at_108) ?_
    show Steps p.tables e below (s₁.setTop (mkF m 110 #[.val (.int p0), .val (.long q1), .second, .val (.long fr), .second, .unset, .unset, .unset, .unset, .unset, .unset, .unset, .unset, .unset, .unset, .unset, .unset] [(.int (115 : Int32)), (.int (p0 &&& (127 : Int32)))])) _
    refine XS.irem X0.here hx rfl (hb hby at_110) rfl (by decide) ?_
    show Steps p.tables e below (s₁.setTop (mkF m 111 #[.val (.int p0), .val (.long q1), .second, .val (.long fr), .second, .unset, .unset, .unset, .unset, .unset, .unset, .unset, .unset, .unset, .unset, .unset, .unset] [(.int ((p0 &&& (127 : Int32)) - ((p0 &&& (127 : Int32)) / (115 : Int32)) * (115 : Int32)))])) _
    refine XS.bipush X0.here hx rfl (hb hby at_111) ?_
    show Steps p.tables e below (s₁.setTop (mkF m 113 #[.val (.int p0), .val (.long q1), .second, .val (.long fr), .second, .unset, .unset, .unset, .unset, .unset, .unset, .unset, .unset, .unset, .unset, .unset, .unset] [(.int (56 : Int32)), (.int ((p0 &&& (127 : Int32)) - ((p0 &&& (127 : Int32)) / (115 : Int32)) * (115 : Int32)))])) _
    refine XS.isub X0.here hx rfl (hb hby at_113) rfl ?_
    show Steps p.tables e below (s₁.setTop (mkF m 114 #[.val (.int p0), .val (.long q1), .second, .val (.long fr), .second, .unset, .unset, .unset, .unset, .unset, .unset, .unset, .unset, .unset, .unset, .unset, .unset] [(.int (((p0 &&& (127 : Int32)) - ((p0 &&& (127 : Int32)) / (115 : Int32)) * (115 : Int32)) - (56 : Int32)))])) _
    rw [← hq]
    show Steps p.tables e below (s₁.setTop (mkF m 114 #[.val (.int p0), .val (.long q1), .second, .val (.long fr), .second, .unset, .unset, .unset, .unset, .unset, .unset, .unset, .unset, .unset, .unset, .unset, .unset] [(.int q)])) _
    refine XS.istore X0.here hx rfl (hb hby at_114) rfl (l' := #[.val (.int p0), .val (.long q1), .second, .val (.long fr), .second, .val (.int q), .unset, .unset, .unset, .unset, .unset, .unset, .unset, .unset, .unset, .unset, .unset]) rfl ?_
    show Steps p.tables e below (s₁.setTop (mkF m 116 #[.val (.int p0), .val (.long q1), .second, .val (.long fr), .second, .val (.int q), .unset, .unset, .unset, .unset, .unset, .unset, .unset, .unset, .unset, .unset, .unset] [])) _
    refine XS.iload X0.here hx rfl (hb hby at_116) rfl ?_
    show Steps p.tables e below (s₁.setTop (mkF m 118 #[.val (.int p0), .val (.long q1), .second, .val (.long fr), .second, .val (.int q), .unset, .unset, .unset, .unset, .unset, .unset, .unset, .unset, .unset, .unset, .unset] [(.int q)])) _
    refine XS.ifNo X0.here hx rfl (hb hby at_118) rfl b118 ?_
    show Steps p.tables e below (s₁.setTop (mkF m 121 #[.val (.int p0), .val (.long q1), .second, .val (.long fr), .second, .val (.int q), .unset, .unset, .unset, .unset, .unset, .unset, .unset, .unset, .unset, .unset, .unset] [])) _
    refine XS.lconst X0.here hx rfl (hb hby at_121) ?_
    show Steps p.tables e below (s₁.setTop (mkF m 122 #[.val (.int p0), .val (.long q1), .second, .val (.long fr), .second, .val (.int q), .unset, .unset, .unset, .unset, .unset, .unset, .unset, .unset, .unset, .unset, .unset] [(.long (1 : Int64))])) _
    refine XS.iload X0.here hx rfl (hb hby at_122) rfl ?_
    show Steps p.tables e below (s₁.setTop (mkF m 124 #[.val (.int p0), .val (.long q1), .second, .val (.long fr), .second, .val (.int q), .unset, .unset, .unset, .unset, .unset, .unset, .unset, .unset, .unset, .unset, .unset] [(.int q), (.long (1 : Int64))])) _
    refine XS.lshl X0.here hx rfl (hb hby at_124) rfl ?_
    show Steps p.tables e below (s₁.setTop (mkF m 125 #[.val (.int p0), .val (.long q1), .second, .val (.long fr), .second, .val (.int q), .unset, .unset, .unset, .unset, .unset, .unset, .unset, .unset, .unset, .unset, .unset] [(.long ((1 : Int64) <<< (q &&& 0x3f).toInt64))])) _
    refine XS.l2dS X0.here hx rfl (hb hby at_125) rfl rfl ?_
    show Steps p.tables e below (s₁.setTop (mkF m 126 #[.val (.int p0), .val (.long q1), .second, .val (.long fr), .second, .val (.int q), .unset, .unset, .unset, .unset, .unset, .unset, .unset, .unset, .unset, .unset, .unset] [(.double (FP.l2d ((1 : Int64) <<< (q &&& 0x3f).toInt64)))])) _
    refine XS.goto X0.here hx rfl (pc0 := 126) (pc' := 137) rfl (hb hby at_126) (by decide) (by decide) ?_
    show Steps p.tables e below (s₁.setTop (mkF m 137 #[.val (.int p0), .val (.long q1), .second, .val (.long fr), .second, .val (.int q), .unset, .unset, .unset, .unset, .unset, .unset, .unset, .unset, .unset, .unset, .unset] [(.double (FP.l2d ((1 : Int64) <<< (q &&& 0x3f).toInt64)))])) _
    rw [← hpw]
    show Steps p.tables e below (s₁.setTop (mkF m 137 #[.val (.int p0), .val (.long q1), .second, .val (.long fr), .second, .val (.int q), .unset, .unset, .unset, .unset, .unset, .unset, .unset, .unset, .unset, .unset, .unset] [(.double pw)])) _
    refine XS.dstore X0.here hx rfl (hb hby at_137) rfl (l' := #[.val (.int p0), .val (.long q1), .second, .val (.long fr), .second, .val (.int q), .val (.double pw), .second, .unset, .unset, .unset, .unset, .unset, .unset, .unset, .unset, .unset]) rfl ?_
    show Steps p.tables e below (s₁.setTop (mkF m 139 #[.val (.int p0), .val (.long q1), .second, .val (.long fr), .second, .val (.int q), .val (.double pw), .second, .unset, .unset, .unset, .unset, .unset, .unset, .unset, .unset, .unset] [])) _
    refine X0.ldc2Long hx hown (mvT hZ (hw _ (List.mem_of_getElem? (i := 18) rfl))) (g := (mkF m 139 #[.val (.int p0), .val (.long q1), .second, .val (.long fr), .second, .val (.int q), .val (.double pw), .second, .unset, .unset, .unset, .unset, .unset, .unset, .unset, .unset, .unset] [])) rfl (hb hby at_139) _ ?_
    show Steps p.tables e below (s₁.setTop (mkF m 142 #[.val (.int p0), .val (.long q1), .second, .val (.long fr), .second, .val (.int q), .val (.double pw), .second, .unset, .unset, .unset, .unset, .unset, .unset, .unset, .unset, .unset] [(.long (4503599627370496 : Int64))])) _
    refine XS.lloadN X0.here hx rfl (hb hby at_142) rfl ?_
    show Steps p.tables e below (s₁.setTop (mkF m 143 #[.val (.int p0), .val (.long q1), .second, .val (.long fr), .second, .val (.int q), .val (.double pw), .second, .unset, .unset, .unset, .unset, .unset, .unset, .unset, .unset, .unset] [(.long fr), (.long (4503599627370496 : Int64))])) _
    refine XS.lor X0.here hx rfl (hb hby at_143) rfl ?_
    show Steps p.tables e below (s₁.setTop (mkF m 144 #[.val (.int p0), .val (.long q1), .second, .val (.long fr), .second, .val (.int q), .val (.double pw), .second, .unset, .unset, .unset, .unset, .unset, .unset, .unset, .unset, .unset] [(.long ((4503599627370496 : Int64) ||| fr))])) _
    refine XS.l2dS X0.here hx rfl (hb hby at_144) rfl rfl ?_
    show Steps p.tables e below (s₁.setTop (mkF m 145 #[.val (.int p0), .val (.long q1), .second, .val (.long fr), .second, .val (.int q), .val (.double pw), .second, .unset, .unset, .unset, .unset, .unset, .unset, .unset, .unset, .unset] [(.double (FP.l2d ((4503599627370496 : Int64) ||| fr)))])) _
    refine XS.dload X0.here hx rfl (hb hby at_145) rfl ?_
    show Steps p.tables e below (s₁.setTop (mkF m 147 #[.val (.int p0), .val (.long q1), .second, .val (.long fr), .second, .val (.int q), .val (.double pw), .second, .unset, .unset, .unset, .unset, .unset, .unset, .unset, .unset, .unset] [(.double pw), (.double (FP.l2d ((4503599627370496 : Int64) ||| fr)))])) _
    refine XS.dmulS X0.here hx rfl (hb hby at_147) rfl n147 rfl ?_
    show Steps p.tables e below (s₁.setTop (mkF m 148 #[.val (.int p0), .val (.long q1), .second, .val (.long fr), .second, .val (.int q), .val (.double pw), .second, .unset, .unset, .unset, .unset, .unset, .unset, .unset, .unset, .unset] [(.double (FP.dmul (FP.l2d ((4503599627370496 : Int64) ||| fr)) pw))])) _
    rw [← hva]
    show Steps p.tables e below (s₁.setTop (mkF m 148 #[.val (.int p0), .val (.long q1), .second, .val (.long fr), .second, .val (.int q), .val (.double pw), .second, .unset, .unset, .unset, .unset, .unset, .unset, .unset, .unset, .unset] [(.double va)])) _
    refine XS.dstore X0.here hx rfl (hb hby at_148) rfl (l' := #[.val (.int p0), .val (.long q1), .second, .val (.long fr), .second, .val (.int q), .val (.double pw), .second, .val (.double va), .second, .unset, .unset, .unset, .unset, .unset, .unset, .unset]) rfl ?_
    show Steps p.tables e below (s₁.setTop (mkF m 150 #[.val (.int p0), .val (.long q1), .second, .val (.long fr), .second, .val (.int q), .val (.double pw), .second, .val (.double va), .second, .unset, .unset, .unset, .unset, .unset, .unset, .unset] [])) _
    refine XS.dload X0.here hx rfl (hb hby at_150) rfl ?_
    show Steps p.tables e below (s₁.setTop (mkF m 152 #[.val (.int p0), .val (.long q1), .second, .val (.long fr), .second, .val (.int q), .val (.double pw), .second, .val (.double va), .second, .unset, .unset, .unset, .unset, .unset, .unset, .unset] [(.double va)])) _
    refine st1 _ ?_
    show Steps p.tables e below (T1.setTop (mkF m 155 #[.val (.int p0), .val (.long q1), .second, .val (.long fr), .second, .val (.int q), .val (.double pw), .second, .val (.double va), .second, .unset, .unset, .unset, .unset, .unset, .unset, .unset] [(.int (own_f34 (((-1074 : Int32) + be) - (1 : Int32))))])) _
    rw [← hkk]
    show Steps p.tables e below (T1.setTop (mkF m 155 #[.val (.int p0), .val (.long q1), .second, .val (.long fr), .second, .val (.int q), .val (.double pw), .second, .val (.double va), .second, .unset, .unset, .unset, .unset, .unset, .unset, .unset] [(.int kk)])) _
    refine XS.istore X1.here hx rfl (hb hby at_155) rfl (l' := #[.val (.int p0), .val (.long q1), .second, .val (.long fr), .second, .val (.int q), .val (.double pw), .second, .val (.double va), .second, .val (.int kk), .unset, .unset, .unset, .unset, .unset, .unset]) rfl ?_
    show Steps p.tables e below (T1.setTop (mkF m 157 #[.val (.int p0), .val (.long q1), .second, .val (.long fr), .second, .val (.int q), .val (.double pw), .second, .val (.double va), .second, .val (.int kk), .unset, .unset, .unset, .unset, .unset, .unset] [])) _
    refine XS.lloadN X1.here hx rfl (hb hby at_157) rfl ?_
    show Steps p.tables e below (T1.setTop (mkF m 158 #[.val (.int p0), .val (.long q1), .second, .val (.long fr), .second, .val (.int q), .val (.double pw), .second, .val (.double va), .second, .val (.int kk), .unset, .unset, .unset, .unset, .unset, .unset] [(.long fr)])) _
    refine XS.lconst X1.here hx rfl (hb hby at_158) ?_
    show Steps p.tables e below (T1.setTop (mkF m 159 #[.val (.int p0), .val (.long q1), .second, .val (.long fr), .second, .val (.int q), .val (.double pw), .second, .val (.double va), .second, .val (.int kk), .unset, .unset, .unset, .unset, .unset, .unset] [(.long (0 : Int64)), (.long fr)])) _
    refine XS.lcmp X1.here hx rfl (hb hby at_159) rfl ?_
    show Steps p.tables e below (T1.setTop (mkF m 160 #[.val (.int p0), .val (.long q1), .second, .val (.long fr), .second, .val (.int q), .val (.double pw), .second, .val (.double va), .second, .val (.int kk), .unset, .unset, .unset, .unset, .unset, .unset] [(.int (if fr > (0 : Int64) then 1 else if fr = (0 : Int64) then 0 else -1))])) _
    refine XS.ifNo X1.here hx rfl (hb hby at_160) rfl b160 ?_
    show Steps p.tables e below (T1.setTop (mkF m 163 #[.val (.int p0), .val (.long q1), .second, .val (.long fr), .second, .val (.int q), .val (.double pw), .second, .val (.double va), .second, .val (.int kk), .unset, .unset, .unset, .unset, .unset, .unset] [])) _
    refine X1.ldc2Long hx hown (mvT hZ (hw _ (List.mem_of_getElem? (i := 34) rfl))) (g := (mkF m 163 #[.val (.int p0), .val (.long q1), .second, .val (.long fr), .second, .val (.int q), .val (.double pw), .second, .val (.double va), .second, .val (.int kk), .unset, .unset, .unset, .unset, .unset, .unset] [])) rfl (hb hby at_163) _ ?_
    show Steps p.tables e below (T1.setTop (mkF m 166 #[.val (.int p0), .val (.long q1), .second, .val (.long fr), .second, .val (.int q), .val (.double pw), .second, .val (.double va), .second, .val (.int kk), .unset, .unset, .unset, .unset, .unset, .unset] [(.long (3 : Int64))])) _
    refine XS.goto X1.here hx rfl (pc0 := 166) (pc' := 172) rfl (hb hby at_166) (by decide) (by decide) ?_
    show Steps p.tables e below (T1.setTop (mkF m 172 #[.val (.int p0), .val (.long q1), .second, .val (.long fr), .second, .val (.int q), .val (.double pw), .second, .val (.double va), .second, .val (.int kk), .unset, .unset, .unset, .unset, .unset, .unset] [(.long (3 : Int64))])) _
    refine XS.lstore X1.here hx rfl (hb hby at_172) rfl (l' := #[.val (.int p0), .val (.long q1), .second, .val (.long fr), .second, .val (.int q), .val (.double pw), .second, .val (.double va), .second, .val (.int kk), .val (.long (3 : Int64)), .second, .unset, .unset, .unset, .unset]) rfl ?_
    show Steps p.tables e below (T1.setTop (mkF m 174 #[.val (.int p0), .val (.long q1), .second, .val (.long fr), .second, .val (.int q), .val (.double pw), .second, .val (.double va), .second, .val (.int kk), .val (.long (3 : Int64)), .second, .unset, .unset, .unset, .unset] [])) _
    refine XS.iconst X1.here hx rfl (hb hby at_174) ?_
    show Steps p.tables e below (T1.setTop (mkF m 175 #[.val (.int p0), .val (.long q1), .second, .val (.long fr), .second, .val (.int q), .val (.double pw), .second, .val (.double va), .second, .val (.int kk), .val (.long (3 : Int64)), .second, .unset, .unset, .unset, .unset] [(.int (2 : Int32))])) _
    refine XS.iload X1.here hx rfl (hb hby at_175) rfl ?_
    show Steps p.tables e below (T1.setTop (mkF m 177 #[.val (.int p0), .val (.long q1), .second, .val (.long fr), .second, .val (.int q), .val (.double pw), .second, .val (.double va), .second, .val (.int kk), .val (.long (3 : Int64)), .second, .unset, .unset, .unset, .unset] [(.int q), (.int (2 : Int32))])) _
    refine XS.isub X1.here hx rfl (hb hby at_177) rfl ?_
    show Steps p.tables e below (T1.setTop (mkF m 178 #[.val (.int p0), .val (.long q1), .second, .val (.long fr), .second, .val (.int q), .val (.double pw), .second, .val (.double va), .second, .val (.int kk), .val (.long (3 : Int64)), .second, .unset, .unset, .unset, .unset] [(.int ((2 : Int32) - q))])) _
    rw [← htt]
    show Steps p.tables e below (T1.setTop (mkF m 178 #[.val (.int p0), .val (.long q1), .second, .val (.long fr), .second, .val (.int q), .val (.double pw), .second, .val (.double va), .second, .val (.int kk), .val (.long (3 : Int64)), .second, .unset, .unset, .unset, .unset] [(.int tt)])) _
    refine XS.istore X1.here hx rfl (hb hby at_178) rfl (l' := #[.val (.int p0), .val (.long q1), .second, .val (.long fr), .second, .val (.int q), .val (.double pw), .second, .val (.double va), .second, .val (.int kk), .val (.long (3 : Int64)), .second, .val (.int tt), .unset, .unset, .unset]) rfl ?_
    show Steps p.tables e below (T1.setTop (mkF m 180 #[.val (.int p0), .val (.long q1), .second, .val (.long fr), .second, .val (.int q), .val (.double pw), .second, .val (.double va), .second, .val (.int kk), .val (.long (3 : Int64)), .second, .val (.int tt), .unset, .unset, .unset] [])) _
    refine XS.iload X1.here hx rfl (hb hby at_180) rfl ?_
    show Steps p.tables e below (T1.setTop (mkF m 182 #[.val (.int p0), .val (.long q1), .second, .val (.long fr), .second, .val (.int q), .val (.double pw), .second, .val (.double va), .second, .val (.int kk), .val (.long (3 : Int64)), .second, .val (.int tt), .unset, .unset, .unset] [(.int tt)])) _
    refine XS.ifNo X1.here hx rfl (hb hby at_182) rfl b182 ?_
    show Steps p.tables e below (T1.setTop (mkF m 185 #[.val (.int p0), .val (.long q1), .second, .val (.long fr), .second, .val (.int q), .val (.double pw), .second, .val (.double va), .second, .val (.int kk), .val (.long (3 : Int64)), .second, .val (.int tt), .unset, .unset, .unset] [])) _
    refine XS.lload X1.here hx rfl (hb hby at_185) rfl ?_
    show Steps p.tables e below (T1.setTop (mkF m 187 #[.val (.int p0), .val (.long q1), .second, .val (.long fr), .second, .val (.int q), .val (.double pw), .second, .val (.double va), .second, .val (.int kk), .val (.long (3 : Int64)), .second, .val (.int tt), .unset, .unset, .unset] [(.long (3 : Int64))])) _
    refine XS.iload X1.here hx rfl (hb hby at_187) rfl ?_
    show Steps p.tables e below (T1.setTop (mkF m 189 #[.val (.int p0), .val (.long q1), .second, .val (.long fr), .second, .val (.int q), .val (.double pw), .second, .val (.double va), .second, .val (.int kk), .val (.long (3 : Int64)), .second, .val (.int tt), .unset, .unset, .unset] [(.int tt), (.long (3 : Int64))])) _
    refine XS.ineg X1.here hx rfl (hb hby at_189) rfl ?_
    show Steps p.tables e below (T1.setTop (mkF m 190 #[.val (.int p0), .val (.long q1), .second, .val (.long fr), .second, .val (.int q), .val (.double pw), .second, .val (.double va), .second, .val (.int kk), .val (.long (3 : Int64)), .second, .val (.int tt), .unset, .unset, .unset] [(.int (-tt)), (.long (3 : Int64))])) _
    refine XS.lshl X1.here hx rfl (hb hby at_190) rfl ?_
    show Steps p.tables e below (T1.setTop (mkF m 191 #[.val (.int p0), .val (.long q1), .second, .val (.long fr), .second, .val (.int q), .val (.double pw), .second, .val (.double va), .second, .val (.int kk), .val (.long (3 : Int64)), .second, .val (.int tt), .unset, .unset, .unset] [(.long ((3 : Int64) <<< ((-tt) &&& 0x3f).toInt64))])) _
    refine XS.lstore X1.here hx rfl (hb hby at_191) rfl (l' := #[.val (.int p0), .val (.long q1), .second, .val (.long fr), .second, .val (.int q), .val (.double pw), .second, .val (.double va), .second, .val (.int kk), .val (.long (3 : Int64)), .second, .val (.int tt), .val (.long ((3 : Int64) <<< ((-tt) &&& 0x3f).toInt64)), .second, .unset]) rfl ?_
    show Steps p.tables e below (T1.setTop (mkF m 193 #[.val (.int p0), .val (.long q1), .second, .val (.long fr), .second, .val (.int q), .val (.double pw), .second, .val (.double va), .second, .val (.int kk), .val (.long (3 : Int64)), .second, .val (.int tt), .val (.long ((3 : Int64) <<< ((-tt) &&& 0x3f).toInt64)), .second, .unset] [])) _
    refine XS.iload X1.here hx rfl (hb hby at_193) rfl ?_
    show Steps p.tables e below (T1.setTop (mkF m 195 #[.val (.int p0), .val (.long q1), .second, .val (.long fr), .second, .val (.int q), .val (.double pw), .second, .val (.double va), .second, .val (.int kk), .val (.long (3 : Int64)), .second, .val (.int tt), .val (.long ((3 : Int64) <<< ((-tt) &&& 0x3f).toInt64)), .second, .unset] [(.int kk)])) _
    refine XS.ifNo X1.here hx rfl (hb hby at_195) rfl b195 ?_
    show Steps p.tables e below (T1.setTop (mkF m 198 #[.val (.int p0), .val (.long q1), .second, .val (.long fr), .second, .val (.int q), .val (.double pw), .second, .val (.double va), .second, .val (.int kk), .val (.long (3 : Int64)), .second, .val (.int tt), .val (.long ((3 : Int64) <<< ((-tt) &&& 0x3f).toInt64)), .second, .unset] [])) _
    refine XS.iload X1.here hx rfl (hb hby at_198) rfl ?_
    show Steps p.tables e below (T1.setTop (mkF m 200 #[.val (.int p0), .val (.long q1), .second, .val (.long fr), .second, .val (.int q), .val (.double pw), .second, .val (.double va), .second, .val (.int kk), .val (.long (3 : Int64)), .second, .val (.int tt), .val (.long ((3 : Int64) <<< ((-tt) &&& 0x3f).toInt64)), .second, .unset] [(.int kk)])) _
    refine XS.bipush X1.here hx rfl (hb hby at_200) ?_
    show Steps p.tables e below (T1.setTop (mkF m 202 #[.val (.int p0), .val (.long q1), .second, .val (.long fr), .second, .val (.int q), .val (.double pw), .second, .val (.double va), .second, .val (.int kk), .val (.long (3 : Int64)), .second, .val (.int tt), .val (.long ((3 : Int64) <<< ((-tt) &&& 0x3f).toInt64)), .second, .unset] [(.int (17 : Int32)), (.int kk)])) _
    refine XS.icmpYes X1.here hx rfl (pc0 := 202) (pc' := 207) rfl (hb hby at_202) rfl b202 (by decide) (by decide) ?_
    show Steps p.tables e below (T1.setTop (mkF m 207 #[.val (.int p0), .val (.long q1), .second, .val (.long fr), .second, .val (.int q), .val (.double pw), .second, .val (.double va), .second, .val (.int kk), .val (.long (3 : Int64)), .second, .val (.int tt), .val (.long ((3 : Int64) <<< ((-tt) &&& 0x3f).toInt64)), .second, .unset] [])) _
    refine XS.iload X1.here hx rfl (hb hby at_207) rfl ?_
    show Steps p.tables e below (T1.setTop (mkF m 209 #[.val (.int p0), .val (.long q1), .second, .val (.long fr), .second, .val (.int q), .val (.double pw), .second, .val (.double va), .second, .val (.int kk), .val (.long (3 : Int64)), .second, .val (.int tt), .val (.long ((3 : Int64) <<< ((-tt) &&& 0x3f).toInt64)), .second, .unset] [(.int kk)])) _
    refine st2 _ ?_
    show Steps p.tables e below (T2.setTop (mkF m 212 #[.val (.int p0), .val (.long q1), .second, .val (.long fr), .second, .val (.int q), .val (.double pw), .second, .val (.double va), .second, .val (.int kk), .val (.long (3 : Int64)), .second, .val (.int tt), .val (.long ((3 : Int64) <<< ((-tt) &&& 0x3f).toInt64)), .second, .unset] [(.long (own_p10 kk))])) _
    refine XS.lload X2.here hx rfl (hb hby at_212) rfl ?_
    show Steps p.tables e below (T2.setTop (mkF m 214 #[.val (.int p0), .val (.long q1), .second, .val (.long fr), .second, .val (.int q), .val (.double pw), .second, .val (.double va), .second, .val (.int kk), .val (.long (3 : Int64)), .second, .val (.int tt), .val (.long ((3 : Int64) <<< ((-tt) &&& 0x3f).toInt64)), .second, .unset] [(.long ((3 : Int64) <<< ((-tt) &&& 0x3f).toInt64)), (.long (own_p10 kk))])) _
    refine XS.lcmp X2.here hx rfl (hb hby at_214) rfl ?_
    show Steps p.tables e below (T2.setTop (mkF m 215 #[.val (.int p0), .val (.long q1), .second, .val (.long fr), .second, .val (.int q), .val (.double pw), .second, .val (.double va), .second, .val (.int kk), .val (.long (3 : Int64)), .second, .val (.int tt), .val (.long ((3 : Int64) <<< ((-tt) &&& 0x3f).toInt64)), .second, .unset] [(.int (if (own_p10 kk) > ((3 : Int64) <<< ((-tt) &&& 0x3f).toInt64) then 1 else if (own_p10 kk) = ((3 : Int64) <<< ((-tt) &&& 0x3f).toInt64) then 0 else -1))])) _
    refine XS.ifNo X2.here hx rfl (hb hby at_215) rfl b215 ?_
    show Steps p.tables e below (T2.setTop (mkF m 218 #[.val (.int p0), .val (.long q1), .second, .val (.long fr), .second, .val (.int q), .val (.double pw), .second, .val (.double va), .second, .val (.int kk), .val (.long (3 : Int64)), .second, .val (.int tt), .val (.long ((3 : Int64) <<< ((-tt) &&& 0x3f).toInt64)), .second, .unset] [])) _
    refine XS.lload X2.here hx rfl (hb hby at_218) rfl ?_
    show Steps p.tables e below (T2.setTop (mkF m 220 #[.val (.int p0), .val (.long q1), .second, .val (.long fr), .second, .val (.int q), .val (.double pw), .second, .val (.double va), .second, .val (.int kk), .val (.long (3 : Int64)), .second, .val (.int tt), .val (.long ((3 : Int64) <<< ((-tt) &&& 0x3f).toInt64)), .second, .unset] [(.long ((3 : Int64) <<< ((-tt) &&& 0x3f).toInt64))])) _
    refine XS.iload X2.here hx rfl (hb hby at_220) rfl ?_
    show Steps p.tables e below (T2.setTop (mkF m 222 #[.val (.int p0), .val (.long q1), .second, .val (.long fr), .second, .val (.int q), .val (.double pw), .second, .val (.double va), .second, .val (.int kk), .val (.long (3 : Int64)), .second, .val (.int tt), .val (.long ((3 : Int64) <<< ((-tt) &&& 0x3f).toInt64)), .second, .unset] [(.int kk), (.long ((3 : Int64) <<< ((-tt) &&& 0x3f).toInt64))])) _
    refine XS.iconst X2.here hx rfl (hb hby at_222) ?_
    show Steps p.tables e below (T2.setTop (mkF m 223 #[.val (.int p0), .val (.long q1), .second, .val (.long fr), .second, .val (.int q), .val (.double pw), .second, .val (.double va), .second, .val (.int kk), .val (.long (3 : Int64)), .second, .val (.int tt), .val (.long ((3 : Int64) <<< ((-tt) &&& 0x3f).toInt64)), .second, .unset] [(.int (1 : Int32)), (.int kk), (.long ((3 : Int64) <<< ((-tt) &&& 0x3f).toInt64))])) _
    refine XS.iadd X2.here hx rfl (hb hby at_223) rfl ?_
    show Steps p.tables e below (T2.setTop (mkF m 224 #[.val (.int p0), .val (.long q1), .second, .val (.long fr), .second, .val (.int q), .val (.double pw), .second, .val (.double va), .second, .val (.int kk), .val (.long (3 : Int64)), .second, .val (.int tt), .val (.long ((3 : Int64) <<< ((-tt) &&& 0x3f).toInt64)), .second, .unset] [(.int (kk + (1 : Int32))), (.long ((3 : Int64) <<< ((-tt) &&& 0x3f).toInt64))])) _
    refine st3 _ ?_
    show Steps p.tables e below (T3.setTop (mkF m 227 #[.val (.int p0), .val (.long q1), .second, .val (.long fr), .second, .val (.int q), .val (.double pw), .second, .val (.double va), .second, .val (.int kk), .val (.long (3 : Int64)), .second, .val (.int tt), .val (.long ((3 : Int64) <<< ((-tt) &&& 0x3f).toInt64)), .second, .unset] [(.long (own_p10 (kk + (1 : Int32)))), (.long ((3 : Int64) <<< ((-tt) &&& 0x3f).toInt64))])) _
    refine XS.lcmp X3.here hx rfl (hb hby at_227) rfl ?_
    show Steps p.tables e below (T3.setTop (mkF m 228 #[.val (.int p0), .val (.long q1), .second, .val (.long fr), .second, .val (.int q), .val (.double pw), .second, .val (.double va), .second, .val (.int kk), .val (.long (3 : Int64)), .second, .val (.int tt), .val (.long ((3 : Int64) <<< ((-tt) &&& 0x3f).toInt64)), .second, .unset] [(.int (if ((3 : Int64) <<< ((-tt) &&& 0x3f).toInt64) > (own_p10 (kk + (1 : Int32))) then 1 else if ((3 : Int64) <<< ((-tt) &&& 0x3f).toInt64) = (own_p10 (kk + (1 : Int32))) then 0 else -1))])) _
    refine XS.ifNo X3.here hx rfl (hb hby at_228) rfl b228 ?_
    show Steps p.tables e below (T3.setTop (mkF m 231 #[.val (.int p0), .val (.long q1), .second, .val (.long fr), .second, .val (.int q), .val (.double pw), .second, .val (.double va), .second, .val (.int kk), .val (.long (3 : Int64)), .second, .val (.int tt), .val (.long ((3 : Int64) <<< ((-tt) &&& 0x3f).toInt64)), .second, .unset] [])) _
    refine XS.iconst X3.here hx rfl (hb hby at_231) ?_
    show Steps p.tables e below (T3.setTop (mkF m 232 #[.val (.int p0), .val (.long q1), .second, .val (.long fr), .second, .val (.int q), .val (.double pw), .second, .val (.double va), .second, .val (.int kk), .val (.long (3 : Int64)), .second, .val (.int tt), .val (.long ((3 : Int64) <<< ((-tt) &&& 0x3f).toInt64)), .second, .unset] [(.int (1 : Int32))])) _
    refine XS.goto X3.here hx rfl (pc0 := 232) (pc' := 236) rfl (hb hby at_232) (by decide) (by decide) ?_
    show Steps p.tables e below (T3.setTop (mkF m 236 #[.val (.int p0), .val (.long q1), .second, .val (.long fr), .second, .val (.int q), .val (.double pw), .second, .val (.double va), .second, .val (.int kk), .val (.long (3 : Int64)), .second, .val (.int tt), .val (.long ((3 : Int64) <<< ((-tt) &&& 0x3f).toInt64)), .second, .unset] [(.int (1 : Int32))])) _
    exact retN X3 hx (t := .boolean) Bd.returns (by simp) (hb hby at_236) hr
  · show QL n0 _ T3.heap _
    exact ⟨rfl, N3⟩
theorem ef_rmA1 (m : MethodId) (x0 : Int32) (x1 : Int64) : entryFrame m #[(.int x0), (.long x1)] maxLocals = mkF m 0 #[.val (.int x0), .val (.long x1), .second, .unset, .unset, .unset, .unset, .unset, .unset, .unset, .unset, .unset, .unset, .unset, .unset, .unset, .unset] [] := by first | (simp [entryFrame, mkF, argsToLocals, Value.category, maxLocals]; done) | rfl
set_option maxRecDepth 65536 in
set_option maxHeartbeats 40000000 in
theorem rmA1 (l : Launch) (Z : State) (a0 : Array Value) (hw : ∀ d ∈ tables_1, d.before a0 Z = true) (ws : List Jvm.Cond)  (p0 : Int32) (q1 : Int64) (fr : Int64) (q : Int32) (pw : UInt64) (va : UInt64) (be : Int32) (kk : Int32) (tt : Int32) (h0 : Heap) (n0 : Nat) (Z0 : n0 ≤ h0.size) 
    (hfr : fr = cond (ifCond.holds .eq (((p0.toUInt32 >>> ((9 : Int32) &&& 31).toUInt32).toInt32) &&& (1 : Int32))) (q1 &&& (4503599627370495 : Int64)) (0 : Int64))
    (b23 : ifCond.holds .ne (((p0.toUInt32 >>> ((7 : Int32) &&& 31).toUInt32).toInt32) &&& (3 : Int32)) = true)
    (hq : q = (((p0 &&& (127 : Int32)) - ((p0 &&& (127 : Int32)) / (115 : Int32)) * (115 : Int32)) - (56 : Int32)))
    (b118 : ifCond.holds .lt q = false)
    (hpw : pw = (FP.l2d ((1 : Int64) <<< (q &&& 0x3f).toInt64)))
    (n147 : NoNaN64 (FP.dmul (FP.l2d ((4503599627370496 : Int64) ||| fr)) pw))
    (hva : va = (FP.dmul (FP.l2d ((4503599627370496 : Int64) ||| fr)) pw))
    (hbe : be = ((va.toInt64.toUInt64 >>> ((52 : Int32) &&& 0x3f).toInt64.toUInt64).toInt64).toInt32)
    (d14 : ifCond.holds .ne be = true)
    (v0 : ifCond.holds .ne (if (va.toInt64 &&& (4503599627370495 : Int64)) > (0 : Int64) then 1 else if (va.toInt64 &&& (4503599627370495 : Int64)) = (0 : Int64) then 0 else -1) = true)
    (hkk : kk = (own_f10 (((-1074 : Int32) + be) - (1 : Int32))))
    (b160 : ifCond.holds .ne (if fr > (0 : Int64) then 1 else if fr = (0 : Int64) then 0 else -1) = true)
    (htt : tt = ((2 : Int32) - q))
    (b182 : ifCond.holds .gt tt = false)
    (b195 : ifCond.holds .lt kk = false)
    (b202 : if_icmp.holds .le kk (17 : Int32) = true)
    (b215 : ifCond.holds .gt (if (own_p10 kk) > ((4 : Int64) <<< ((-tt) &&& 0x3f).toInt64) then 1 else if (own_p10 kk) = ((4 : Int64) <<< ((-tt) &&& 0x3f).toInt64) then 0 else -1) = false)
    (b228 : ifCond.holds .ge (if ((4 : Int64) <<< ((-tt) &&& 0x3f).toInt64) > (own_p10 (kk + (1 : Int32))) then 1 else if ((4 : Int64) <<< ((-tt) &&& 0x3f).toInt64) = (own_p10 (kk + (1 : Int32))) then 0 else -1) = false) :
    MetFree l x (head1 (Jvm.Cond.code x code maxLocals ret :: ws) room_1) (fun a U => a = #[(.int p0), (.long q1)] ∧ Z.Warmed39 U.vm ∧ U.heap = h0) (fun _ _ _ _ _ => True) (fun _ U o U' => ∃ v L, o = .returned v ∧ QL n0 v U'.heap L ∧ FrameEnd U o U' L 0 0) := by
  refine MetFree.of_bodySF (plainFor_of_name pn_1) hisR ?_
  intro p e s m args below meth c s₁ Bd hml0 hP hK
  obtain ⟨rfl, hZ, hh⟩ := hP
  have hx := Bd.exec
  have hby := Bd.bytes
  have hml : c.maxLocals = 17 := hml0
  have hown : s.vm.findClass "com/example/sundry/sundry/ShortestDecimalUnitPinLaw" = some m.cls := findClass_of_methodNamed Bd.named
  have hnm := (name_of_methodNamed Bd.named Bd.method).1
  have X0 : Stand p l e room_1 s m #[(.int p0), (.long q1)] below meth c s₁ [] 0 0 := Stand.of_body Bd
  have e0 : s₁.heap = h0 := by rw [← hh, Bd.state]; rfl
  have N0 := Fr.nil n0
  have pre0 : ∀ t, Steps p.tables e below (s₁.setTop (mkF m 0 #[.val (.int p0), .val (.long q1), .second, .unset, .unset, .unset, .unset, .unset, .unset, .unset, .unset, .unset, .unset, .unset, .unset, .unset, .unset] [])) t → Steps p.tables e below (s₁.setTop (entryFrame m #[(.int p0), (.long q1)] maxLocals)) t := fun t k => castTop (ef_rmA1 m p0 q1) k
  have pre12 : ∀ t, Steps p.tables e below (s₁.setTop (mkF m 17 #[.val (.int p0), .val (.long q1), .second, .val (.long fr), .second, .unset, .unset, .unset, .unset, .unset, .unset, .unset, .unset, .unset, .unset, .unset, .unset] [])) t → Steps p.tables e below (s₁.setTop (mkF m 12 #[.val (.int p0), .val (.long q1), .second, .val (.long (q1 &&& (4503599627370495 : Int64))), .second, .unset, .unset, .unset, .unset, .unset, .unset, .unset, .unset, .unset, .unset, .unset, .unset] [(.int (((p0.toUInt32 >>> ((9 : Int32) &&& 31).toUInt32).toInt32) &&& (1 : Int32)))])) t := by
    intro t k
    cases hb12 : ifCond.holds .eq (((p0.toUInt32 >>> ((9 : Int32) &&& 31).toUInt32).toInt32) &&& (1 : Int32))
    · rw [hb12] at hfr
      obtain rfl : fr = (0 : Int64) := hfr
      show Steps p.tables e below (s₁.setTop (mkF m 12 #[.val (.int p0), .val (.long q1), .second, .val (.long (q1 &&& (4503599627370495 : Int64))), .second, .unset, .unset, .unset, .unset, .unset, .unset, .unset, .unset, .unset, .unset, .unset, .unset] [(.int (((p0.toUInt32 >>> ((9 : Int32) &&& 31).toUInt32).toInt32) &&& (1 : Int32)))])) _
      refine XS.ifNo X0.here hx rfl (hb hby at_12) rfl hb12 ?_
      show Steps p.tables e below (s₁.setTop (mkF m 15 #[.val (.int p0), .val (.long q1), .second, .val (.long (q1 &&& (4503599627370495 : Int64))), .second, .unset, .unset, .unset, .unset, .unset, .unset, .unset, .unset, .unset, .unset, .unset, .unset] [])) _
      refine XS.lconst X0.here hx rfl (hb hby at_15) ?_
      show Steps p.tables e below (s₁.setTop (mkF m 16 #[.val (.int p0), .val (.long q1), .second, .val (.long (q1 &&& (4503599627370495 : Int64))), .second, .unset, .unset, .unset, .unset, .unset, .unset, .unset, .unset, .unset, .unset, .unset, .unset] [(.long (0 : Int64))])) _
      refine XS.lstoreN X0.here hx rfl (hb hby at_16) rfl (l' := #[.val (.int p0), .val (.long q1), .second, .val (.long (0 : Int64)), .second, .unset, .unset, .unset, .unset, .unset, .unset, .unset, .unset, .unset, .unset, .unset, .unset]) rfl ?_
      show Steps p.tables e below (s₁.setTop (mkF m 17 #[.val (.int p0), .val (.long q1), .second, .val (.long (0 : Int64)), .second, .unset, .unset, .unset, .unset, .unset, .unset, .unset, .unset, .unset, .unset, .unset, .unset] [])) _
      exact k
    · rw [hb12] at hfr
      obtain rfl : fr = (q1 &&& (4503599627370495 : Int64)) := hfr
      show Steps p.tables e below (s₁.setTop (mkF m 12 #[.val (.int p0), .val (.long q1), .second, .val (.long (q1 &&& (4503599627370495 : Int64))), .second, .unset, .unset, .unset, .unset, .unset, .unset, .unset, .unset, .unset, .unset, .unset, .unset] [(.int (((p0.toUInt32 >>> ((9 : Int32) &&& 31).toUInt32).toInt32) &&& (1 : Int32)))])) _
      refine XS.ifYes X0.here hx rfl (pc0 := 12) (pc' := 17) rfl (hb hby at_12) rfl hb12 (by decide) (by decide) ?_
      show Steps p.tables e below (s₁.setTop (mkF m 17 #[.val (.int p0), .val (.long q1), .second, .val (.long (q1 &&& (4503599627370495 : Int64))), .second, .unset, .unset, .unset, .unset, .unset, .unset, .unset, .unset, .unset, .unset, .unset, .unset] [])) _
      exact k
  obtain ⟨_, _, ⟨T1, L1, k1, n1⟩, -, X1, ⟨Lc1, hQ1, l1, y1, z1⟩, st1⟩ := Jvm.LawKit.callS X0 hx (y := (⟨"com/example/sundry/sundry/ShortestDecimal", "unit", "(D)I"⟩ : MethodName)) hown (mvT hZ (hw _ (List.mem_of_getElem? (i := 3) rfl))) (mvT hZ (hw _ (List.mem_of_getElem? (i := 4) rfl))) (mvT hZ (hw _ (List.mem_of_getElem? (i := 5) rfl))) (mvT hZ (hw _ (List.mem_of_getElem? (i := 6) rfl))) (by decide) (backOf (W := 0) (rmD1 l Z a0 hw [] va be h0 n0 Z0 hbe d14 v0 (by decide)) hZ (hw _ (List.mem_of_getElem? (i := 6) rfl)) (hw _ (List.mem_of_getElem? (i := 5) rfl)) (by decide) (by decide)) (g := (mkF m 152 #[.val (.int p0), .val (.long q1), .second, .val (.long fr), .second, .val (.int q), .val (.double pw), .second, .val (.double va), .second, .unset, .unset, .unset, .unset, .unset, .unset, .unset] [(.double va)])) rfl (by rw [hml]; rfl) (argsL := [(.double va)]) (rest := []) (lenOf pd_3 rfl) rfl (by show 2 * 0 + _ ≤ _; exact Nat.le_of_eq rfl) (hb hby at_152) (fun _ _ => ⟨rfl, e0, (by decide : 0 + 0 ≤ _), (by decide : 0 + 0 ≤ _)⟩)
  dsimp only [Pt.U, Pt.locs, Pt.cells, Pt.slots] at X1 l1 y1 z1 st1 hQ1
  subst l1 y1 z1
  obtain ⟨rfl, N1a, e1⟩ := hQ1
  have N1 := Fr.app N0 N1a
  obtain ⟨_, _, ⟨T2, L2, k2, n2⟩, -, X2, ⟨Lc2, hQ2, l2, y2, z2⟩, st2⟩ := Jvm.LawKit.callS X1 hx (y := (⟨"com/example/sundry/sundry/ShortestDecimalUnitPinLaw", "pow10", "(I)J"⟩ : MethodName)) hown (mvT hZ (hw _ (List.mem_of_getElem? (i := 24) rfl))) (mvT hZ (hw _ (List.mem_of_getElem? (i := 25) rfl))) (mvT hZ (hw _ (List.mem_of_getElem? (i := 26) rfl))) (mvT hZ (hw _ (List.mem_of_getElem? (i := 27) rfl))) (by decide) (backOf (W := 0) (rmP l Z a0 hw [] kk h0 n0 Z0) hZ (hw _ (List.mem_of_getElem? (i := 27) rfl)) (hw _ (List.mem_of_getElem? (i := 26) rfl)) (by decide) (by decide)) (g := (mkF m 209 #[.val (.int p0), .val (.long q1), .second, .val (.long fr), .second, .val (.int q), .val (.double pw), .second, .val (.double va), .second, .val (.int kk), .val (.long (4 : Int64)), .second, .val (.int tt), .val (.long ((4 : Int64) <<< ((-tt) &&& 0x3f).toInt64)), .second, .unset] [(.int kk)])) rfl (by rw [hml]; rfl) (argsL := [(.int kk)]) (rest := []) (lenOf pd_4 rfl) rfl (by show 2 * 0 + _ ≤ _; exact Nat.le_of_eq rfl) (hb hby at_209) (fun _ _ => ⟨rfl, e1, (by decide : 0 + 0 ≤ _), (by decide : 0 + 0 ≤ _)⟩)
  dsimp only [Pt.U, Pt.locs, Pt.cells, Pt.slots] at X2 l2 y2 z2 st2 hQ2
  subst l2 y2 z2
  obtain ⟨rfl, N2a, e2⟩ := hQ2
  have N2 := Fr.app N1 N2a
  obtain ⟨_, _, ⟨T3, L3, k3, n3⟩, -, X3, ⟨Lc3, hQ3, l3, y3, z3⟩, st3⟩ := Jvm.LawKit.callS X2 hx (y := (⟨"com/example/sundry/sundry/ShortestDecimalUnitPinLaw", "pow10", "(I)J"⟩ : MethodName)) hown (mvT hZ (hw _ (List.mem_of_getElem? (i := 24) rfl))) (mvT hZ (hw _ (List.mem_of_getElem? (i := 25) rfl))) (mvT hZ (hw _ (List.mem_of_getElem? (i := 26) rfl))) (mvT hZ (hw _ (List.mem_of_getElem? (i := 27) rfl))) (by decide) (backOf (W := 2) (rmP l Z a0 hw [] (kk + (1 : Int32)) h0 n0 Z0) hZ (hw _ (List.mem_of_getElem? (i := 27) rfl)) (hw _ (List.mem_of_getElem? (i := 26) rfl)) (by decide) (by decide)) (g := (mkF m 224 #[.val (.int p0), .val (.long q1), .second, .val (.long fr), .second, .val (.int q), .val (.double pw), .second, .val (.double va), .second, .val (.int kk), .val (.long (4 : Int64)), .second, .val (.int tt), .val (.long ((4 : Int64) <<< ((-tt) &&& 0x3f).toInt64)), .second, .unset] [(.int (kk + (1 : Int32))), (.long ((4 : Int64) <<< ((-tt) &&& 0x3f).toInt64))])) rfl (by rw [hml]; rfl) (argsL := [(.int (kk + (1 : Int32)))]) (rest := [(.long ((4 : Int64) <<< ((-tt) &&& 0x3f).toInt64))]) (lenOf pd_4 rfl) rfl (by show 2 * 0 + _ ≤ _; exact Nat.le_of_eq rfl) (hb hby at_224) (fun _ _ => ⟨rfl, e2, (by decide : 0 + 0 ≤ _), (by decide : 0 + 0 ≤ _)⟩)
  dsimp only [Pt.U, Pt.locs, Pt.cells, Pt.slots] at X3 l3 y3 z3 st3 hQ3
  subst l3 y3 z3
  obtain ⟨rfl, N3a, e3⟩ := hQ3
  have N3 := Fr.app N2 N3a
  obtain ⟨fs, hr, hrun, hended, hW, hsame⟩ := X3.leave (v := some (.int (1 : Int32))) (fun h => by rw [Bd.returns] at h; cases h)
  refine ⟨_, _, pre0 _ ?_, hrun, hended, _, _, rfl, ?_, ⟨_, rfl⟩, hW, hsame.mono (Nat.le_of_ble_eq_true rfl) (Nat.le_of_ble_eq_true rfl)⟩
  · show Steps p.tables e below (s₁.setTop (mkF m 0 #[.val (.int p0), .val (.long q1), .second, .unset, .unset, .unset, .unset, .unset, .unset, .unset, .unset, .unset, .unset, .unset, .unset, .unset, .unset] [])) _
    refine XS.lloadN X0.here hx rfl (hb hby at_0) rfl ?_
    show Steps p.tables e below (s₁.setTop (mkF m 1 #[.val (.int p0), .val (.long q1), .second, .unset, .unset, .unset, .unset, .unset, .unset, .unset, .unset, .unset, .unset, .unset, .unset, .unset, .unset] [(.long q1)])) _
    refine X0.ldc2Long hx hown (mvT hZ (hw _ (List.mem_of_getElem? (i := 0) rfl))) (g := (mkF m 1 #[.val (.int p0), .val (.long q1), .second, .unset, .unset, .unset, .unset, .unset, .unset, .unset, .unset, .unset, .unset, .unset, .unset, .unset, .unset] [(.long q1)])) rfl (hb hby at_1) _ ?_
    show Steps p.tables e below (s₁.setTop (mkF m 4 #[.val (.int p0), .val (.long q1), .second, .unset, .unset, .unset, .unset, .unset, .unset, .unset, .unset, .unset, .unset, .unset, .unset, .unset, .unset] [(.long (4503599627370495 : Int64)), (.long q1)])) _
    refine XS.land X0.here hx rfl (hb hby at_4) rfl ?_
    show Steps p.tables e below (s₁.setTop (mkF m 5 #[.val (.int p0), .val (.long q1), .second, .unset, .unset, .unset, .unset, .unset, .unset, .unset, .unset, .unset, .unset, .unset, .unset, .unset, .unset] [(.long (q1 &&& (4503599627370495 : Int64)))])) _
    refine XS.lstoreN X0.here hx rfl (hb hby at_5) rfl (l' := #[.val (.int p0), .val (.long q1), .second, .val (.long (q1 &&& (4503599627370495 : Int64))), .second, .unset, .unset, .unset, .unset, .unset, .unset, .unset, .unset, .unset, .unset, .unset, .unset]) rfl ?_
    show Steps p.tables e below (s₁.setTop (mkF m 6 #[.val (.int p0), .val (.long q1), .second, .val (.long (q1 &&& (4503599627370495 : Int64))), .second, .unset, .unset, .unset, .unset, .unset, .unset, .unset, .unset, .unset, .unset, .unset, .unset] [])) _
    refine XS.iloadN X0.here hx rfl (hb hby at_6) rfl ?_
    show Steps p.tables e below (s₁.setTop (mkF m 7 #[.val (.int p0), .val (.long q1), .second, .val (.long (q1 &&& (4503599627370495 : Int64))), .second, .unset, .unset, .unset, .unset, .unset, .unset, .unset, .unset, .unset, .unset, .unset, .unset] [(.int p0)])) _
    refine XS.bipush X0.here hx rfl (hb hby at_7) ?_
    show Steps p.tables e below (s₁.setTop (mkF m 9 #[.val (.int p0), .val (.long q1), .second, .val (.long (q1 &&& (4503599627370495 : Int64))), .second, .unset, .unset, .unset, .unset, .unset, .unset, .unset, .unset, .unset, .unset, .unset, .unset] [(.int (9 : Int32)), (.int p0)])) _
    refine XS.iushr X0.here hx rfl (hb hby at_9) rfl ?_
    show Steps p.tables e below (s₁.setTop (mkF m 10 #[.val (.int p0), .val (.long q1), .second, .val (.long (q1 &&& (4503599627370495 : Int64))), .second, .unset, .unset, .unset, .unset, .unset, .unset, .unset, .unset, .unset, .unset, .unset, .unset] [(.int ((p0.toUInt32 >>> ((9 : Int32) &&& 31).toUInt32).toInt32))])) _
    refine XS.iconst X0.here hx rfl (hb hby at_10) ?_
    show Steps p.tables e below (s₁.setTop (mkF m 11 #[.val (.int p0), .val (.long q1), .second, .val (.long (q1 &&& (4503599627370495 : Int64))), .second, .unset, .unset, .unset, .unset, .unset, .unset, .unset, .unset, .unset, .unset, .unset, .unset] [(.int (1 : Int32)), (.int ((p0.toUInt32 >>> ((9 : Int32) &&& 31).toUInt32).toInt32))])) _
    refine XS.iand X0.here hx rfl (hb hby at_11) rfl ?_
    show Steps p.tables e below (s₁.setTop (mkF m 12 #[.val (.int p0), .val (.long q1), .second, .val (.long (q1 &&& (4503599627370495 : Int64))), .second, .unset, .unset, .unset, .unset, .unset, .unset, .unset, .unset, .unset, .unset, .unset, .unset] [(.int (((p0.toUInt32 >>> ((9 : Int32) &&& 31).toUInt32).toInt32) &&& (1 : Int32)))])) _
    refine pre12 _ ?_
    show Steps p.tables e below (s₁.setTop (mkF m 17 #[.val (.int p0), .val (.long q1), .second, .val (.long fr), .second, .unset, .unset, .unset, .unset, .unset, .unset, .unset, .unset, .unset, .unset, .unset, .unset] [])) _
    refine XS.iloadN X0.here hx rfl (hb hby at_17) rfl ?_
    show Steps p.tables e below (s₁.setTop (mkF m 18 #[.val (.int p0), .val (.long q1), .second, .val (.long fr), .second, .unset, .unset, .unset, .unset, .unset, .unset, .unset, .unset, .unset, .unset, .unset, .unset] [(.int p0)])) _
    refine XS.bipush X0.here hx rfl (hb hby at_18) ?_
    show Steps p.tables e below (s₁.setTop (mkF m 20 #[.val (.int p0), .val (.long q1), .second, .val (.long fr), .second, .unset, .unset, .unset, .unset, .unset, .unset, .unset, .unset, .unset, .unset, .unset, .unset] [(.int (7 : Int32)), (.int p0)])) _
    refine XS.iushr X0.here hx rfl (hb hby at_20) rfl ?_
    show Steps p.tables e below (s₁.setTop (mkF m 21 #[.val (.int p0), .val (.long q1), .second, .val (.long fr), .second, .unset, .unset, .unset, .unset, .unset, .unset, .unset, .unset, .unset, .unset, .unset, .unset] [(.int ((p0.toUInt32 >>> ((7 : Int32) &&& 31).toUInt32).toInt32))])) _
    refine XS.iconst X0.here hx rfl (hb hby at_21) ?_
    show Steps p.tables e below (s₁.setTop (mkF m 22 #[.val (.int p0), .val (.long q1), .second, .val (.long fr), .second, .unset, .unset, .unset, .unset, .unset, .unset, .unset, .unset, .unset, .unset, .unset, .unset] [(.int (3 : Int32)), (.int ((p0.toUInt32 >>> ((7 : Int32) &&& 31).toUInt32).toInt32))])) _
    refine XS.iand X0.here hx rfl (hb hby at_22) rfl ?_
    show Steps p.tables e below (s₁.setTop (mkF m 23 #[.val (.int p0), .val (.long q1), .second, .val (.long fr), .second, .unset, .unset, .unset, .unset, .unset, .unset, .unset, .unset, .unset, .unset, .unset, .unset] [(.int (((p0.toUInt32 >>> ((7 : Int32) &&& 31).toUInt32).toInt32) &&& (3 : Int32)))])) _
    refine XS.ifYes X0.here hx rfl (pc0 := 23) (pc' := 104) rfl (hb hby at_23) rfl b23 (by decide) (by decide) ?_
    show Steps p.tables e below (s₁.setTop (mkF m 104 #[.val (.int p0), .val (.long q1), .second, .val (.long fr), .second, .unset, .unset, .unset, .unset, .unset, .unset, .unset, .unset, .unset, .unset, .unset, .unset] [])) _
    refine XS.iloadN X0.here hx rfl (hb hby at_104) rfl ?_
    show Steps p.tables e below (s₁.setTop (mkF m 105 #[.val (.int p0), .val (.long q1), .second, .val (.long fr), .second, .unset, .unset, .unset, .unset, .unset, .unset, .unset, .unset, .unset, .unset, .unset, .unset] [(.int p0)])) _
    refine XS.bipush X0.here hx rfl (hb hby at_105) ?_
    show Steps p.tables e below (s₁.setTop (mkF m 107 #[.val (.int p0), .val (.long q1), .second, .val (.long fr), .second, .unset, .unset, .unset, .unset, .unset, .unset, .unset, .unset, .unset, .unset, .unset, .unset] [(.int (127 : Int32)), (.int p0)])) _
    refine XS.iand X0.here hx rfl (hb hby at_107) rfl ?_
    show Steps p.tables e below (s₁.setTop (mkF m 108 #[.val (.int p0), .val (.long q1), .second, .val (.long fr), .second, .unset, .unset, .unset, .unset, .unset, .unset, .unset, .unset, .unset, .unset, .unset, .unset] [(.int (p0 &&& (127 : Int32)))])) _
    refine XS.bipush X0.here hx rfl (hb hby at_108) ?_
    show Steps p.tables e below (s₁.setTop (mkF m 110 #[.val (.int p0), .val (.long q1), .second, .val (.long fr), .second, .unset, .unset, .unset, .unset, .unset, .unset, .unset, .unset, .unset, .unset, .unset, .unset] [(.int (115 : Int32)), (.int (p0 &&& (127 : Int32)))])) _
    refine XS.irem X0.here hx rfl (hb hby at_110) rfl (by decide) ?_
    show Steps p.tables e below (s₁.setTop (mkF m 111 #[.val (.int p0), .val (.long q1), .second, .val (.long fr), .second, .unset, .unset, .unset, .unset, .unset, .unset, .unset, .unset, .unset, .unset, .unset, .unset] [(.int ((p0 &&& (127 : Int32)) - ((p0 &&& (127 : Int32)) / (115 : Int32)) * (115 : Int32)))])) _
    refine XS.bipush X0.here hx rfl (hb hby at_111) ?_
    show Steps p.tables e below (s₁.setTop (mkF m 113 #[.val (.int p0), .val (.long q1), .second, .val (.long fr), .second, .unset, .unset, .unset, .unset, .unset, .unset, .unset, .unset, .unset, .unset, .unset, .unset] [(.int (56 : Int32)), (.int ((p0 &&& (127 : Int32)) - ((p0 &&& (127 : Int32)) / (115 : Int32)) * (115 : Int32)))])) _
    refine XS.isub X0.here hx rfl (hb hby at_113) rfl ?_
    show Steps p.tables e below (s₁.setTop (mkF m 114 #[.val (.int p0), .val (.long q1), .second, .val (.long fr), .second, .unset, .unset, .unset, .unset, .unset, .unset, .unset, .unset, .unset, .unset, .unset, .unset] [(.int (((p0 &&& (127 : Int32)) - ((p0 &&& (127 : Int32)) / (115 : Int32)) * (115 : Int32)) - (56 : Int32)))])) _
    rw [← hq]
    show Steps p.tables e below (s₁.setTop (mkF m 114 #[.val (.int p0), .val (.long q1), .second, .val (.long fr), .second, .unset, .unset, .unset, .unset, .unset, .unset, .unset, .unset, .unset, .unset, .unset, .unset] [(.int q)])) _
    refine XS.istore X0.here hx rfl (hb hby at_114) rfl (l' := #[.val (.int p0), .val (.long q1), .second, .val (.long fr), .second, .val (.int q), .unset, .unset, .unset, .unset, .unset, .unset, .unset, .unset, .unset, .unset, .unset]) rfl ?_
    show Steps p.tables e below (s₁.setTop (mkF m 116 #[.val (.int p0), .val (.long q1), .second, .val (.long fr), .second, .val (.int q), .unset, .unset, .unset, .unset, .unset, .unset, .unset, .unset, .unset, .unset, .unset] [])) _
    refine XS.iload X0.here hx rfl (hb hby at_116) rfl ?_
    show Steps p.tables e below (s₁.setTop (mkF m 118 #[.val (.int p0), .val (.long q1), .second, .val (.long fr), .second, .val (.int q), .unset, .unset, .unset, .unset, .unset, .unset, .unset, .unset, .unset, .unset, .unset] [(.int q)])) _
    refine XS.ifNo X0.here hx rfl (hb hby at_118) rfl b118 ?_
    show Steps p.tables e below (s₁.setTop (mkF m 121 #[.val (.int p0), .val (.long q1), .second, .val (.long fr), .second, .val (.int q), .unset, .unset, .unset, .unset, .unset, .unset, .unset, .unset, .unset, .unset, .unset] [])) _
    refine XS.lconst X0.here hx rfl (hb hby at_121) ?_
    show Steps p.tables e below (s₁.setTop (mkF m 122 #[.val (.int p0), .val (.long q1), .second, .val (.long fr), .second, .val (.int q), .unset, .unset, .unset, .unset, .unset, .unset, .unset, .unset, .unset, .unset, .unset] [(.long (1 : Int64))])) _
    refine XS.iload X0.here hx rfl (hb hby at_122) rfl ?_
    show Steps p.tables e below (s₁.setTop (mkF m 124 #[.val (.int p0), .val (.long q1), .second, .val (.long fr), .second, .val (.int q), .unset, .unset, .unset, .unset, .unset, .unset, .unset, .unset, .unset, .unset, .unset] [(.int q), (.long (1 : Int64))])) _
    refine XS.lshl X0.here hx rfl (hb hby at_124) rfl ?_
    show Steps p.tables e below (s₁.setTop (mkF m 125 #[.val (.int p0), .val (.long q1), .second, .val (.long fr), .second, .val (.int q), .unset, .unset, .unset, .unset, .unset, .unset, .unset, .unset, .unset, .unset, .unset] [(.long ((1 : Int64) <<< (q &&& 0x3f).toInt64))])) _
    refine XS.l2dS X0.here hx rfl (hb hby at_125) rfl rfl ?_
    show Steps p.tables e below (s₁.setTop (mkF m 126 #[.val (.int p0), .val (.long q1), .second, .val (.long fr), .second, .val (.int q), .unset, .unset, .unset, .unset, .unset, .unset, .unset, .unset, .unset, .unset, .unset] [(.double (FP.l2d ((1 : Int64) <<< (q &&& 0x3f).toInt64)))])) _
    refine XS.goto X0.here hx rfl (pc0 := 126) (pc' := 137) rfl (hb hby at_126) (by decide) (by decide) ?_
    show Steps p.tables e below (s₁.setTop (mkF m 137 #[.val (.int p0), .val (.long q1), .second, .val (.long fr), .second, .val (.int q), .unset, .unset, .unset, .unset, .unset, .unset, .unset, .unset, .unset, .unset, .unset] [(.double (FP.l2d ((1 : Int64) <<< (q &&& 0x3f).toInt64)))])) _
    rw [← hpw]
    show Steps p.tables e below (s₁.setTop (mkF m 137 #[.val (.int p0), .val (.long q1), .second, .val (.long fr), .second, .val (.int q), .unset, .unset, .unset, .unset, .unset, .unset, .unset, .unset, .unset, .unset, .unset] [(.double pw)])) _
    refine XS.dstore X0.here hx rfl (hb hby at_137) rfl (l' := #[.val (.int p0), .val (.long q1), .second, .val (.long fr), .second, .val (.int q), .val (.double pw), .second, .unset, .unset, .unset, .unset, .unset, .unset, .unset, .unset, .unset]) rfl ?_
    show Steps p.tables e below (s₁.setTop (mkF m 139 #[.val (.int p0), .val (.long q1), .second, .val (.long fr), .second, .val (.int q), .val (.double pw), .second, .unset, .unset, .unset, .unset, .unset, .unset, .unset, .unset, .unset] [])) _
    refine X0.ldc2Long hx hown (mvT hZ (hw _ (List.mem_of_getElem? (i := 18) rfl))) (g := (mkF m 139 #[.val (.int p0), .val (.long q1), .second, .val (.long fr), .second, .val (.int q), .val (.double pw), .second, .unset, .unset, .unset, .unset, .unset, .unset, .unset, .unset, .unset] [])) rfl (hb hby at_139) _ ?_
    show Steps p.tables e below (s₁.setTop (mkF m 142 #[.val (.int p0), .val (.long q1), .second, .val (.long fr), .second, .val (.int q), .val (.double pw), .second, .unset, .unset, .unset, .unset, .unset, .unset, .unset, .unset, .unset] [(.long (4503599627370496 : Int64))])) _
    refine XS.lloadN X0.here hx rfl (hb hby at_142) rfl ?_
    show Steps p.tables e below (s₁.setTop (mkF m 143 #[.val (.int p0), .val (.long q1), .second, .val (.long fr), .second, .val (.int q), .val (.double pw), .second, .unset, .unset, .unset, .unset, .unset, .unset, .unset, .unset, .unset] [(.long fr), (.long (4503599627370496 : Int64))])) _
    refine XS.lor X0.here hx rfl (hb hby at_143) rfl ?_
    show Steps p.tables e below (s₁.setTop (mkF m 144 #[.val (.int p0), .val (.long q1), .second, .val (.long fr), .second, .val (.int q), .val (.double pw), .second, .unset, .unset, .unset, .unset, .unset, .unset, .unset, .unset, .unset] [(.long ((4503599627370496 : Int64) ||| fr))])) _
    refine XS.l2dS X0.here hx rfl (hb hby at_144) rfl rfl ?_
    show Steps p.tables e below (s₁.setTop (mkF m 145 #[.val (.int p0), .val (.long q1), .second, .val (.long fr), .second, .val (.int q), .val (.double pw), .second, .unset, .unset, .unset, .unset, .unset, .unset, .unset, .unset, .unset] [(.double (FP.l2d ((4503599627370496 : Int64) ||| fr)))])) _
    refine XS.dload X0.here hx rfl (hb hby at_145) rfl ?_
    show Steps p.tables e below (s₁.setTop (mkF m 147 #[.val (.int p0), .val (.long q1), .second, .val (.long fr), .second, .val (.int q), .val (.double pw), .second, .unset, .unset, .unset, .unset, .unset, .unset, .unset, .unset, .unset] [(.double pw), (.double (FP.l2d ((4503599627370496 : Int64) ||| fr)))])) _
    refine XS.dmulS X0.here hx rfl (hb hby at_147) rfl n147 rfl ?_
    show Steps p.tables e below (s₁.setTop (mkF m 148 #[.val (.int p0), .val (.long q1), .second, .val (.long fr), .second, .val (.int q), .val (.double pw), .second, .unset, .unset, .unset, .unset, .unset, .unset, .unset, .unset, .unset] [(.double (FP.dmul (FP.l2d ((4503599627370496 : Int64) ||| fr)) pw))])) _
    rw [← hva]
    show Steps p.tables e below (s₁.setTop (mkF m 148 #[.val (.int p0), .val (.long q1), .second, .val (.long fr), .second, .val (.int q), .val (.double pw), .second, .unset, .unset, .unset, .unset, .unset, .unset, .unset, .unset, .unset] [(.double va)])) _
    refine XS.dstore X0.here hx rfl (hb hby at_148) rfl (l' := #[.val (.int p0), .val (.long q1), .second, .val (.long fr), .second, .val (.int q), .val (.double pw), .second, .val (.double va), .second, .unset, .unset, .unset, .unset, .unset, .unset, .unset]) rfl ?_
    show Steps p.tables e below (s₁.setTop (mkF m 150 #[.val (.int p0), .val (.long q1), .second, .val (.long fr), .second, .val (.int q), .val (.double pw), .second, .val (.double va), .second, .unset, .unset, .unset, .unset, .unset, .unset, .unset] [])) _
    refine XS.dload X0.here hx rfl (hb hby at_150) rfl ?_
    show Steps p.tables e below (s₁.setTop (mkF m 152 #[.val (.int p0), .val (.long q1), .second, .val (.long fr), .second, .val (.int q), .val (.double pw), .second, .val (.double va), .second, .unset, .unset, .unset, .unset, .unset, .unset, .unset] [(.double va)])) _
    refine st1 _ ?_
    show Steps p.tables e below (T1.setTop (mkF m 155 #[.val (.int p0), .val (.long q1), .second, .val (.long fr), .second, .val (.int q), .val (.double pw), .second, .val (.double va), .second, .unset, .unset, .unset, .unset, .unset, .unset, .unset] [(.int (own_f10 (((-1074 : Int32) + be) - (1 : Int32))))])) _
    rw [← hkk]
    show Steps p.tables e below (T1.setTop (mkF m 155 #[.val (.int p0), .val (.long q1), .second, .val (.long fr), .second, .val (.int q), .val (.double pw), .second, .val (.double va), .second, .unset, .unset, .unset, .unset, .unset, .unset, .unset] [(.int kk)])) _
    refine XS.istore X1.here hx rfl (hb hby at_155) rfl (l' := #[.val (.int p0), .val (.long q1), .second, .val (.long fr), .second, .val (.int q), .val (.double pw), .second, .val (.double va), .second, .val (.int kk), .unset, .unset, .unset, .unset, .unset, .unset]) rfl ?_
    show Steps p.tables e below (T1.setTop (mkF m 157 #[.val (.int p0), .val (.long q1), .second, .val (.long fr), .second, .val (.int q), .val (.double pw), .second, .val (.double va), .second, .val (.int kk), .unset, .unset, .unset, .unset, .unset, .unset] [])) _
    refine XS.lloadN X1.here hx rfl (hb hby at_157) rfl ?_
    show Steps p.tables e below (T1.setTop (mkF m 158 #[.val (.int p0), .val (.long q1), .second, .val (.long fr), .second, .val (.int q), .val (.double pw), .second, .val (.double va), .second, .val (.int kk), .unset, .unset, .unset, .unset, .unset, .unset] [(.long fr)])) _
    refine XS.lconst X1.here hx rfl (hb hby at_158) ?_
    show Steps p.tables e below (T1.setTop (mkF m 159 #[.val (.int p0), .val (.long q1), .second, .val (.long fr), .second, .val (.int q), .val (.double pw), .second, .val (.double va), .second, .val (.int kk), .unset, .unset, .unset, .unset, .unset, .unset] [(.long (0 : Int64)), (.long fr)])) _
    refine XS.lcmp X1.here hx rfl (hb hby at_159) rfl ?_
    show Steps p.tables e below (T1.setTop (mkF m 160 #[.val (.int p0), .val (.long q1), .second, .val (.long fr), .second, .val (.int q), .val (.double pw), .second, .val (.double va), .second, .val (.int kk), .unset, .unset, .unset, .unset, .unset, .unset] [(.int (if fr > (0 : Int64) then 1 else if fr = (0 : Int64) then 0 else -1))])) _
    refine XS.ifYes X1.here hx rfl (pc0 := 160) (pc' := 169) rfl (hb hby at_160) rfl b160 (by decide) (by decide) ?_
    show Steps p.tables e below (T1.setTop (mkF m 169 #[.val (.int p0), .val (.long q1), .second, .val (.long fr), .second, .val (.int q), .val (.double pw), .second, .val (.double va), .second, .val (.int kk), .unset, .unset, .unset, .unset, .unset, .unset] [])) _
    refine X1.ldc2Long hx hown (mvT hZ (hw _ (List.mem_of_getElem? (i := 23) rfl))) (g := (mkF m 169 #[.val (.int p0), .val (.long q1), .second, .val (.long fr), .second, .val (.int q), .val (.double pw), .second, .val (.double va), .second, .val (.int kk), .unset, .unset, .unset, .unset, .unset, .unset] [])) rfl (hb hby at_169) _ ?_
    show Steps p.tables e below (T1.setTop (mkF m 172 #[.val (.int p0), .val (.long q1), .second, .val (.long fr), .second, .val (.int q), .val (.double pw), .second, .val (.double va), .second, .val (.int kk), .unset, .unset, .unset, .unset, .unset, .unset] [(.long (4 : Int64))])) _
    refine XS.lstore X1.here hx rfl (hb hby at_172) rfl (l' := #[.val (.int p0), .val (.long q1), .second, .val (.long fr), .second, .val (.int q), .val (.double pw), .second, .val (.double va), .second, .val (.int kk), .val (.long (4 : Int64)), .second, .unset, .unset, .unset, .unset]) rfl ?_
    show Steps p.tables e below (T1.setTop (mkF m 174 #[.val (.int p0), .val (.long q1), .second, .val (.long fr), .second, .val (.int q), .val (.double pw), .second, .val (.double va), .second, .val (.int kk), .val (.long (4 : Int64)), .second, .unset, .unset, .unset, .unset] [])) _
    refine XS.iconst X1.here hx rfl (hb hby at_174) ?_
    show Steps p.tables e below (T1.setTop (mkF m 175 #[.val (.int p0), .val (.long q1), .second, .val (.long fr), .second, .val (.int q), .val (.double pw), .second, .val (.double va), .second, .val (.int kk), .val (.long (4 : Int64)), .second, .unset, .unset, .unset, .unset] [(.int (2 : Int32))])) _
    refine XS.iload X1.here hx rfl (hb hby at_175) rfl ?_
    show Steps p.tables e below (T1.setTop (mkF m 177 #[.val (.int p0), .val (.long q1), .second, .val (.long fr), .second, .val (.int q), .val (.double pw), .second, .val (.double va), .second, .val (.int kk), .val (.long (4 : Int64)), .second, .unset, .unset, .unset, .unset] [(.int q), (.int (2 : Int32))])) _
    refine XS.isub X1.here hx rfl (hb hby at_177) rfl ?_
    show Steps p.tables e below (T1.setTop (mkF m 178 #[.val (.int p0), .val (.long q1), .second, .val (.long fr), .second, .val (.int q), .val (.double pw), .second, .val (.double va), .second, .val (.int kk), .val (.long (4 : Int64)), .second, .unset, .unset, .unset, .unset] [(.int ((2 : Int32) - q))])) _
    rw [← htt]
    show Steps p.tables e below (T1.setTop (mkF m 178 #[.val (.int p0), .val (.long q1), .second, .val (.long fr), .second, .val (.int q), .val (.double pw), .second, .val (.double va), .second, .val (.int kk), .val (.long (4 : Int64)), .second, .unset, .unset, .unset, .unset] [(.int tt)])) _
    refine XS.istore X1.here hx rfl (hb hby at_178) rfl (l' := #[.val (.int p0), .val (.long q1), .second, .val (.long fr), .second, .val (.int q), .val (.double pw), .second, .val (.double va), .second, .val (.int kk), .val (.long (4 : Int64)), .second, .val (.int tt), .unset, .unset, .unset]) rfl ?_
    show Steps p.tables e below (T1.setTop (mkF m 180 #[.val (.int p0), .val (.long q1), .second, .val (.long fr), .second, .val (.int q), .val (.double pw), .second, .val (.double va), .second, .val (.int kk), .val (.long (4 : Int64)), .second, .val (.int tt), .unset, .unset, .unset] [])) _
    refine XS.iload X1.here hx rfl (hb hby at_180) rfl ?_
    show Steps p.tables e below (T1.setTop (mkF m 182 #[.val (.int p0), .val (.long q1), .second, .val (.long fr), .second, .val (.int q), .val (.double pw), .second, .val (.double va), .second, .val (.int kk), .val (.long (4 : Int64)), .second, .val (.int tt), .unset, .unset, .unset] [(.int tt)])) _
    refine XS.ifNo X1.here hx rfl (hb hby at_182) rfl b182 ?_
    show Steps p.tables e below (T1.setTop (mkF m 185 #[.val (.int p0), .val (.long q1), .second, .val (.long fr), .second, .val (.int q), .val (.double pw), .second, .val (.double va), .second, .val (.int kk), .val (.long (4 : Int64)), .second, .val (.int tt), .unset, .unset, .unset] [])) _
    refine XS.lload X1.here hx rfl (hb hby at_185) rfl ?_
    show Steps p.tables e below (T1.setTop (mkF m 187 #[.val (.int p0), .val (.long q1), .second, .val (.long fr), .second, .val (.int q), .val (.double pw), .second, .val (.double va), .second, .val (.int kk), .val (.long (4 : Int64)), .second, .val (.int tt), .unset, .unset, .unset] [(.long (4 : Int64))])) _
    refine XS.iload X1.here hx rfl (hb hby at_187) rfl ?_
    show Steps p.tables e below (T1.setTop (mkF m 189 #[.val (.int p0), .val (.long q1), .second, .val (.long fr), .second, .val (.int q), .val (.double pw), .second, .val (.double va), .second, .val (.int kk), .val (.long (4 : Int64)), .second, .val (.int tt), .unset, .unset, .unset] [(.int tt), (.long (4 : Int64))])) _
    refine XS.ineg X1.here hx rfl (hb hby at_189) rfl ?_
    show Steps p.tables e below (T1.setTop (mkF m 190 #[.val (.int p0), .val (.long q1), .second, .val (.long fr), .second, .val (.int q), .val (.double pw), .second, .val (.double va), .second, .val (.int kk), .val (.long (4 : Int64)), .second, .val (.int tt), .unset, .unset, .unset] [(.int (-tt)), (.long (4 : Int64))])) _
    refine XS.lshl X1.here hx rfl (hb hby at_190) rfl ?_
    show Steps p.tables e below (T1.setTop (mkF m 191 #[.val (.int p0), .val (.long q1), .second, .val (.long fr), .second, .val (.int q), .val (.double pw), .second, .val (.double va), .second, .val (.int kk), .val (.long (4 : Int64)), .second, .val (.int tt), .unset, .unset, .unset] [(.long ((4 : Int64) <<< ((-tt) &&& 0x3f).toInt64))])) _
    refine XS.lstore X1.here hx rfl (hb hby at_191) rfl (l' := #[.val (.int p0), .val (.long q1), .second, .val (.long fr), .second, .val (.int q), .val (.double pw), .second, .val (.double va), .second, .val (.int kk), .val (.long (4 : Int64)), .second, .val (.int tt), .val (.long ((4 : Int64) <<< ((-tt) &&& 0x3f).toInt64)), .second, .unset]) rfl ?_
    show Steps p.tables e below (T1.setTop (mkF m 193 #[.val (.int p0), .val (.long q1), .second, .val (.long fr), .second, .val (.int q), .val (.double pw), .second, .val (.double va), .second, .val (.int kk), .val (.long (4 : Int64)), .second, .val (.int tt), .val (.long ((4 : Int64) <<< ((-tt) &&& 0x3f).toInt64)), .second, .unset] [])) _
    refine XS.iload X1.here hx rfl (hb hby at_193) rfl ?_
    show Steps p.tables e below (T1.setTop (mkF m 195 #[.val (.int p0), .val (.long q1), .second, .val (.long fr), .second, .val (.int q), .val (.double pw), .second, .val (.double va), .second, .val (.int kk), .val (.long (4 : Int64)), .second, .val (.int tt), .val (.long ((4 : Int64) <<< ((-tt) &&& 0x3f).toInt64)), .second, .unset] [(.int kk)])) _
    refine XS.ifNo X1.here hx rfl (hb hby at_195) rfl b195 ?_
    show Steps p.tables e below (T1.setTop (mkF m 198 #[.val (.int p0), .val (.long q1), .second, .val (.long fr), .second, .val (.int q), .val (.double pw), .second, .val (.double va), .second, .val (.int kk), .val (.long (4 : Int64)), .second, .val (.int tt), .val (.long ((4 : Int64) <<< ((-tt) &&& 0x3f).toInt64)), .second, .unset] [])) _
    refine XS.iload X1.here hx rfl (hb hby at_198) rfl ?_
    show Steps p.tables e below (T1.setTop (mkF m 200 #[.val (.int p0), .val (.long q1), .second, .val (.long fr), .second, .val (.int q), .val (.double pw), .second, .val (.double va), .second, .val (.int kk), .val (.long (4 : Int64)), .second, .val (.int tt), .val (.long ((4 : Int64) <<< ((-tt) &&& 0x3f).toInt64)), .second, .unset] [(.int kk)])) _
    refine XS.bipush X1.here hx rfl (hb hby at_200) ?_
    show Steps p.tables e below (T1.setTop (mkF m 202 #[.val (.int p0), .val (.long q1), .second, .val (.long fr), .second, .val (.int q), .val (.double pw), .second, .val (.double va), .second, .val (.int kk), .val (.long (4 : Int64)), .second, .val (.int tt), .val (.long ((4 : Int64) <<< ((-tt) &&& 0x3f).toInt64)), .second, .unset] [(.int (17 : Int32)), (.int kk)])) _
    refine XS.icmpYes X1.here hx rfl (pc0 := 202) (pc' := 207) rfl (hb hby at_202) rfl b202 (by decide) (by decide) ?_
    show Steps p.tables e below (T1.setTop (mkF m 207 #[.val (.int p0), .val (.long q1), .second, .val (.long fr), .second, .val (.int q), .val (.double pw), .second, .val (.double va), .second, .val (.int kk), .val (.long (4 : Int64)), .second, .val (.int tt), .val (.long ((4 : Int64) <<< ((-tt) &&& 0x3f).toInt64)), .second, .unset] [])) _
    refine XS.iload X1.here hx rfl (hb hby at_207) rfl ?_
    show Steps p.tables e below (T1.setTop (mkF m 209 #[.val (.int p0), .val (.long q1), .second, .val (.long fr), .second, .val (.int q), .val (.double pw), .second, .val (.double va), .second, .val (.int kk), .val (.long (4 : Int64)), .second, .val (.int tt), .val (.long ((4 : Int64) <<< ((-tt) &&& 0x3f).toInt64)), .second, .unset] [(.int kk)])) _
    refine st2 _ ?_
    show Steps p.tables e below (T2.setTop (mkF m 212 #[.val (.int p0), .val (.long q1), .second, .val (.long fr), .second, .val (.int q), .val (.double pw), .second, .val (.double va), .second, .val (.int kk), .val (.long (4 : Int64)), .second, .val (.int tt), .val (.long ((4 : Int64) <<< ((-tt) &&& 0x3f).toInt64)), .second, .unset] [(.long (own_p10 kk))])) _
    refine XS.lload X2.here hx rfl (hb hby at_212) rfl ?_
    show Steps p.tables e below (T2.setTop (mkF m 214 #[.val (.int p0), .val (.long q1), .second, .val (.long fr), .second, .val (.int q), .val (.double pw), .second, .val (.double va), .second, .val (.int kk), .val (.long (4 : Int64)), .second, .val (.int tt), .val (.long ((4 : Int64) <<< ((-tt) &&& 0x3f).toInt64)), .second, .unset] [(.long ((4 : Int64) <<< ((-tt) &&& 0x3f).toInt64)), (.long (own_p10 kk))])) _
    refine XS.lcmp X2.here hx rfl (hb hby at_214) rfl ?_
    show Steps p.tables e below (T2.setTop (mkF m 215 #[.val (.int p0), .val (.long q1), .second, .val (.long fr), .second, .val (.int q), .val (.double pw), .second, .val (.double va), .second, .val (.int kk), .val (.long (4 : Int64)), .second, .val (.int tt), .val (.long ((4 : Int64) <<< ((-tt) &&& 0x3f).toInt64)), .second, .unset] [(.int (if (own_p10 kk) > ((4 : Int64) <<< ((-tt) &&& 0x3f).toInt64) then 1 else if (own_p10 kk) = ((4 : Int64) <<< ((-tt) &&& 0x3f).toInt64) then 0 else -1))])) _
    refine XS.ifNo X2.here hx rfl (hb hby at_215) rfl b215 ?_
    show Steps p.tables e below (T2.setTop (mkF m 218 #[.val (.int p0), .val (.long q1), .second, .val (.long fr), .second, .val (.int q), .val (.double pw), .second, .val (.double va), .second, .val (.int kk), .val (.long (4 : Int64)), .second, .val (.int tt), .val (.long ((4 : Int64) <<< ((-tt) &&& 0x3f).toInt64)), .second, .unset] [])) _
    refine XS.lload X2.here hx rfl (hb hby at_218) rfl ?_
    show Steps p.tables e below (T2.setTop (mkF m 220 #[.val (.int p0), .val (.long q1), .second, .val (.long fr), .second, .val (.int q), .val (.double pw), .second, .val (.double va), .second, .val (.int kk), .val (.long (4 : Int64)), .second, .val (.int tt), .val (.long ((4 : Int64) <<< ((-tt) &&& 0x3f).toInt64)), .second, .unset] [(.long ((4 : Int64) <<< ((-tt) &&& 0x3f).toInt64))])) _
    refine XS.iload X2.here hx rfl (hb hby at_220) rfl ?_
    show Steps p.tables e below (T2.setTop (mkF m 222 #[.val (.int p0), .val (.long q1), .second, .val (.long fr), .second, .val (.int q), .val (.double pw), .second, .val (.double va), .second, .val (.int kk), .val (.long (4 : Int64)), .second, .val (.int tt), .val (.long ((4 : Int64) <<< ((-tt) &&& 0x3f).toInt64)), .second, .unset] [(.int kk), (.long ((4 : Int64) <<< ((-tt) &&& 0x3f).toInt64))])) _
    refine XS.iconst X2.here hx rfl (hb hby at_222) ?_
    show Steps p.tables e below (T2.setTop (mkF m 223 #[.val (.int p0), .val (.long q1), .second, .val (.long fr), .second, .val (.int q), .val (.double pw), .second, .val (.double va), .second, .val (.int kk), .val (.long (4 : Int64)), .second, .val (.int tt), .val (.long ((4 : Int64) <<< ((-tt) &&& 0x3f).toInt64)), .second, .unset] [(.int (1 : Int32)), (.int kk), (.long ((4 : Int64) <<< ((-tt) &&& 0x3f).toInt64))])) _
    refine XS.iadd X2.here hx rfl (hb hby at_223) rfl ?_
    show Steps p.tables e below (T2.setTop (mkF m 224 #[.val (.int p0), .val (.long q1), .second, .val (.long fr), .second, .val (.int q), .val (.double pw), .second, .val (.double va), .second, .val (.int kk), .val (.long (4 : Int64)), .second, .val (.int tt), .val (.long ((4 : Int64) <<< ((-tt) &&& 0x3f).toInt64)), .second, .unset] [(.int (kk + (1 : Int32))), (.long ((4 : Int64) <<< ((-tt) &&& 0x3f).toInt64))])) _
    refine st3 _ ?_
    show Steps p.tables e below (T3.setTop (mkF m 227 #[.val (.int p0), .val (.long q1), .second, .val (.long fr), .second, .val (.int q), .val (.double pw), .second, .val (.double va), .second, .val (.int kk), .val (.long (4 : Int64)), .second, .val (.int tt), .val (.long ((4 : Int64) <<< ((-tt) &&& 0x3f).toInt64)), .second, .unset] [(.long (own_p10 (kk + (1 : Int32)))), (.long ((4 : Int64) <<< ((-tt) &&& 0x3f).toInt64))])) _
    refine XS.lcmp X3.here hx rfl (hb hby at_227) rfl ?_
    show Steps p.tables e below (T3.setTop (mkF m 228 #[.val (.int p0), .val (.long q1), .second, .val (.long fr), .second, .val (.int q), .val (.double pw), .second, .val (.double va), .second, .val (.int kk), .val (.long (4 : Int64)), .second, .val (.int tt), .val (.long ((4 : Int64) <<< ((-tt) &&& 0x3f).toInt64)), .second, .unset] [(.int (if ((4 : Int64) <<< ((-tt) &&& 0x3f).toInt64) > (own_p10 (kk + (1 : Int32))) then 1 else if ((4 : Int64) <<< ((-tt) &&& 0x3f).toInt64) = (own_p10 (kk + (1 : Int32))) then 0 else -1))])) _
    refine XS.ifNo X3.here hx rfl (hb hby at_228) rfl b228 ?_
    show Steps p.tables e below (T3.setTop (mkF m 231 #[.val (.int p0), .val (.long q1), .second, .val (.long fr), .second, .val (.int q), .val (.double pw), .second, .val (.double va), .second, .val (.int kk), .val (.long (4 : Int64)), .second, .val (.int tt), .val (.long ((4 : Int64) <<< ((-tt) &&& 0x3f).toInt64)), .second, .unset] [])) _
    refine XS.iconst X3.here hx rfl (hb hby at_231) ?_
    show Steps p.tables e below (T3.setTop (mkF m 232 #[.val (.int p0), .val (.long q1), .second, .val (.long fr), .second, .val (.int q), .val (.double pw), .second, .val (.double va), .second, .val (.int kk), .val (.long (4 : Int64)), .second, .val (.int tt), .val (.long ((4 : Int64) <<< ((-tt) &&& 0x3f).toInt64)), .second, .unset] [(.int (1 : Int32))])) _
    refine XS.goto X3.here hx rfl (pc0 := 232) (pc' := 236) rfl (hb hby at_232) (by decide) (by decide) ?_
    show Steps p.tables e below (T3.setTop (mkF m 236 #[.val (.int p0), .val (.long q1), .second, .val (.long fr), .second, .val (.int q), .val (.double pw), .second, .val (.double va), .second, .val (.int kk), .val (.long (4 : Int64)), .second, .val (.int tt), .val (.long ((4 : Int64) <<< ((-tt) &&& 0x3f).toInt64)), .second, .unset] [(.int (1 : Int32))])) _
    exact retN X3 hx (t := .boolean) Bd.returns (by simp) (hb hby at_236) hr
  · show QL n0 _ T3.heap _
    exact ⟨rfl, N3⟩
theorem ef_rmB0 (m : MethodId) (x0 : Int32) (x1 : Int64) : entryFrame m #[(.int x0), (.long x1)] maxLocals = mkF m 0 #[.val (.int x0), .val (.long x1), .second, .unset, .unset, .unset, .unset, .unset, .unset, .unset, .unset, .unset, .unset, .unset, .unset, .unset, .unset] [] := by first | (simp [entryFrame, mkF, argsToLocals, Value.category, maxLocals]; done) | rfl
set_option maxRecDepth 65536 in
set_option maxHeartbeats 40000000 in
theorem rmB0 (l : Launch) (Z : State) (a0 : Array Value) (hw : ∀ d ∈ tables_1, d.before a0 Z = true) (ws : List Jvm.Cond)  (p0 : Int32) (q1 : Int64) (fr : Int64) (q : Int32) (pw : UInt64) (va : UInt64) (be : Int32) (kk : Int32) (tt : Int32) (h0 : Heap) (n0 : Nat) (Z0 : n0 ≤ h0.size) 
    (hfr : fr = cond (ifCond.holds .eq (((p0.toUInt32 >>> ((9 : Int32) &&& 31).toUInt32).toInt32) &&& (1 : Int32))) (q1 &&& (4503599627370495 : Int64)) (0 : Int64))
    (b23 : ifCond.holds .ne (((p0.toUInt32 >>> ((7 : Int32) &&& 31).toUInt32).toInt32) &&& (3 : Int32)) = true)
    (hq : q = (((p0 &&& (127 : Int32)) - ((p0 &&& (127 : Int32)) / (115 : Int32)) * (115 : Int32)) - (56 : Int32)))
    (b118 : ifCond.holds .lt q = false)
    (hpw : pw = (FP.l2d ((1 : Int64) <<< (q &&& 0x3f).toInt64)))
    (n147 : NoNaN64 (FP.dmul (FP.l2d ((4503599627370496 : Int64) ||| fr)) pw))
    (hva : va = (FP.dmul (FP.l2d ((4503599627370496 : Int64) ||| fr)) pw))
    (hbe : be = ((va.toInt64.toUInt64 >>> ((52 : Int32) &&& 0x3f).toInt64.toUInt64).toInt64).toInt32)
    (d14 : ifCond.holds .ne be = true)
    (v0 : ifCond.holds .ne (if (va.toInt64 &&& (4503599627370495 : Int64)) > (0 : Int64) then 1 else if (va.toInt64 &&& (4503599627370495 : Int64)) = (0 : Int64) then 0 else -1) = false)
    (v1 : if_icmp.holds .le ((va.toInt64.toUInt64 >>> ((52 : Int32) &&& 0x3f).toInt64.toUInt64).toInt64).toInt32 (1 : Int32) = false)
    (hkk : kk = (own_f34 (((-1074 : Int32) + be) - (1 : Int32))))
    (b160 : ifCond.holds .ne (if fr > (0 : Int64) then 1 else if fr = (0 : Int64) then 0 else -1) = false)
    (htt : tt = ((2 : Int32) - q))
    (b182 : ifCond.holds .gt tt = true)
    (b239 : ifCond.holds .lt kk = false)
    (b244 : ifCond.holds .ne kk = false)
    (b250 : if_icmp.holds .gt tt (2 : Int32) = false)
    (b260 : ifCond.holds .gt (if ((1 : Int64) <<< (tt &&& 0x3f).toInt64) > (3 : Int64) then 1 else if ((1 : Int64) <<< (tt &&& 0x3f).toInt64) = (3 : Int64) then 0 else -1) = false) :
    MetFree l x (head1 (Jvm.Cond.code x code maxLocals ret :: ws) room_1) (fun a U => a = #[(.int p0), (.long q1)] ∧ Z.Warmed39 U.vm ∧ U.heap = h0) (fun _ _ _ _ _ => True) (fun _ U o U' => ∃ v L, o = .returned v ∧ QL n0 v U'.heap L ∧ FrameEnd U o U' L 0 0) := by
  refine MetFree.of_bodySF (plainFor_of_name pn_1) hisR ?_
  intro p e s m args below meth c s₁ Bd hml0 hP hK
  obtain ⟨rfl, hZ, hh⟩ := hP
  have hx := Bd.exec
  have hby := Bd.bytes
  have hml : c.maxLocals = 17 := hml0
  have hown : s.vm.findClass "com/example/sundry/sundry/ShortestDecimalUnitPinLaw" = some m.cls := findClass_of_methodNamed Bd.named
  have hnm := (name_of_methodNamed Bd.named Bd.method).1
  have X0 : Stand p l e room_1 s m #[(.int p0), (.long q1)] below meth c s₁ [] 0 0 := Stand.of_body Bd
  have e0 : s₁.heap = h0 := by rw [← hh, Bd.state]; rfl
  have N0 := Fr.nil n0
  have pre0 : ∀ t, Steps p.tables e below (s₁.setTop (mkF m 0 #[.val (.int p0), .val (.long q1), .second, .unset, .unset, .unset, .unset, .unset, .unset, .unset, .unset, .unset, .unset, .unset, .unset, .unset, .unset] [])) t → Steps p.tables e below (s₁.setTop (entryFrame m #[(.int p0), (.long q1)] maxLocals)) t := fun t k => castTop (ef_rmB0 m p0 q1) k
  have pre12 : ∀ t, Steps p.tables e below (s₁.setTop (mkF m 17 #[.val (.int p0), .val (.long q1), .second, .val (.long fr), .second, .unset, .unset, .unset, .unset, .unset, .unset, .unset, .unset, .unset, .unset, .unset, .unset] [])) t → Steps p.tables e below (s₁.setTop (mkF m 12 #[.val (.int p0), .val (.long q1), .second, .val (.long (q1 &&& (4503599627370495 : Int64))), .second, .unset, .unset, .unset, .unset, .unset, .unset, .unset, .unset, .unset, .unset, .unset, .unset] [(.int (((p0.toUInt32 >>> ((9 : Int32) &&& 31).toUInt32).toInt32) &&& (1 : Int32)))])) t := by
    intro t k
    cases hb12 : ifCond.holds .eq (((p0.toUInt32 >>> ((9 : Int32) &&& 31).toUInt32).toInt32) &&& (1 : Int32))
    · rw [hb12] at hfr
      obtain rfl : fr = (0 : Int64) := hfr
      show Steps p.tables e below (s₁.setTop (mkF m 12 #[.val (.int p0), .val (.long q1), .second, .val (.long (q1 &&& (4503599627370495 : Int64))), .second, .unset, .unset, .unset, .unset, .unset, .unset, .unset, .unset, .unset, .unset, .unset, .unset] [(.int (((p0.toUInt32 >>> ((9 : Int32) &&& 31).toUInt32).toInt32) &&& (1 : Int32)))])) _
      refine XS.ifNo X0.here hx rfl (hb hby at_12) rfl hb12 ?_
      show Steps p.tables e below (s₁.setTop (mkF m 15 #[.val (.int p0), .val (.long q1), .second, .val (.long (q1 &&& (4503599627370495 : Int64))), .second, .unset, .unset, .unset, .unset, .unset, .unset, .unset, .unset, .unset, .unset, .unset, .unset] [])) _
      refine XS.lconst X0.here hx rfl (hb hby at_15) ?_
      show Steps p.tables e below (s₁.setTop (mkF m 16 #[.val (.int p0), .val (.long q1), .second, .val (.long (q1 &&& (4503599627370495 : Int64))), .second, .unset, .unset, .unset, .unset, .unset, .unset, .unset, .unset, .unset, .unset, .unset, .unset] [(.long (0 : Int64))])) _
      refine XS.lstoreN X0.here hx rfl (hb hby at_16) rfl (l' := #[.val (.int p0), .val (.long q1), .second, .val (.long (0 : Int64)), .second, .unset, .unset, .unset, .unset, .unset, .unset, .unset, .unset, .unset, .unset, .unset, .unset]) rfl ?_
      show Steps p.tables e below (s₁.setTop (mkF m 17 #[.val (.int p0), .val (.long q1), .second, .val (.long (0 : Int64)), .second, .unset, .unset, .unset, .unset, .unset, .unset, .unset, .unset, .unset, .unset, .unset, .unset] [])) _
      exact k
    · rw [hb12] at hfr
      obtain rfl : fr = (q1 &&& (4503599627370495 : Int64)) := hfr
      show Steps p.tables e below (s₁.setTop (mkF m 12 #[.val (.int p0), .val (.long q1), .second, .val (.long (q1 &&& (4503599627370495 : Int64))), .second, .unset, .unset, .unset, .unset, .unset, .unset, .unset, .unset, .unset, .unset, .unset, .unset] [(.int (((p0.toUInt32 >>> ((9 : Int32) &&& 31).toUInt32).toInt32) &&& (1 : Int32)))])) _
      refine XS.ifYes X0.here hx rfl (pc0 := 12) (pc' := 17) rfl (hb hby at_12) rfl hb12 (by decide) (by decide) ?_
      show Steps p.tables e below (s₁.setTop (mkF m 17 #[.val (.int p0), .val (.long q1), .second, .val (.long (q1 &&& (4503599627370495 : Int64))), .second, .unset, .unset, .unset, .unset, .unset, .unset, .unset, .unset, .unset, .unset, .unset, .unset] [])) _
      exact k
  obtain ⟨_, _, ⟨T1, L1, k1, n1⟩, -, X1, ⟨Lc1, hQ1, l1, y1, z1⟩, st1⟩ := Jvm.LawKit.callS X0 hx (y := (⟨"com/example/sundry/sundry/ShortestDecimal", "unit", "(D)I"⟩ : MethodName)) hown (mvT hZ (hw _ (List.mem_of_getElem? (i := 3) rfl))) (mvT hZ (hw _ (List.mem_of_getElem? (i := 4) rfl))) (mvT hZ (hw _ (List.mem_of_getElem? (i := 5) rfl))) (mvT hZ (hw _ (List.mem_of_getElem? (i := 6) rfl))) (by decide) (backOf (W := 0) (rmD2 l Z a0 hw [] va be h0 n0 Z0 hbe d14 v0 v1 (by decide)) hZ (hw _ (List.mem_of_getElem? (i := 6) rfl)) (hw _ (List.mem_of_getElem? (i := 5) rfl)) (by decide) (by decide)) (g := (mkF m 152 #[.val (.int p0), .val (.long q1), .second, .val (.long fr), .second, .val (.int q), .val (.double pw), .second, .val (.double va), .second, .unset, .unset, .unset, .unset, .unset, .unset, .unset] [(.double va)])) rfl (by rw [hml]; rfl) (argsL := [(.double va)]) (rest := []) (lenOf pd_3 rfl) rfl (by show 2 * 0 + _ ≤ _; exact Nat.le_of_eq rfl) (hb hby at_152) (fun _ _ => ⟨rfl, e0, (by decide : 0 + 0 ≤ _), (by decide : 0 + 0 ≤ _)⟩)
  dsimp only [Pt.U, Pt.locs, Pt.cells, Pt.slots] at X1 l1 y1 z1 st1 hQ1
  subst l1 y1 z1
  obtain ⟨rfl, N1a, e1⟩ := hQ1
  have N1 := Fr.app N0 N1a
  obtain ⟨fs, hr, hrun, hended, hW, hsame⟩ := X1.leave (v := some (.int (1 : Int32))) (fun h => by rw [Bd.returns] at h; cases h)
  refine ⟨_, _, pre0 _ ?_, hrun, hended, _, _, rfl, ?_, ⟨_, rfl⟩, hW, hsame.mono (Nat.le_of_ble_eq_true rfl) (Nat.le_of_ble_eq_true rfl)⟩
  · show Steps p.tables e below (s₁.setTop (mkF m 0 #[.val (.int p0), .val (.long q1), .second, .unset, .unset, .unset, .unset, .unset, .unset, .unset, .unset, .unset, .unset, .unset, .unset, .unset, .unset] [])) _
    refine XS.lloadN X0.here hx rfl (hb hby at_0) rfl ?_
    show Steps p.tables e below (s₁.setTop (mkF m 1 #[.val (.int p0), .val (.long q1), .second, .unset, .unset, .unset, .unset, .unset, .unset, .unset, .unset, .unset, .unset, .unset, .unset, .unset, .unset] [(.long q1)])) _
    refine X0.ldc2Long hx hown (mvT hZ (hw _ (List.mem_of_getElem? (i := 0) rfl))) (g := (mkF m 1 #[.val (.int p0), .val (.long q1), .second, .unset, .unset, .unset, .unset, .unset, .unset, .unset, .unset, .unset, .unset, .unset, .unset, .unset, .unset] [(.long q1)])) rfl (hb hby at_1) _ ?_
    show Steps p.tables e below (s₁.setTop (mkF m 4 #[.val (.int p0), .val (.long q1), .second, .unset, .unset, .unset, .unset, .unset, .unset, .unset, .unset, .unset, .unset, .unset, .unset, .unset, .unset] [(.long (4503599627370495 : Int64)), (.long q1)])) _
    refine XS.land X0.here hx rfl (hb hby at_4) rfl ?_
    show Steps p.tables e below (s₁.setTop (mkF m 5 #[.val (.int p0), .val (.long q1), .second, .unset, .unset, .unset, .unset, .unset, .unset, .unset, .unset, .unset, .unset, .unset, .unset, .unset, .unset] [(.long (q1 &&& (4503599627370495 : Int64)))])) _
    refine XS.lstoreN X0.here hx rfl (hb hby at_5) rfl (l' := #[.val (.int p0), .val (.long q1), .second, .val (.long (q1 &&& (4503599627370495 : Int64))), .second, .unset, .unset, .unset, .unset, .unset, .unset, .unset, .unset, .unset, .unset, .unset, .unset]) rfl ?_
    show Steps p.tables e below (s₁.setTop (mkF m 6 #[.val (.int p0), .val (.long q1), .second, .val (.long (q1 &&& (4503599627370495 : Int64))), .second, .unset, .unset, .unset, .unset, .unset, .unset, .unset, .unset, .unset, .unset, .unset, .unset] [])) _
    refine XS.iloadN X0.here hx rfl (hb hby at_6) rfl ?_
    show Steps p.tables e below (s₁.setTop (mkF m 7 #[.val (.int p0), .val (.long q1), .second, .val (.long (q1 &&& (4503599627370495 : Int64))), .second, .unset, .unset, .unset, .unset, .unset, .unset, .unset, .unset, .unset, .unset, .unset, .unset] [(.int p0)])) _
    refine XS.bipush X0.here hx rfl (hb hby at_7) ?_
    show Steps p.tables e below (s₁.setTop (mkF m 9 #[.val (.int p0), .val (.long q1), .second, .val (.long (q1 &&& (4503599627370495 : Int64))), .second, .unset, .unset, .unset, .unset, .unset, .unset, .unset, .unset, .unset, .unset, .unset, .unset] [(.int (9 : Int32)), (.int p0)])) _
    refine XS.iushr X0.here hx rfl (hb hby at_9) rfl ?_
    show Steps p.tables e below (s₁.setTop (mkF m 10 #[.val (.int p0), .val (.long q1), .second, .val (.long (q1 &&& (4503599627370495 : Int64))), .second, .unset, .unset, .unset, .unset, .unset, .unset, .unset, .unset, .unset, .unset, .unset, .unset] [(.int ((p0.toUInt32 >>> ((9 : Int32) &&& 31).toUInt32).toInt32))])) _
    refine XS.iconst X0.here hx rfl (hb hby at_10) ?_
    show Steps p.tables e below (s₁.setTop (mkF m 11 #[.val (.int p0), .val (.long q1), .second, .val (.long (q1 &&& (4503599627370495 : Int64))), .second, .unset, .unset, .unset, .unset, .unset, .unset, .unset, .unset, .unset, .unset, .unset, .unset] [(.int (1 : Int32)), (.int ((p0.toUInt32 >>> ((9 : Int32) &&& 31).toUInt32).toInt32))])) _
    refine XS.iand X0.here hx rfl (hb hby at_11) rfl ?_
    show Steps p.tables e below (s₁.setTop (mkF m 12 #[.val (.int p0), .val (.long q1), .second, .val (.long (q1 &&& (4503599627370495 : Int64))), .second, .unset, .unset, .unset, .unset, .unset, .unset, .unset, .unset, .unset, .unset, .unset, .unset] [(.int (((p0.toUInt32 >>> ((9 : Int32) &&& 31).toUInt32).toInt32) &&& (1 : Int32)))])) _
    refine pre12 _ ?_
    show Steps p.tables e below (s₁.setTop (mkF m 17 #[.val (.int p0), .val (.long q1), .second, .val (.long fr), .second, .unset, .unset, .unset, .unset, .unset, .unset, .unset, .unset, .unset, .unset, .unset, .unset] [])) _
    refine XS.iloadN X0.here hx rfl (hb hby at_17) rfl ?_
    show Steps p.tables e below (s₁.setTop (mkF m 18 #[.val (.int p0), .val (.long q1), .second, .val (.long fr), .second, .unset, .unset, .unset, .unset, .unset, .unset, .unset, .unset, .unset, .unset, .unset, .unset] [(.int p0)])) _
    refine XS.bipush X0.here hx rfl (hb hby at_18) ?_
    show Steps p.tables e below (s₁.setTop (mkF m 20 #[.val (.int p0), .val (.long q1), .second, .val (.long fr), .second, .unset, .unset, .unset, .unset, .unset, .unset, .unset, .unset, .unset, .unset, .unset, .unset] [(.int (7 : Int32)), (.int p0)])) _
    refine XS.iushr X0.here hx rfl (hb hby at_20) rfl ?_
    show Steps p.tables e below (s₁.setTop (mkF m 21 #[.val (.int p0), .val (.long q1), .second, .val (.long fr), .second, .unset, .unset, .unset, .unset, .unset, .unset, .unset, .unset, .unset, .unset, .unset, .unset] [(.int ((p0.toUInt32 >>> ((7 : Int32) &&& 31).toUInt32).toInt32))])) _
    refine XS.iconst X0.here hx rfl (hb hby at_21) ?_
    show Steps p.tables e below (s₁.setTop (mkF m 22 #[.val (.int p0), .val (.long q1), .second, .val (.long fr), .second, .unset, .unset, .unset, .unset, .unset, .unset, .unset, .unset, .unset, .unset, .unset, .unset] [(.int (3 : Int32)), (.int ((p0.toUInt32 >>> ((7 : Int32) &&& 31).toUInt32).toInt32))])) _
    refine XS.iand X0.here hx rfl (hb hby at_22) rfl ?_
    show Steps p.tables e below (s₁.setTop (mkF m 23 #[.val (.int p0), .val (.long q1), .second, .val (.long fr), .second, .unset, .unset, .unset, .unset, .unset, .unset, .unset, .unset, .unset, .unset, .unset, .unset] [(.int (((p0.toUInt32 >>> ((7 : Int32) &&& 31).toUInt32).toInt32) &&& (3 : Int32)))])) _
    refine XS.ifYes X0.here hx rfl (pc0 := 23) (pc' := 104) rfl (hb hby at_23) rfl b23 (by decide) (by decide) ?_
    show Steps p.tables e below (s₁.setTop (mkF m 104 #[.val (.int p0), .val (.long q1), .second, .val (.long fr), .second, .unset, .unset, .unset, .unset, .unset, .unset, .unset, .unset, .unset, .unset, .unset, .unset] [])) _
    refine XS.iloadN X0.here hx rfl (hb hby at_104) rfl ?_
    show Steps p.tables e below (s₁.setTop (mkF m 105 #[.val (.int p0), .val (.long q1), .second, .val (.long fr), .second, .unset, .unset, .unset, .unset, .unset, .unset, .unset, .unset, .unset, .unset, .unset, .unset] [(.int p0)])) _
    refine XS.bipush X0.here hx rfl (hb hby at_105) ?_
    show Steps p.tables e below (s₁.setTop (mkF m 107 #[.val (.int p0), .val (.long q1), .second, .val (.long fr), .second, .unset, .unset, .unset, .unset, .unset, .unset, .unset, .unset, .unset, .unset, .unset, .unset] [(.int (127 : Int32)), (.int p0)])) _
    refine XS.iand X0.here hx rfl (hb hby at_107) rfl ?_
    show Steps p.tables e below (s₁.setTop (mkF m 108 #[.val (.int p0), .val (.long q1), .second, .val (.long fr), .second, .unset, .unset, .unset, .unset, .unset, .unset, .unset, .unset, .unset, .unset, .unset, .unset] [(.int (p0 &&& (127 : Int32)))])) _
    refine XS.bipush X0.here hx rfl (hb hby at_108) ?_
    show Steps p.tables e below (s₁.setTop (mkF m 110 #[.val (.int p0), .val (.long q1), .second, .val (.long fr), .second, .unset, .unset, .unset, .unset, .unset, .unset, .unset, .unset, .unset, .unset, .unset, .unset] [(.int (115 : Int32)), (.int (p0 &&& (127 : Int32)))])) _
    refine XS.irem X0.here hx rfl (hb hby at_110) rfl (by decide) ?_
    show Steps p.tables e below (s₁.setTop (mkF m 111 #[.val (.int p0), .val (.long q1), .second, .val (.long fr), .second, .unset, .unset, .unset, .unset, .unset, .unset, .unset, .unset, .unset, .unset, .unset, .unset] [(.int ((p0 &&& (127 : Int32)) - ((p0 &&& (127 : Int32)) / (115 : Int32)) * (115 : Int32)))])) _
    refine XS.bipush X0.here hx rfl (hb hby at_111) ?_
    show Steps p.tables e below (s₁.setTop (mkF m 113 #[.val (.int p0), .val (.long q1), .second, .val (.long fr), .second, .unset, .unset, .unset, .unset, .unset, .unset, .unset, .unset, .unset, .unset, .unset, .unset] [(.int (56 : Int32)), (.int ((p0 &&& (127 : Int32)) - ((p0 &&& (127 : Int32)) / (115 : Int32)) * (115 : Int32)))])) _
    refine XS.isub X0.here hx rfl (hb hby at_113) rfl ?_
    show Steps p.tables e below (s₁.setTop (mkF m 114 #[.val (.int p0), .val (.long q1), .second, .val (.long fr), .second, .unset, .unset, .unset, .unset, .unset, .unset, .unset, .unset, .unset, .unset, .unset, .unset] [(.int (((p0 &&& (127 : Int32)) - ((p0 &&& (127 : Int32)) / (115 : Int32)) * (115 : Int32)) - (56 : Int32)))])) _
    rw [← hq]
    show Steps p.tables e below (s₁.setTop (mkF m 114 #[.val (.int p0), .val (.long q1), .second, .val (.long fr), .second, .unset, .unset, .unset, .unset, .unset, .unset, .unset, .unset, .unset, .unset, .unset, .unset] [(.int q)])) _
    refine XS.istore X0.here hx rfl (hb hby at_114) rfl (l' := #[.val (.int p0), .val (.long q1), .second, .val (.long fr), .second, .val (.int q), .unset, .unset, .unset, .unset, .unset, .unset, .unset, .unset, .unset, .unset, .unset]) rfl ?_
    show Steps p.tables e below (s₁.setTop (mkF m 116 #[.val (.int p0), .val (.long q1), .second, .val (.long fr), .second, .val (.int q), .unset, .unset, .unset, .unset, .unset, .unset, .unset, .unset, .unset, .unset, .unset] [])) _
    refine XS.iload X0.here hx rfl (hb hby at_116) rfl ?_
    show Steps p.tables e below (s₁.setTop (mkF m 118 #[.val (.int p0), .val (.long q1), .second, .val (.long fr), .second, .val (.int q), .unset, .unset, .unset, .unset, .unset, .unset, .unset, .unset, .unset, .unset, .unset] [(.int q)])) _
    refine XS.ifNo X0.here hx rfl (hb hby at_118) rfl b118 ?_
    show Steps p.tables e below (s₁.setTop (mkF m 121 #[.val (.int p0), .val (.long q1), .second, .val (.long fr), .second, .val (.int q), .unset, .unset, .unset, .unset, .unset, .unset, .unset, .unset, .unset, .unset, .unset] [])) _
    refine XS.lconst X0.here hx rfl (hb hby at_121) ?_
    show Steps p.tables e below (s₁.setTop (mkF m 122 #[.val (.int p0), .val (.long q1), .second, .val (.long fr), .second, .val (.int q), .unset, .unset, .unset, .unset, .unset, .unset, .unset, .unset, .unset, .unset, .unset] [(.long (1 : Int64))])) _
    refine XS.iload X0.here hx rfl (hb hby at_122) rfl ?_
    show Steps p.tables e below (s₁.setTop (mkF m 124 #[.val (.int p0), .val (.long q1), .second, .val (.long fr), .second, .val (.int q), .unset, .unset, .unset, .unset, .unset, .unset, .unset, .unset, .unset, .unset, .unset] [(.int q), (.long (1 : Int64))])) _
    refine XS.lshl X0.here hx rfl (hb hby at_124) rfl ?_
    show Steps p.tables e below (s₁.setTop (mkF m 125 #[.val (.int p0), .val (.long q1), .second, .val (.long fr), .second, .val (.int q), .unset, .unset, .unset, .unset, .unset, .unset, .unset, .unset, .unset, .unset, .unset] [(.long ((1 : Int64) <<< (q &&& 0x3f).toInt64))])) _
    refine XS.l2dS X0.here hx rfl (hb hby at_125) rfl rfl ?_
    show Steps p.tables e below (s₁.setTop (mkF m 126 #[.val (.int p0), .val (.long q1), .second, .val (.long fr), .second, .val (.int q), .unset, .unset, .unset, .unset, .unset, .unset, .unset, .unset, .unset, .unset, .unset] [(.double (FP.l2d ((1 : Int64) <<< (q &&& 0x3f).toInt64)))])) _
    refine XS.goto X0.here hx rfl (pc0 := 126) (pc' := 137) rfl (hb hby at_126) (by decide) (by decide) ?_
    show Steps p.tables e below (s₁.setTop (mkF m 137 #[.val (.int p0), .val (.long q1), .second, .val (.long fr), .second, .val (.int q), .unset, .unset, .unset, .unset, .unset, .unset, .unset, .unset, .unset, .unset, .unset] [(.double (FP.l2d ((1 : Int64) <<< (q &&& 0x3f).toInt64)))])) _
    rw [← hpw]
    show Steps p.tables e below (s₁.setTop (mkF m 137 #[.val (.int p0), .val (.long q1), .second, .val (.long fr), .second, .val (.int q), .unset, .unset, .unset, .unset, .unset, .unset, .unset, .unset, .unset, .unset, .unset] [(.double pw)])) _
    refine XS.dstore X0.here hx rfl (hb hby at_137) rfl (l' := #[.val (.int p0), .val (.long q1), .second, .val (.long fr), .second, .val (.int q), .val (.double pw), .second, .unset, .unset, .unset, .unset, .unset, .unset, .unset, .unset, .unset]) rfl ?_
    show Steps p.tables e below (s₁.setTop (mkF m 139 #[.val (.int p0), .val (.long q1), .second, .val (.long fr), .second, .val (.int q), .val (.double pw), .second, .unset, .unset, .unset, .unset, .unset, .unset, .unset, .unset, .unset] [])) _
    refine X0.ldc2Long hx hown (mvT hZ (hw _ (List.mem_of_getElem? (i := 18) rfl))) (g := (mkF m 139 #[.val (.int p0), .val (.long q1), .second, .val (.long fr), .second, .val (.int q), .val (.double pw), .second, .unset, .unset, .unset, .unset, .unset, .unset, .unset, .unset, .unset] [])) rfl (hb hby at_139) _ ?_
    show Steps p.tables e below (s₁.setTop (mkF m 142 #[.val (.int p0), .val (.long q1), .second, .val (.long fr), .second, .val (.int q), .val (.double pw), .second, .unset, .unset, .unset, .unset, .unset, .unset, .unset, .unset, .unset] [(.long (4503599627370496 : Int64))])) _
    refine XS.lloadN X0.here hx rfl (hb hby at_142) rfl ?_
    show Steps p.tables e below (s₁.setTop (mkF m 143 #[.val (.int p0), .val (.long q1), .second, .val (.long fr), .second, .val (.int q), .val (.double pw), .second, .unset, .unset, .unset, .unset, .unset, .unset, .unset, .unset, .unset] [(.long fr), (.long (4503599627370496 : Int64))])) _
    refine XS.lor X0.here hx rfl (hb hby at_143) rfl ?_
    show Steps p.tables e below (s₁.setTop (mkF m 144 #[.val (.int p0), .val (.long q1), .second, .val (.long fr), .second, .val (.int q), .val (.double pw), .second, .unset, .unset, .unset, .unset, .unset, .unset, .unset, .unset, .unset] [(.long ((4503599627370496 : Int64) ||| fr))])) _
    refine XS.l2dS X0.here hx rfl (hb hby at_144) rfl rfl ?_
    show Steps p.tables e below (s₁.setTop (mkF m 145 #[.val (.int p0), .val (.long q1), .second, .val (.long fr), .second, .val (.int q), .val (.double pw), .second, .unset, .unset, .unset, .unset, .unset, .unset, .unset, .unset, .unset] [(.double (FP.l2d ((4503599627370496 : Int64) ||| fr)))])) _
    refine XS.dload X0.here hx rfl (hb hby at_145) rfl ?_
    show Steps p.tables e below (s₁.setTop (mkF m 147 #[.val (.int p0), .val (.long q1), .second, .val (.long fr), .second, .val (.int q), .val (.double pw), .second, .unset, .unset, .unset, .unset, .unset, .unset, .unset, .unset, .unset] [(.double pw), (.double (FP.l2d ((4503599627370496 : Int64) ||| fr)))])) _
    refine XS.dmulS X0.here hx rfl (hb hby at_147) rfl n147 rfl ?_
    show Steps p.tables e below (s₁.setTop (mkF m 148 #[.val (.int p0), .val (.long q1), .second, .val (.long fr), .second, .val (.int q), .val (.double pw), .second, .unset, .unset, .unset, .unset, .unset, .unset, .unset, .unset, .unset] [(.double (FP.dmul (FP.l2d ((4503599627370496 : Int64) ||| fr)) pw))])) _
    rw [← hva]
    show Steps p.tables e below (s₁.setTop (mkF m 148 #[.val (.int p0), .val (.long q1), .second, .val (.long fr), .second, .val (.int q), .val (.double pw), .second, .unset, .unset, .unset, .unset, .unset, .unset, .unset, .unset, .unset] [(.double va)])) _
    refine XS.dstore X0.here hx rfl (hb hby at_148) rfl (l' := #[.val (.int p0), .val (.long q1), .second, .val (.long fr), .second, .val (.int q), .val (.double pw), .second, .val (.double va), .second, .unset, .unset, .unset, .unset, .unset, .unset, .unset]) rfl ?_
    show Steps p.tables e below (s₁.setTop (mkF m 150 #[.val (.int p0), .val (.long q1), .second, .val (.long fr), .second, .val (.int q), .val (.double pw), .second, .val (.double va), .second, .unset, .unset, .unset, .unset, .unset, .unset, .unset] [])) _
    refine XS.dload X0.here hx rfl (hb hby at_150) rfl ?_
    show Steps p.tables e below (s₁.setTop (mkF m 152 #[.val (.int p0), .val (.long q1), .second, .val (.long fr), .second, .val (.int q), .val (.double pw), .second, .val (.double va), .second, .unset, .unset, .unset, .unset, .unset, .unset, .unset] [(.double va)])) _
    refine st1 _ ?_
    show Steps p.tables e below (T1.setTop (mkF m 155 #[.val (.int p0), .val (.long q1), .second, .val (.long fr), .second, .val (.int q), .val (.double pw), .second, .val (.double va), .second, .unset, .unset, .unset, .unset, .unset, .unset, .unset] [(.int (own_f34 (((-1074 : Int32) + be) - (1 : Int32))))])) _
    rw [← hkk]
    show Steps p.tables e below (T1.setTop (mkF m 155 #[.val (.int p0), .val (.long q1), .second, .val (.long fr), .second, .val (.int q), .val (.double pw), .second, .val (.double va), .second, .unset, .unset, .unset, .unset, .unset, .unset, .unset] [(.int kk)])) _
    refine XS.istore X1.here hx rfl (hb hby at_155) rfl (l' := #[.val (.int p0), .val (.long q1), .second, .val (.long fr), .second, .val (.int q), .val (.double pw), .second, .val (.double va), .second, .val (.int kk), .unset, .unset, .unset, .unset, .unset, .unset]) rfl ?_
    show Steps p.tables e below (T1.setTop (mkF m 157 #[.val (.int p0), .val (.long q1), .second, .val (.long fr), .second, .val (.int q), .val (.double pw), .second, .val (.double va), .second, .val (.int kk), .unset, .unset, .unset, .unset, .unset, .unset] [])) _
    refine XS.lloadN X1.here hx rfl (hb hby at_157) rfl ?_
    show Steps p.tables e below (T1.setTop (mkF m 158 #[.val (.int p0), .val (.long q1), .second, .val (.long fr), .second, .val (.int q), .val (.double pw), .second, .val (.double va), .second, .val (.int kk), .unset, .unset, .unset, .unset, .unset, .unset] [(.long fr)])) _
    refine XS.lconst X1.here hx rfl (hb hby at_158) ?_
    show Steps p.tables e below (T1.setTop (mkF m 159 #[.val (.int p0), .val (.long q1), .second, .val (.long fr), .second, .val (.int q), .val (.double pw), .second, .val (.double va), .second, .val (.int kk), .unset, .unset, .unset, .unset, .unset, .unset] [(.long (0 : Int64)), (.long fr)])) _
    refine XS.lcmp X1.here hx rfl (hb hby at_159) rfl ?_
    show Steps p.tables e below (T1.setTop (mkF m 160 #[.val (.int p0), .val (.long q1), .second, .val (.long fr), .second, .val (.int q), .val (.double pw), .second, .val (.double va), .second, .val (.int kk), .unset, .unset, .unset, .unset, .unset, .unset] [(.int (if fr > (0 : Int64) then 1 else if fr = (0 : Int64) then 0 else -1))])) _
    refine XS.ifNo X1.here hx rfl (hb hby at_160) rfl b160 ?_
    show Steps p.tables e below (T1.setTop (mkF m 163 #[.val (.int p0), .val (.long q1), .second, .val (.long fr), .second, .val (.int q), .val (.double pw), .second, .val (.double va), .second, .val (.int kk), .unset, .unset, .unset, .unset, .unset, .unset] [])) _
    refine X1.ldc2Long hx hown (mvT hZ (hw _ (List.mem_of_getElem? (i := 34) rfl))) (g := (mkF m 163 #[.val (.int p0), .val (.long q1), .second, .val (.long fr), .second, .val (.int q), .val (.double pw), .second, .val (.double va), .second, .val (.int kk), .unset, .unset, .unset, .unset, .unset, .unset] [])) rfl (hb hby at_163) _ ?_
    show Steps p.tables e below (T1.setTop (mkF m 166 #[.val (.int p0), .val (.long q1), .second, .val (.long fr), .second, .val (.int q), .val (.double pw), .second, .val (.double va), .second, .val (.int kk), .unset, .unset, .unset, .unset, .unset, .unset] [(.long (3 : Int64))])) _
    refine XS.goto X1.here hx rfl (pc0 := 166) (pc' := 172) rfl (hb hby at_166) (by decide) (by decide) ?_
    show Steps p.tables e below (T1.setTop (mkF m 172 #[.val (.int p0), .val (.long q1), .second, .val (.long fr), .second, .val (.int q), .val (.double pw), .second, .val (.double va), .second, .val (.int kk), .unset, .unset, .unset, .unset, .unset, .unset] [(.long (3 : Int64))])) _
    refine XS.lstore X1.here hx rfl (hb hby at_172) rfl (l' := #[.val (.int p0), .val (.long q1), .second, .val (.long fr), .second, .val (.int q), .val (.double pw), .second, .val (.double va), .second, .val (.int kk), .val (.long (3 : Int64)), .second, .unset, .unset, .unset, .unset]) rfl ?_
    show Steps p.tables e below (T1.setTop (mkF m 174 #[.val (.int p0), .val (.long q1), .second, .val (.long fr), .second, .val (.int q), .val (.double pw), .second, .val (.double va), .second, .val (.int kk), .val (.long (3 : Int64)), .second, .unset, .unset, .unset, .unset] [])) _
    refine XS.iconst X1.here hx rfl (hb hby at_174) ?_
    show Steps p.tables e below (T1.setTop (mkF m 175 #[.val (.int p0), .val (.long q1), .second, .val (.long fr), .second, .val (.int q), .val (.double pw), .second, .val (.double va), .second, .val (.int kk), .val (.long (3 : Int64)), .second, .unset, .unset, .unset, .unset] [(.int (2 : Int32))])) _
    refine XS.iload X1.here hx rfl (hb hby at_175) rfl ?_
    show Steps p.tables e below (T1.setTop (mkF m 177 #[.val (.int p0), .val (.long q1), .second, .val (.long fr), .second, .val (.int q), .val (.double pw), .second, .val (.double va), .second, .val (.int kk), .val (.long (3 : Int64)), .second, .unset, .unset, .unset, .unset] [(.int q), (.int (2 : Int32))])) _
    refine XS.isub X1.here hx rfl (hb hby at_177) rfl ?_
    show Steps p.tables e below (T1.setTop (mkF m 178 #[.val (.int p0), .val (.long q1), .second, .val (.long fr), .second, .val (.int q), .val (.double pw), .second, .val (.double va), .second, .val (.int kk), .val (.long (3 : Int64)), .second, .unset, .unset, .unset, .unset] [(.int ((2 : Int32) - q))])) _
    rw [← htt]
    show Steps p.tables e below (T1.setTop (mkF m 178 #[.val (.int p0), .val (.long q1), .second, .val (.long fr), .second, .val (.int q), .val (.double pw), .second, .val (.double va), .second, .val (.int kk), .val (.long (3 : Int64)), .second, .unset, .unset, .unset, .unset] [(.int tt)])) _
    refine XS.istore X1.here hx rfl (hb hby at_178) rfl (l' := #[.val (.int p0), .val (.long q1), .second, .val (.long fr), .second, .val (.int q), .val (.double pw), .second, .val (.double va), .second, .val (.int kk), .val (.long (3 : Int64)), .second, .val (.int tt), .unset, .unset, .unset]) rfl ?_
    show Steps p.tables e below (T1.setTop (mkF m 180 #[.val (.int p0), .val (.long q1), .second, .val (.long fr), .second, .val (.int q), .val (.double pw), .second, .val (.double va), .second, .val (.int kk), .val (.long (3 : Int64)), .second, .val (.int tt), .unset, .unset, .unset] [])) _
    refine XS.iload X1.here hx rfl (hb hby at_180) rfl ?_
    show Steps p.tables e below (T1.setTop (mkF m 182 #[.val (.int p0), .val (.long q1), .second, .val (.long fr), .second, .val (.int q), .val (.double pw), .second, .val (.double va), .second, .val (.int kk), .val (.long (3 : Int64)), .second, .val (.int tt), .unset, .unset, .unset] [(.int tt)])) _
    refine XS.ifYes X1.here hx rfl (pc0 := 182) (pc' := 237) rfl (hb hby at_182) rfl b182 (by decide) (by decide) ?_
    show Steps p.tables e below (T1.setTop (mkF m 237 #[.val (.int p0), .val (.long q1), .second, .val (.long fr), .second, .val (.int q), .val (.double pw), .second, .val (.double va), .second, .val (.int kk), .val (.long (3 : Int64)), .second, .val (.int tt), .unset, .unset, .unset] [])) _
    refine XS.iload X1.here hx rfl (hb hby at_237) rfl ?_
    show Steps p.tables e below (T1.setTop (mkF m 239 #[.val (.int p0), .val (.long q1), .second, .val (.long fr), .second, .val (.int q), .val (.double pw), .second, .val (.double va), .second, .val (.int kk), .val (.long (3 : Int64)), .second, .val (.int tt), .unset, .unset, .unset] [(.int kk)])) _
    refine XS.ifNo X1.here hx rfl (hb hby at_239) rfl b239 ?_
    show Steps p.tables e below (T1.setTop (mkF m 242 #[.val (.int p0), .val (.long q1), .second, .val (.long fr), .second, .val (.int q), .val (.double pw), .second, .val (.double va), .second, .val (.int kk), .val (.long (3 : Int64)), .second, .val (.int tt), .unset, .unset, .unset] [])) _
    refine XS.iload X1.here hx rfl (hb hby at_242) rfl ?_
    show Steps p.tables e below (T1.setTop (mkF m 244 #[.val (.int p0), .val (.long q1), .second, .val (.long fr), .second, .val (.int q), .val (.double pw), .second, .val (.double va), .second, .val (.int kk), .val (.long (3 : Int64)), .second, .val (.int tt), .unset, .unset, .unset] [(.int kk)])) _
    refine XS.ifNo X1.here hx rfl (hb hby at_244) rfl b244 ?_
    show Steps p.tables e below (T1.setTop (mkF m 247 #[.val (.int p0), .val (.long q1), .second, .val (.long fr), .second, .val (.int q), .val (.double pw), .second, .val (.double va), .second, .val (.int kk), .val (.long (3 : Int64)), .second, .val (.int tt), .unset, .unset, .unset] [])) _
    refine XS.iload X1.here hx rfl (hb hby at_247) rfl ?_
    show Steps p.tables e below (T1.setTop (mkF m 249 #[.val (.int p0), .val (.long q1), .second, .val (.long fr), .second, .val (.int q), .val (.double pw), .second, .val (.double va), .second, .val (.int kk), .val (.long (3 : Int64)), .second, .val (.int tt), .unset, .unset, .unset] [(.int tt)])) _
    refine XS.iconst X1.here hx rfl (hb hby at_249) ?_
    show Steps p.tables e below (T1.setTop (mkF m 250 #[.val (.int p0), .val (.long q1), .second, .val (.long fr), .second, .val (.int q), .val (.double pw), .second, .val (.double va), .second, .val (.int kk), .val (.long (3 : Int64)), .second, .val (.int tt), .unset, .unset, .unset] [(.int (2 : Int32)), (.int tt)])) _
    refine XS.icmpNo X1.here hx rfl (hb hby at_250) rfl b250 ?_
    show Steps p.tables e below (T1.setTop (mkF m 253 #[.val (.int p0), .val (.long q1), .second, .val (.long fr), .second, .val (.int q), .val (.double pw), .second, .val (.double va), .second, .val (.int kk), .val (.long (3 : Int64)), .second, .val (.int tt), .unset, .unset, .unset] [])) _
    refine XS.lconst X1.here hx rfl (hb hby at_253) ?_
    show Steps p.tables e below (T1.setTop (mkF m 254 #[.val (.int p0), .val (.long q1), .second, .val (.long fr), .second, .val (.int q), .val (.double pw), .second, .val (.double va), .second, .val (.int kk), .val (.long (3 : Int64)), .second, .val (.int tt), .unset, .unset, .unset] [(.long (1 : Int64))])) _
    refine XS.iload X1.here hx rfl (hb hby at_254) rfl ?_
    show Steps p.tables e below (T1.setTop (mkF m 256 #[.val (.int p0), .val (.long q1), .second, .val (.long fr), .second, .val (.int q), .val (.double pw), .second, .val (.double va), .second, .val (.int kk), .val (.long (3 : Int64)), .second, .val (.int tt), .unset, .unset, .unset] [(.int tt), (.long (1 : Int64))])) _
    refine XS.lshl X1.here hx rfl (hb hby at_256) rfl ?_
    show Steps p.tables e below (T1.setTop (mkF m 257 #[.val (.int p0), .val (.long q1), .second, .val (.long fr), .second, .val (.int q), .val (.double pw), .second, .val (.double va), .second, .val (.int kk), .val (.long (3 : Int64)), .second, .val (.int tt), .unset, .unset, .unset] [(.long ((1 : Int64) <<< (tt &&& 0x3f).toInt64))])) _
    refine XS.lload X1.here hx rfl (hb hby at_257) rfl ?_
    show Steps p.tables e below (T1.setTop (mkF m 259 #[.val (.int p0), .val (.long q1), .second, .val (.long fr), .second, .val (.int q), .val (.double pw), .second, .val (.double va), .second, .val (.int kk), .val (.long (3 : Int64)), .second, .val (.int tt), .unset, .unset, .unset] [(.long (3 : Int64)), (.long ((1 : Int64) <<< (tt &&& 0x3f).toInt64))])) _
    refine XS.lcmp X1.here hx rfl (hb hby at_259) rfl ?_
    show Steps p.tables e below (T1.setTop (mkF m 260 #[.val (.int p0), .val (.long q1), .second, .val (.long fr), .second, .val (.int q), .val (.double pw), .second, .val (.double va), .second, .val (.int kk), .val (.long (3 : Int64)), .second, .val (.int tt), .unset, .unset, .unset] [(.int (if ((1 : Int64) <<< (tt &&& 0x3f).toInt64) > (3 : Int64) then 1 else if ((1 : Int64) <<< (tt &&& 0x3f).toInt64) = (3 : Int64) then 0 else -1))])) _
    refine XS.ifNo X1.here hx rfl (hb hby at_260) rfl b260 ?_
    show Steps p.tables e below (T1.setTop (mkF m 263 #[.val (.int p0), .val (.long q1), .second, .val (.long fr), .second, .val (.int q), .val (.double pw), .second, .val (.double va), .second, .val (.int kk), .val (.long (3 : Int64)), .second, .val (.int tt), .unset, .unset, .unset] [])) _
    refine XS.iconst X1.here hx rfl (hb hby at_263) ?_
    show Steps p.tables e below (T1.setTop (mkF m 264 #[.val (.int p0), .val (.long q1), .second, .val (.long fr), .second, .val (.int q), .val (.double pw), .second, .val (.double va), .second, .val (.int kk), .val (.long (3 : Int64)), .second, .val (.int tt), .unset, .unset, .unset] [(.int (1 : Int32))])) _
    refine XS.goto X1.here hx rfl (pc0 := 264) (pc' := 268) rfl (hb hby at_264) (by decide) (by decide) ?_
    show Steps p.tables e below (T1.setTop (mkF m 268 #[.val (.int p0), .val (.long q1), .second, .val (.long fr), .second, .val (.int q), .val (.double pw), .second, .val (.double va), .second, .val (.int kk), .val (.long (3 : Int64)), .second, .val (.int tt), .unset, .unset, .unset] [(.int (1 : Int32))])) _
    exact retN X1 hx (t := .boolean) Bd.returns (by simp) (hb hby at_268) hr
  · show QL n0 _ T1.heap _
    exact ⟨rfl, N1⟩
theorem ef_rmB1 (m : MethodId) (x0 : Int32) (x1 : Int64) : entryFrame m #[(.int x0), (.long x1)] maxLocals = mkF m 0 #[.val (.int x0), .val (.long x1), .second, .unset, .unset, .unset, .unset, .unset, .unset, .unset, .unset, .unset, .unset, .unset, .unset, .unset, .unset] [] := by first | (simp [entryFrame, mkF, argsToLocals, Value.category, maxLocals]; done) | rfl
set_option maxRecDepth 65536 in
set_option maxHeartbeats 40000000 in
theorem rmB1 (l : Launch) (Z : State) (a0 : Array Value) (hw : ∀ d ∈ tables_1, d.before a0 Z = true) (ws : List Jvm.Cond)  (p0 : Int32) (q1 : Int64) (fr : Int64) (q : Int32) (pw : UInt64) (va : UInt64) (be : Int32) (kk : Int32) (tt : Int32) (h0 : Heap) (n0 : Nat) (Z0 : n0 ≤ h0.size) 
    (hfr : fr = cond (ifCond.holds .eq (((p0.toUInt32 >>> ((9 : Int32) &&& 31).toUInt32).toInt32) &&& (1 : Int32))) (q1 &&& (4503599627370495 : Int64)) (0 : Int64))
    (b23 : ifCond.holds .ne (((p0.toUInt32 >>> ((7 : Int32) &&& 31).toUInt32).toInt32) &&& (3 : Int32)) = true)
    (hq : q = (((p0 &&& (127 : Int32)) - ((p0 &&& (127 : Int32)) / (115 : Int32)) * (115 : Int32)) - (56 : Int32)))
    (b118 : ifCond.holds .lt q = false)
    (hpw : pw = (FP.l2d ((1 : Int64) <<< (q &&& 0x3f).toInt64)))
    (n147 : NoNaN64 (FP.dmul (FP.l2d ((4503599627370496 : Int64) ||| fr)) pw))
    (hva : va = (FP.dmul (FP.l2d ((4503599627370496 : Int64) ||| fr)) pw))
    (hbe : be = ((va.toInt64.toUInt64 >>> ((52 : Int32) &&& 0x3f).toInt64.toUInt64).toInt64).toInt32)
    (d14 : ifCond.holds .ne be = true)
    (v0 : ifCond.holds .ne (if (va.toInt64 &&& (4503599627370495 : Int64)) > (0 : Int64) then 1 else if (va.toInt64 &&& (4503599627370495 : Int64)) = (0 : Int64) then 0 else -1) = true)
    (hkk : kk = (own_f10 (((-1074 : Int32) + be) - (1 : Int32))))
    (b160 : ifCond.holds .ne (if fr > (0 : Int64) then 1 else if fr = (0 : Int64) then 0 else -1) = true)
    (htt : tt = ((2 : Int32) - q))
    (b182 : ifCond.holds .gt tt = true)
    (b239 : ifCond.holds .lt kk = false)
    (b244 : ifCond.holds .ne kk = false)
    (b250 : if_icmp.holds .gt tt (2 : Int32) = false)
    (b260 : ifCond.holds .gt (if ((1 : Int64) <<< (tt &&& 0x3f).toInt64) > (4 : Int64) then 1 else if ((1 : Int64) <<< (tt &&& 0x3f).toInt64) = (4 : Int64) then 0 else -1) = false) :
    MetFree l x (head1 (Jvm.Cond.code x code maxLocals ret :: ws) room_1) (fun a U => a = #[(.int p0), (.long q1)] ∧ Z.Warmed39 U.vm ∧ U.heap = h0) (fun _ _ _ _ _ => True) (fun _ U o U' => ∃ v L, o = .returned v ∧ QL n0 v U'.heap L ∧ FrameEnd U o U' L 0 0) := by
  refine MetFree.of_bodySF (plainFor_of_name pn_1) hisR ?_
  intro p e s m args below meth c s₁ Bd hml0 hP hK
  obtain ⟨rfl, hZ, hh⟩ := hP
  have hx := Bd.exec
  have hby := Bd.bytes
  have hml : c.maxLocals = 17 := hml0
  have hown : s.vm.findClass "com/example/sundry/sundry/ShortestDecimalUnitPinLaw" = some m.cls := findClass_of_methodNamed Bd.named
  have hnm := (name_of_methodNamed Bd.named Bd.method).1
  have X0 : Stand p l e room_1 s m #[(.int p0), (.long q1)] below meth c s₁ [] 0 0 := Stand.of_body Bd
  have e0 : s₁.heap = h0 := by rw [← hh, Bd.state]; rfl
  have N0 := Fr.nil n0
  have pre0 : ∀ t, Steps p.tables e below (s₁.setTop (mkF m 0 #[.val (.int p0), .val (.long q1), .second, .unset, .unset, .unset, .unset, .unset, .unset, .unset, .unset, .unset, .unset, .unset, .unset, .unset, .unset] [])) t → Steps p.tables e below (s₁.setTop (entryFrame m #[(.int p0), (.long q1)] maxLocals)) t := fun t k => castTop (ef_rmB1 m p0 q1) k
  have pre12 : ∀ t, Steps p.tables e below (s₁.setTop (mkF m 17 #[.val (.int p0), .val (.long q1), .second, .val (.long fr), .second, .unset, .unset, .unset, .unset, .unset, .unset, .unset, .unset, .unset, .unset, .unset, .unset] [])) t → Steps p.tables e below (s₁.setTop (mkF m 12 #[.val (.int p0), .val (.long q1), .second, .val (.long (q1 &&& (4503599627370495 : Int64))), .second, .unset, .unset, .unset, .unset, .unset, .unset, .unset, .unset, .unset, .unset, .unset, .unset] [(.int (((p0.toUInt32 >>> ((9 : Int32) &&& 31).toUInt32).toInt32) &&& (1 : Int32)))])) t := by
    intro t k
    cases hb12 : ifCond.holds .eq (((p0.toUInt32 >>> ((9 : Int32) &&& 31).toUInt32).toInt32) &&& (1 : Int32))
    · rw [hb12] at hfr
      obtain rfl : fr = (0 : Int64) := hfr
      show Steps p.tables e below (s₁.setTop (mkF m 12 #[.val (.int p0), .val (.long q1), .second, .val (.long (q1 &&& (4503599627370495 : Int64))), .second, .unset, .unset, .unset, .unset, .unset, .unset, .unset, .unset, .unset, .unset, .unset, .unset] [(.int (((p0.toUInt32 >>> ((9 : Int32) &&& 31).toUInt32).toInt32) &&& (1 : Int32)))])) _
      refine XS.ifNo X0.here hx rfl (hb hby at_12) rfl hb12 ?_
      show Steps p.tables e below (s₁.setTop (mkF m 15 #[.val (.int p0), .val (.long q1), .second, .val (.long (q1 &&& (4503599627370495 : Int64))), .second, .unset, .unset, .unset, .unset, .unset, .unset, .unset, .unset, .unset, .unset, .unset, .unset] [])) _
      refine XS.lconst X0.here hx rfl (hb hby at_15) ?_
      show Steps p.tables e below (s₁.setTop (mkF m 16 #[.val (.int p0), .val (.long q1), .second, .val (.long (q1 &&& (4503599627370495 : Int64))), .second, .unset, .unset, .unset, .unset, .unset, .unset, .unset, .unset, .unset, .unset, .unset, .unset] [(.long (0 : Int64))])) _
      refine XS.lstoreN X0.here hx rfl (hb hby at_16) rfl (l' := #[.val (.int p0), .val (.long q1), .second, .val (.long (0 : Int64)), .second, .unset, .unset, .unset, .unset, .unset, .unset, .unset, .unset, .unset, .unset, .unset, .unset]) rfl ?_
      show Steps p.tables e below (s₁.setTop (mkF m 17 #[.val (.int p0), .val (.long q1), .second, .val (.long (0 : Int64)), .second, .unset, .unset, .unset, .unset, .unset, .unset, .unset, .unset, .unset, .unset, .unset, .unset] [])) _
      exact k
    · rw [hb12] at hfr
      obtain rfl : fr = (q1 &&& (4503599627370495 : Int64)) := hfr
      show Steps p.tables e below (s₁.setTop (mkF m 12 #[.val (.int p0), .val (.long q1), .second, .val (.long (q1 &&& (4503599627370495 : Int64))), .second, .unset, .unset, .unset, .unset, .unset, .unset, .unset, .unset, .unset, .unset, .unset, .unset] [(.int (((p0.toUInt32 >>> ((9 : Int32) &&& 31).toUInt32).toInt32) &&& (1 : Int32)))])) _
      refine XS.ifYes X0.here hx rfl (pc0 := 12) (pc' := 17) rfl (hb hby at_12) rfl hb12 (by decide) (by decide) ?_
      show Steps p.tables e below (s₁.setTop (mkF m 17 #[.val (.int p0), .val (.long q1), .second, .val (.long (q1 &&& (4503599627370495 : Int64))), .second, .unset, .unset, .unset, .unset, .unset, .unset, .unset, .unset, .unset, .unset, .unset, .unset] [])) _
      exact k
  obtain ⟨_, _, ⟨T1, L1, k1, n1⟩, -, X1, ⟨Lc1, hQ1, l1, y1, z1⟩, st1⟩ := Jvm.LawKit.callS X0 hx (y := (⟨"com/example/sundry/sundry/ShortestDecimal", "unit", "(D)I"⟩ : MethodName)) hown (mvT hZ (hw _ (List.mem_of_getElem? (i := 3) rfl))) (mvT hZ (hw _ (List.mem_of_getElem? (i := 4) rfl))) (mvT hZ (hw _ (List.mem_of_getElem? (i := 5) rfl))) (mvT hZ (hw _ (List.mem_of_getElem? (i := 6) rfl))) (by decide) (backOf (W := 0) (rmD1 l Z a0 hw [] va be h0 n0 Z0 hbe d14 v0 (by decide)) hZ (hw _ (List.mem_of_getElem? (i := 6) rfl)) (hw _ (List.mem_of_getElem? (i := 5) rfl)) (by decide) (by decide)) (g := (mkF m 152 #[.val (.int p0), .val (.long q1), .second, .val (.long fr), .second, .val (.int q), .val (.double pw), .second, .val (.double va), .second, .unset, .unset, .unset, .unset, .unset, .unset, .unset] [(.double va)])) rfl (by rw [hml]; rfl) (argsL := [(.double va)]) (rest := []) (lenOf pd_3 rfl) rfl (by show 2 * 0 + _ ≤ _; exact Nat.le_of_eq rfl) (hb hby at_152) (fun _ _ => ⟨rfl, e0, (by decide : 0 + 0 ≤ _), (by decide : 0 + 0 ≤ _)⟩)
  dsimp only [Pt.U, Pt.locs, Pt.cells, Pt.slots] at X1 l1 y1 z1 st1 hQ1
  subst l1 y1 z1
  obtain ⟨rfl, N1a, e1⟩ := hQ1
  have N1 := Fr.app N0 N1a
  obtain ⟨fs, hr, hrun, hended, hW, hsame⟩ := X1.leave (v := some (.int (1 : Int32))) (fun h => by rw [Bd.returns] at h; cases h)
  refine ⟨_, _, pre0 _ ?_, hrun, hended, _, _, rfl, ?_, ⟨_, rfl⟩, hW, hsame.mono (Nat.le_of_ble_eq_true rfl) (Nat.le_of_ble_eq_true rfl)⟩
  · show Steps p.tables e below (s₁.setTop (mkF m 0 #[.val (.int p0), .val (.long q1), .second, .unset, .unset, .unset, .unset, .unset, .unset, .unset, .unset, .unset, .unset, .unset, .unset, .unset, .unset] [])) _
    refine XS.lloadN X0.here hx rfl (hb hby at_0) rfl ?_
    show Steps p.tables e below (s₁.setTop (mkF m 1 #[.val (.int p0), .val (.long q1), .second, .unset, .unset, .unset, .unset, .unset, .unset, .unset, .unset, .unset, .unset, .unset, .unset, .unset, .unset] [(.long q1)])) _
    refine X0.ldc2Long hx hown (mvT hZ (hw _ (List.mem_of_getElem? (i := 0) rfl))) (g := (mkF m 1 #[.val (.int p0), .val (.long q1), .second, .unset, .unset, .unset, .unset, .unset, .unset, .unset, .unset, .unset, .unset, .unset, .unset, .unset, .unset] [(.long q1)])) rfl (hb hby at_1) _ ?_
    show Steps p.tables e below (s₁.setTop (mkF m 4 #[.val (.int p0), .val (.long q1), .second, .unset, .unset, .unset, .unset, .unset, .unset, .unset, .unset, .unset, .unset, .unset, .unset, .unset, .unset] [(.long (4503599627370495 : Int64)), (.long q1)])) _
    refine XS.land X0.here hx rfl (hb hby at_4) rfl ?_
    show Steps p.tables e below (s₁.setTop (mkF m 5 #[.val (.int p0), .val (.long q1), .second, .unset, .unset, .unset, .unset, .unset, .unset, .unset, .unset, .unset, .unset, .unset, .unset, .unset, .unset] [(.long (q1 &&& (4503599627370495 : Int64)))])) _
    refine XS.lstoreN X0.here hx rfl (hb hby at_5) rfl (l' := #[.val (.int p0), .val (.long q1), .second, .val (.long (q1 &&& (4503599627370495 : Int64))), .second, .unset, .unset, .unset, .unset, .unset, .unset, .unset, .unset, .unset, .unset, .unset, .unset]) rfl ?_
    show Steps p.tables e below (s₁.setTop (mkF m 6 #[.val (.int p0), .val (.long q1), .second, .val (.long (q1 &&& (4503599627370495 : Int64))), .second, .unset, .unset, .unset, .unset, .unset, .unset, .unset, .unset, .unset, .unset, .unset, .unset] [])) _
    refine XS.iloadN X0.here hx rfl (hb hby at_6) rfl ?_
    show Steps p.tables e below (s₁.setTop (mkF m 7 #[.val (.int p0), .val (.long q1), .second, .val (.long (q1 &&& (4503599627370495 : Int64))), .second, .unset, .unset, .unset, .unset, .unset, .unset, .unset, .unset, .unset, .unset, .unset, .unset] [(.int p0)])) _
    refine XS.bipush X0.here hx rfl (hb hby at_7) ?_
    show Steps p.tables e below (s₁.setTop (mkF m 9 #[.val (.int p0), .val (.long q1), .second, .val (.long (q1 &&& (4503599627370495 : Int64))), .second, .unset, .unset, .unset, .unset, .unset, .unset, .unset, .unset, .unset, .unset, .unset, .unset] [(.int (9 : Int32)), (.int p0)])) _
    refine XS.iushr X0.here hx rfl (hb hby at_9) rfl ?_
    show Steps p.tables e below (s₁.setTop (mkF m 10 #[.val (.int p0), .val (.long q1), .second, .val (.long (q1 &&& (4503599627370495 : Int64))), .second, .unset, .unset, .unset, .unset, .unset, .unset, .unset, .unset, .unset, .unset, .unset, .unset] [(.int ((p0.toUInt32 >>> ((9 : Int32) &&& 31).toUInt32).toInt32))])) _
    refine XS.iconst X0.here hx rfl (hb hby at_10) ?_
    show Steps p.tables e below (s₁.setTop (mkF m 11 #[.val (.int p0), .val (.long q1), .second, .val (.long (q1 &&& (4503599627370495 : Int64))), .second, .unset, .unset, .unset, .unset, .unset, .unset, .unset, .unset, .unset, .unset, .unset, .unset] [(.int (1 : Int32)), (.int ((p0.toUInt32 >>> ((9 : Int32) &&& 31).toUInt32).toInt32))])) _
    refine XS.iand X0.here hx rfl (hb hby at_11) rfl ?_
    show Steps p.tables e below (s₁.setTop (mkF m 12 #[.val (.int p0), .val (.long q1), .second, .val (.long (q1 &&& (4503599627370495 : Int64))), .second, .unset, .unset, .unset, .unset, .unset, .unset, .unset, .unset, .unset, .unset, .unset, .unset] [(.int (((p0.toUInt32 >>> ((9 : Int32) &&& 31).toUInt32).toInt32) &&& (1 : Int32)))])) _
    refine pre12 _ ?_
    show Steps p.tables e below (s₁.setTop (mkF m 17 #[.val (.int p0), .val (.long q1), .second, .val (.long fr), .second, .unset, .unset, .unset, .unset, .unset, .unset, .unset, .unset, .unset, .unset, .unset, .unset] [])) _
    refine XS.iloadN X0.here hx rfl (hb hby at_17) rfl ?_
    show Steps p.tables e below (s₁.setTop (mkF m 18 #[.val (.int p0), .val (.long q1), .second, .val (.long fr), .second, .unset, .unset, .unset, .unset, .unset, .unset, .unset, .unset, .unset, .unset, .unset, .unset] [(.int p0)])) _
    refine XS.bipush X0.here hx rfl (hb hby at_18) ?_
    show Steps p.tables e below (s₁.setTop (mkF m 20 #[.val (.int p0), .val (.long q1), .second, .val (.long fr), .second, .unset, .unset, .unset, .unset, .unset, .unset, .unset, .unset, .unset, .unset, .unset, .unset] [(.int (7 : Int32)), (.int p0)])) _
    refine XS.iushr X0.here hx rfl (hb hby at_20) rfl ?_
    show Steps p.tables e below (s₁.setTop (mkF m 21 #[.val (.int p0), .val (.long q1), .second, .val (.long fr), .second, .unset, .unset, .unset, .unset, .unset, .unset, .unset, .unset, .unset, .unset, .unset, .unset] [(.int ((p0.toUInt32 >>> ((7 : Int32) &&& 31).toUInt32).toInt32))])) _
    refine XS.iconst X0.here hx rfl (hb hby at_21) ?_
    show Steps p.tables e below (s₁.setTop (mkF m 22 #[.val (.int p0), .val (.long q1), .second, .val (.long fr), .second, .unset, .unset, .unset, .unset, .unset, .unset, .unset, .unset, .unset, .unset, .unset, .unset] [(.int (3 : Int32)), (.int ((p0.toUInt32 >>> ((7 : Int32) &&& 31).toUInt32).toInt32))])) _
    refine XS.iand X0.here hx rfl (hb hby at_22) rfl ?_
    show Steps p.tables e below (s₁.setTop (mkF m 23 #[.val (.int p0), .val (.long q1), .second, .val (.long fr), .second, .unset, .unset, .unset, .unset, .unset, .unset, .unset, .unset, .unset, .unset, .unset, .unset] [(.int (((p0.toUInt32 >>> ((7 : Int32) &&& 31).toUInt32).toInt32) &&& (3 : Int32)))])) _
    refine XS.ifYes X0.here hx rfl (pc0 := 23) (pc' := 104) rfl (hb hby at_23) rfl b23 (by decide) (by decide) ?_
    show Steps p.tables e below (s₁.setTop (mkF m 104 #[.val (.int p0), .val (.long q1), .second, .val (.long fr), .second, .unset, .unset, .unset, .unset, .unset, .unset, .unset, .unset, .unset, .unset, .unset, .unset] [])) _
    refine XS.iloadN X0.here hx rfl (hb hby at_104) rfl ?_
    show Steps p.tables e below (s₁.setTop (mkF m 105 #[.val (.int p0), .val (.long q1), .second, .val (.long fr), .second, .unset, .unset, .unset, .unset, .unset, .unset, .unset, .unset, .unset, .unset, .unset, .unset] [(.int p0)])) _
    refine XS.bipush X0.here hx rfl (hb hby at_105) ?_
    show Steps p.tables e below (s₁.setTop (mkF m 107 #[.val (.int p0), .val (.long q1), .second, .val (.long fr), .second, .unset, .unset, .unset, .unset, .unset, .unset, .unset, .unset, .unset, .unset, .unset, .unset] [(.int (127 : Int32)), (.int p0)])) _
    refine XS.iand X0.here hx rfl (hb hby at_107) rfl ?_
    show Steps p.tables e below (s₁.setTop (mkF m 108 #[.val (.int p0), .val (.long q1), .second, .val (.long fr), .second, .unset, .unset, .unset, .unset, .unset, .unset, .unset, .unset, .unset, .unset, .unset, .unset] [(.int (p0 &&& (127 : Int32)))])) _
    refine XS.bipush X0.here hx rfl (hb hby at_108) ?_
    show Steps p.tables e below (s₁.setTop (mkF m 110 #[.val (.int p0), .val (.long q1), .second, .val (.long fr), .second, .unset, .unset, .unset, .unset, .unset, .unset, .unset, .unset, .unset, .unset, .unset, .unset] [(.int (115 : Int32)), (.int (p0 &&& (127 : Int32)))])) _
    refine XS.irem X0.here hx rfl (hb hby at_110) rfl (by decide) ?_
    show Steps p.tables e below (s₁.setTop (mkF m 111 #[.val (.int p0), .val (.long q1), .second, .val (.long fr), .second, .unset, .unset, .unset, .unset, .unset, .unset, .unset, .unset, .unset, .unset, .unset, .unset] [(.int ((p0 &&& (127 : Int32)) - ((p0 &&& (127 : Int32)) / (115 : Int32)) * (115 : Int32)))])) _
    refine XS.bipush X0.here hx rfl (hb hby at_111) ?_
    show Steps p.tables e below (s₁.setTop (mkF m 113 #[.val (.int p0), .val (.long q1), .second, .val (.long fr), .second, .unset, .unset, .unset, .unset, .unset, .unset, .unset, .unset, .unset, .unset, .unset, .unset] [(.int (56 : Int32)), (.int ((p0 &&& (127 : Int32)) - ((p0 &&& (127 : Int32)) / (115 : Int32)) * (115 : Int32)))])) _
    refine XS.isub X0.here hx rfl (hb hby at_113) rfl ?_
    show Steps p.tables e below (s₁.setTop (mkF m 114 #[.val (.int p0), .val (.long q1), .second, .val (.long fr), .second, .unset, .unset, .unset, .unset, .unset, .unset, .unset, .unset, .unset, .unset, .unset, .unset] [(.int (((p0 &&& (127 : Int32)) - ((p0 &&& (127 : Int32)) / (115 : Int32)) * (115 : Int32)) - (56 : Int32)))])) _
    rw [← hq]
    show Steps p.tables e below (s₁.setTop (mkF m 114 #[.val (.int p0), .val (.long q1), .second, .val (.long fr), .second, .unset, .unset, .unset, .unset, .unset, .unset, .unset, .unset, .unset, .unset, .unset, .unset] [(.int q)])) _
    refine XS.istore X0.here hx rfl (hb hby at_114) rfl (l' := #[.val (.int p0), .val (.long q1), .second, .val (.long fr), .second, .val (.int q), .unset, .unset, .unset, .unset, .unset, .unset, .unset, .unset, .unset, .unset, .unset]) rfl ?_
    show Steps p.tables e below (s₁.setTop (mkF m 116 #[.val (.int p0), .val (.long q1), .second, .val (.long fr), .second, .val (.int q), .unset, .unset, .unset, .unset, .unset, .unset, .unset, .unset, .unset, .unset, .unset] [])) _
    refine XS.iload X0.here hx rfl (hb hby at_116) rfl ?_
    show Steps p.tables e below (s₁.setTop (mkF m 118 #[.val (.int p0), .val (.long q1), .second, .val (.long fr), .second, .val (.int q), .unset, .unset, .unset, .unset, .unset, .unset, .unset, .unset, .unset, .unset, .unset] [(.int q)])) _
    refine XS.ifNo X0.here hx rfl (hb hby at_118) rfl b118 ?_
    show Steps p.tables e below (s₁.setTop (mkF m 121 #[.val (.int p0), .val (.long q1), .second, .val (.long fr), .second, .val (.int q), .unset, .unset, .unset, .unset, .unset, .unset, .unset, .unset, .unset, .unset, .unset] [])) _
    refine XS.lconst X0.here hx rfl (hb hby at_121) ?_
    show Steps p.tables e below (s₁.setTop (mkF m 122 #[.val (.int p0), .val (.long q1), .second, .val (.long fr), .second, .val (.int q), .unset, .unset, .unset, .unset, .unset, .unset, .unset, .unset, .unset, .unset, .unset] [(.long (1 : Int64))])) _
    refine XS.iload X0.here hx rfl (hb hby at_122) rfl ?_
    show Steps p.tables e below (s₁.setTop (mkF m 124 #[.val (.int p0), .val (.long q1), .second, .val (.long fr), .second, .val (.int q), .unset, .unset, .unset, .unset, .unset, .unset, .unset, .unset, .unset, .unset, .unset] [(.int q), (.long (1 : Int64))])) _
    refine XS.lshl X0.here hx rfl (hb hby at_124) rfl ?_
    show Steps p.tables e below (s₁.setTop (mkF m 125 #[.val (.int p0), .val (.long q1), .second, .val (.long fr), .second, .val (.int q), .unset, .unset, .unset, .unset, .unset, .unset, .unset, .unset, .unset, .unset, .unset] [(.long ((1 : Int64) <<< (q &&& 0x3f).toInt64))])) _
    refine XS.l2dS X0.here hx rfl (hb hby at_125) rfl rfl ?_
    show Steps p.tables e below (s₁.setTop (mkF m 126 #[.val (.int p0), .val (.long q1), .second, .val (.long fr), .second, .val (.int q), .unset, .unset, .unset, .unset, .unset, .unset, .unset, .unset, .unset, .unset, .unset] [(.double (FP.l2d ((1 : Int64) <<< (q &&& 0x3f).toInt64)))])) _
    refine XS.goto X0.here hx rfl (pc0 := 126) (pc' := 137) rfl (hb hby at_126) (by decide) (by decide) ?_
    show Steps p.tables e below (s₁.setTop (mkF m 137 #[.val (.int p0), .val (.long q1), .second, .val (.long fr), .second, .val (.int q), .unset, .unset, .unset, .unset, .unset, .unset, .unset, .unset, .unset, .unset, .unset] [(.double (FP.l2d ((1 : Int64) <<< (q &&& 0x3f).toInt64)))])) _
    rw [← hpw]
    show Steps p.tables e below (s₁.setTop (mkF m 137 #[.val (.int p0), .val (.long q1), .second, .val (.long fr), .second, .val (.int q), .unset, .unset, .unset, .unset, .unset, .unset, .unset, .unset, .unset, .unset, .unset] [(.double pw)])) _
    refine XS.dstore X0.here hx rfl (hb hby at_137) rfl (l' := #[.val (.int p0), .val (.long q1), .second, .val (.long fr), .second, .val (.int q), .val (.double pw), .second, .unset, .unset, .unset, .unset, .unset, .unset, .unset, .unset, .unset]) rfl ?_
    show Steps p.tables e below (s₁.setTop (mkF m 139 #[.val (.int p0), .val (.long q1), .second, .val (.long fr), .second, .val (.int q), .val (.double pw), .second, .unset, .unset, .unset, .unset, .unset, .unset, .unset, .unset, .unset] [])) _
    refine X0.ldc2Long hx hown (mvT hZ (hw _ (List.mem_of_getElem? (i := 18) rfl))) (g := (mkF m 139 #[.val (.int p0), .val (.long q1), .second, .val (.long fr), .second, .val (.int q), .val (.double pw), .second, .unset, .unset, .unset, .unset, .unset, .unset, .unset, .unset, .unset] [])) rfl (hb hby at_139) _ ?_
    show Steps p.tables e below (s₁.setTop (mkF m 142 #[.val (.int p0), .val (.long q1), .second, .val (.long fr), .second, .val (.int q), .val (.double pw), .second, .unset, .unset, .unset, .unset, .unset, .unset, .unset, .unset, .unset] [(.long (4503599627370496 : Int64))])) _
    refine XS.lloadN X0.here hx rfl (hb hby at_142) rfl ?_
    show Steps p.tables e below (s₁.setTop (mkF m 143 #[.val (.int p0), .val (.long q1), .second, .val (.long fr), .second, .val (.int q), .val (.double pw), .second, .unset, .unset, .unset, .unset, .unset, .unset, .unset, .unset, .unset] [(.long fr), (.long (4503599627370496 : Int64))])) _
    refine XS.lor X0.here hx rfl (hb hby at_143) rfl ?_
    show Steps p.tables e below (s₁.setTop (mkF m 144 #[.val (.int p0), .val (.long q1), .second, .val (.long fr), .second, .val (.int q), .val (.double pw), .second, .unset, .unset, .unset, .unset, .unset, .unset, .unset, .unset, .unset] [(.long ((4503599627370496 : Int64) ||| fr))])) _
    refine XS.l2dS X0.here hx rfl (hb hby at_144) rfl rfl ?_
    show Steps p.tables e below (s₁.setTop (mkF m 145 #[.val (.int p0), .val (.long q1), .second, .val (.long fr), .second, .val (.int q), .val (.double pw), .second, .unset, .unset, .unset, .unset, .unset, .unset, .unset, .unset, .unset] [(.double (FP.l2d ((4503599627370496 : Int64) ||| fr)))])) _
    refine XS.dload X0.here hx rfl (hb hby at_145) rfl ?_
    show Steps p.tables e below (s₁.setTop (mkF m 147 #[.val (.int p0), .val (.long q1), .second, .val (.long fr), .second, .val (.int q), .val (.double pw), .second, .unset, .unset, .unset, .unset, .unset, .unset, .unset, .unset, .unset] [(.double pw), (.double (FP.l2d ((4503599627370496 : Int64) ||| fr)))])) _
    refine XS.dmulS X0.here hx rfl (hb hby at_147) rfl n147 rfl ?_
    show Steps p.tables e below (s₁.setTop (mkF m 148 #[.val (.int p0), .val (.long q1), .second, .val (.long fr), .second, .val (.int q), .val (.double pw), .second, .unset, .unset, .unset, .unset, .unset, .unset, .unset, .unset, .unset] [(.double (FP.dmul (FP.l2d ((4503599627370496 : Int64) ||| fr)) pw))])) _
    rw [← hva]
    show Steps p.tables e below (s₁.setTop (mkF m 148 #[.val (.int p0), .val (.long q1), .second, .val (.long fr), .second, .val (.int q), .val (.double pw), .second, .unset, .unset, .unset, .unset, .unset, .unset, .unset, .unset, .unset] [(.double va)])) _
    refine XS.dstore X0.here hx rfl (hb hby at_148) rfl (l' := #[.val (.int p0), .val (.long q1), .second, .val (.long fr), .second, .val (.int q), .val (.double pw), .second, .val (.double va), .second, .unset, .unset, .unset, .unset, .unset, .unset, .unset]) rfl ?_
    show Steps p.tables e below (s₁.setTop (mkF m 150 #[.val (.int p0), .val (.long q1), .second, .val (.long fr), .second, .val (.int q), .val (.double pw), .second, .val (.double va), .second, .unset, .unset, .unset, .unset, .unset, .unset, .unset] [])) _
    refine XS.dload X0.here hx rfl (hb hby at_150) rfl ?_
    show Steps p.tables e below (s₁.setTop (mkF m 152 #[.val (.int p0), .val (.long q1), .second, .val (.long fr), .second, .val (.int q), .val (.double pw), .second, .val (.double va), .second, .unset, .unset, .unset, .unset, .unset, .unset, .unset] [(.double va)])) _
    refine st1 _ ?_
    show Steps p.tables e below (T1.setTop (mkF m 155 #[.val (.int p0), .val (.long q1), .second, .val (.long fr), .second, .val (.int q), .val (.double pw), .second, .val (.double va), .second, .unset, .unset, .unset, .unset, .unset, .unset, .unset] [(.int (own_f10 (((-1074 : Int32) + be) - (1 : Int32))))])) _
    rw [← hkk]
    show Steps p.tables e below (T1.setTop (mkF m 155 #[.val (.int p0), .val (.long q1), .second, .val (.long fr), .second, .val (.int q), .val (.double pw), .second, .val (.double va), .second, .unset, .unset, .unset, .unset, .unset, .unset, .unset] [(.int kk)])) _
    refine XS.istore X1.here hx rfl (hb hby at_155) rfl (l' := #[.val (.int p0), .val (.long q1), .second, .val (.long fr), .second, .val (.int q), .val (.double pw), .second, .val (.double va), .second, .val (.int kk), .unset, .unset, .unset, .unset, .unset, .unset]) rfl ?_
    show Steps p.tables e below (T1.setTop (mkF m 157 #[.val (.int p0), .val (.long q1), .second, .val (.long fr), .second, .val (.int q), .val (.double pw), .second, .val (.double va), .second, .val (.int kk), .unset, .unset, .unset, .unset, .unset, .unset] [])) _
    refine XS.lloadN X1.here hx rfl (hb hby at_157) rfl ?_
    show Steps p.tables e below (T1.setTop (mkF m 158 #[.val (.int p0), .val (.long q1), .second, .val (.long fr), .second, .val (.int q), .val (.double pw), .second, .val (.double va), .second, .val (.int kk), .unset, .unset, .unset, .unset, .unset, .unset] [(.long fr)])) _
    refine XS.lconst X1.here hx rfl (hb hby at_158) ?_
    show Steps p.tables e below (T1.setTop (mkF m 159 #[.val (.int p0), .val (.long q1), .second, .val (.long fr), .second, .val (.int q), .val (.double pw), .second, .val (.double va), .second, .val (.int kk), .unset, .unset, .unset, .unset, .unset, .unset] [(.long (0 : Int64)), (.long fr)])) _
    refine XS.lcmp X1.here hx rfl (hb hby at_159) rfl ?_
    show Steps p.tables e below (T1.setTop (mkF m 160 #[.val (.int p0), .val (.long q1), .second, .val (.long fr), .second, .val (.int q), .val (.double pw), .second, .val (.double va), .second, .val (.int kk), .unset, .unset, .unset, .unset, .unset, .unset] [(.int (if fr > (0 : Int64) then 1 else if fr = (0 : Int64) then 0 else -1))])) _
    refine XS.ifYes X1.here hx rfl (pc0 := 160) (pc' := 169) rfl (hb hby at_160) rfl b160 (by decide) (by decide) ?_
    show Steps p.tables e below (T1.setTop (mkF m 169 #[.val (.int p0), .val (.long q1), .second, .val (.long fr), .second, .val (.int q), .val (.double pw), .second, .val (.double va), .second, .val (.int kk), .unset, .unset, .unset, .unset, .unset, .unset] [])) _
    refine X1.ldc2Long hx hown (mvT hZ (hw _ (List.mem_of_getElem? (i := 23) rfl))) (g := (mkF m 169 #[.val (.int p0), .val (.long q1), .second, .val (.long fr), .second, .val (.int q), .val (.double pw), .second, .val (.double va), .second, .val (.int kk), .unset, .unset, .unset, .unset, .unset, .unset] [])) rfl (hb hby at_169) _ ?_
    show Steps p.tables e below (T1.setTop (mkF m 172 #[.val (.int p0), .val (.long q1), .second, .val (.long fr), .second, .val (.int q), .val (.double pw), .second, .val (.double va), .second, .val (.int kk), .unset, .unset, .unset, .unset, .unset, .unset] [(.long (4 : Int64))])) _
    refine XS.lstore X1.here hx rfl (hb hby at_172) rfl (l' := #[.val (.int p0), .val (.long q1), .second, .val (.long fr), .second, .val (.int q), .val (.double pw), .second, .val (.double va), .second, .val (.int kk), .val (.long (4 : Int64)), .second, .unset, .unset, .unset, .unset]) rfl ?_
    show Steps p.tables e below (T1.setTop (mkF m 174 #[.val (.int p0), .val (.long q1), .second, .val (.long fr), .second, .val (.int q), .val (.double pw), .second, .val (.double va), .second, .val (.int kk), .val (.long (4 : Int64)), .second, .unset, .unset, .unset, .unset] [])) _
    refine XS.iconst X1.here hx rfl (hb hby at_174) ?_
    show Steps p.tables e below (T1.setTop (mkF m 175 #[.val (.int p0), .val (.long q1), .second, .val (.long fr), .second, .val (.int q), .val (.double pw), .second, .val (.double va), .second, .val (.int kk), .val (.long (4 : Int64)), .second, .unset, .unset, .unset, .unset] [(.int (2 : Int32))])) _
    refine XS.iload X1.here hx rfl (hb hby at_175) rfl ?_
    show Steps p.tables e below (T1.setTop (mkF m 177 #[.val (.int p0), .val (.long q1), .second, .val (.long fr), .second, .val (.int q), .val (.double pw), .second, .val (.double va), .second, .val (.int kk), .val (.long (4 : Int64)), .second, .unset, .unset, .unset, .unset] [(.int q), (.int (2 : Int32))])) _
    refine XS.isub X1.here hx rfl (hb hby at_177) rfl ?_
    show Steps p.tables e below (T1.setTop (mkF m 178 #[.val (.int p0), .val (.long q1), .second, .val (.long fr), .second, .val (.int q), .val (.double pw), .second, .val (.double va), .second, .val (.int kk), .val (.long (4 : Int64)), .second, .unset, .unset, .unset, .unset] [(.int ((2 : Int32) - q))])) _
    rw [← htt]
    show Steps p.tables e below (T1.setTop (mkF m 178 #[.val (.int p0), .val (.long q1), .second, .val (.long fr), .second, .val (.int q), .val (.double pw), .second, .val (.double va), .second, .val (.int kk), .val (.long (4 : Int64)), .second, .unset, .unset, .unset, .unset] [(.int tt)])) _
    refine XS.istore X1.here hx rfl (hb hby at_178) rfl (l' := #[.val (.int p0), .val (.long q1), .second, .val (.long fr), .second, .val (.int q), .val (.double pw), .second, .val (.double va), .second, .val (.int kk), .val (.long (4 : Int64)), .second, .val (.int tt), .unset, .unset, .unset]) rfl ?_
    show Steps p.tables e below (T1.setTop (mkF m 180 #[.val (.int p0), .val (.long q1), .second, .val (.long fr), .second, .val (.int q), .val (.double pw), .second, .val (.double va), .second, .val (.int kk), .val (.long (4 : Int64)), .second, .val (.int tt), .unset, .unset, .unset] [])) _
    refine XS.iload X1.here hx rfl (hb hby at_180) rfl ?_
    show Steps p.tables e below (T1.setTop (mkF m 182 #[.val (.int p0), .val (.long q1), .second, .val (.long fr), .second, .val (.int q), .val (.double pw), .second, .val (.double va), .second, .val (.int kk), .val (.long (4 : Int64)), .second, .val (.int tt), .unset, .unset, .unset] [(.int tt)])) _
    refine XS.ifYes X1.here hx rfl (pc0 := 182) (pc' := 237) rfl (hb hby at_182) rfl b182 (by decide) (by decide) ?_
    show Steps p.tables e below (T1.setTop (mkF m 237 #[.val (.int p0), .val (.long q1), .second, .val (.long fr), .second, .val (.int q), .val (.double pw), .second, .val (.double va), .second, .val (.int kk), .val (.long (4 : Int64)), .second, .val (.int tt), .unset, .unset, .unset] [])) _
    refine XS.iload X1.here hx rfl (hb hby at_237) rfl ?_
    show Steps p.tables e below (T1.setTop (mkF m 239 #[.val (.int p0), .val (.long q1), .second, .val (.long fr), .second, .val (.int q), .val (.double pw), .second, .val (.double va), .second, .val (.int kk), .val (.long (4 : Int64)), .second, .val (.int tt), .unset, .unset, .unset] [(.int kk)])) _
    refine XS.ifNo X1.here hx rfl (hb hby at_239) rfl b239 ?_
    show Steps p.tables e below (T1.setTop (mkF m 242 #[.val (.int p0), .val (.long q1), .second, .val (.long fr), .second, .val (.int q), .val (.double pw), .second, .val (.double va), .second, .val (.int kk), .val (.long (4 : Int64)), .second, .val (.int tt), .unset, .unset, .unset] [])) _
    refine XS.iload X1.here hx rfl (hb hby at_242) rfl ?_
    show Steps p.tables e below (T1.setTop (mkF m 244 #[.val (.int p0), .val (.long q1), .second, .val (.long fr), .second, .val (.int q), .val (.double pw), .second, .val (.double va), .second, .val (.int kk), .val (.long (4 : Int64)), .second, .val (.int tt), .unset, .unset, .unset] [(.int kk)])) _
    refine XS.ifNo X1.here hx rfl (hb hby at_244) rfl b244 ?_
    show Steps p.tables e below (T1.setTop (mkF m 247 #[.val (.int p0), .val (.long q1), .second, .val (.long fr), .second, .val (.int q), .val (.double pw), .second, .val (.double va), .second, .val (.int kk), .val (.long (4 : Int64)), .second, .val (.int tt), .unset, .unset, .unset] [])) _
    refine XS.iload X1.here hx rfl (hb hby at_247) rfl ?_
    show Steps p.tables e below (T1.setTop (mkF m 249 #[.val (.int p0), .val (.long q1), .second, .val (.long fr), .second, .val (.int q), .val (.double pw), .second, .val (.double va), .second, .val (.int kk), .val (.long (4 : Int64)), .second, .val (.int tt), .unset, .unset, .unset] [(.int tt)])) _
    refine XS.iconst X1.here hx rfl (hb hby at_249) ?_
    show Steps p.tables e below (T1.setTop (mkF m 250 #[.val (.int p0), .val (.long q1), .second, .val (.long fr), .second, .val (.int q), .val (.double pw), .second, .val (.double va), .second, .val (.int kk), .val (.long (4 : Int64)), .second, .val (.int tt), .unset, .unset, .unset] [(.int (2 : Int32)), (.int tt)])) _
    refine XS.icmpNo X1.here hx rfl (hb hby at_250) rfl b250 ?_
    show Steps p.tables e below (T1.setTop (mkF m 253 #[.val (.int p0), .val (.long q1), .second, .val (.long fr), .second, .val (.int q), .val (.double pw), .second, .val (.double va), .second, .val (.int kk), .val (.long (4 : Int64)), .second, .val (.int tt), .unset, .unset, .unset] [])) _
    refine XS.lconst X1.here hx rfl (hb hby at_253) ?_
    show Steps p.tables e below (T1.setTop (mkF m 254 #[.val (.int p0), .val (.long q1), .second, .val (.long fr), .second, .val (.int q), .val (.double pw), .second, .val (.double va), .second, .val (.int kk), .val (.long (4 : Int64)), .second, .val (.int tt), .unset, .unset, .unset] [(.long (1 : Int64))])) _
    refine XS.iload X1.here hx rfl (hb hby at_254) rfl ?_
    show Steps p.tables e below (T1.setTop (mkF m 256 #[.val (.int p0), .val (.long q1), .second, .val (.long fr), .second, .val (.int q), .val (.double pw), .second, .val (.double va), .second, .val (.int kk), .val (.long (4 : Int64)), .second, .val (.int tt), .unset, .unset, .unset] [(.int tt), (.long (1 : Int64))])) _
    refine XS.lshl X1.here hx rfl (hb hby at_256) rfl ?_
    show Steps p.tables e below (T1.setTop (mkF m 257 #[.val (.int p0), .val (.long q1), .second, .val (.long fr), .second, .val (.int q), .val (.double pw), .second, .val (.double va), .second, .val (.int kk), .val (.long (4 : Int64)), .second, .val (.int tt), .unset, .unset, .unset] [(.long ((1 : Int64) <<< (tt &&& 0x3f).toInt64))])) _
    refine XS.lload X1.here hx rfl (hb hby at_257) rfl ?_
    show Steps p.tables e below (T1.setTop (mkF m 259 #[.val (.int p0), .val (.long q1), .second, .val (.long fr), .second, .val (.int q), .val (.double pw), .second, .val (.double va), .second, .val (.int kk), .val (.long (4 : Int64)), .second, .val (.int tt), .unset, .unset, .unset] [(.long (4 : Int64)), (.long ((1 : Int64) <<< (tt &&& 0x3f).toInt64))])) _
    refine XS.lcmp X1.here hx rfl (hb hby at_259) rfl ?_
    show Steps p.tables e below (T1.setTop (mkF m 260 #[.val (.int p0), .val (.long q1), .second, .val (.long fr), .second, .val (.int q), .val (.double pw), .second, .val (.double va), .second, .val (.int kk), .val (.long (4 : Int64)), .second, .val (.int tt), .unset, .unset, .unset] [(.int (if ((1 : Int64) <<< (tt &&& 0x3f).toInt64) > (4 : Int64) then 1 else if ((1 : Int64) <<< (tt &&& 0x3f).toInt64) = (4 : Int64) then 0 else -1))])) _
    refine XS.ifNo X1.here hx rfl (hb hby at_260) rfl b260 ?_
    show Steps p.tables e below (T1.setTop (mkF m 263 #[.val (.int p0), .val (.long q1), .second, .val (.long fr), .second, .val (.int q), .val (.double pw), .second, .val (.double va), .second, .val (.int kk), .val (.long (4 : Int64)), .second, .val (.int tt), .unset, .unset, .unset] [])) _
    refine XS.iconst X1.here hx rfl (hb hby at_263) ?_
    show Steps p.tables e below (T1.setTop (mkF m 264 #[.val (.int p0), .val (.long q1), .second, .val (.long fr), .second, .val (.int q), .val (.double pw), .second, .val (.double va), .second, .val (.int kk), .val (.long (4 : Int64)), .second, .val (.int tt), .unset, .unset, .unset] [(.int (1 : Int32))])) _
    refine XS.goto X1.here hx rfl (pc0 := 264) (pc' := 268) rfl (hb hby at_264) (by decide) (by decide) ?_
    show Steps p.tables e below (T1.setTop (mkF m 268 #[.val (.int p0), .val (.long q1), .second, .val (.long fr), .second, .val (.int q), .val (.double pw), .second, .val (.double va), .second, .val (.int kk), .val (.long (4 : Int64)), .second, .val (.int tt), .unset, .unset, .unset] [(.int (1 : Int32))])) _
    exact retN X1 hx (t := .boolean) Bd.returns (by simp) (hb hby at_268) hr
  · show QL n0 _ T1.heap _
    exact ⟨rfl, N1⟩
theorem ef_rmC0n (m : MethodId) (x0 : Int32) (x1 : Int64) : entryFrame m #[(.int x0), (.long x1)] maxLocals = mkF m 0 #[.val (.int x0), .val (.long x1), .second, .unset, .unset, .unset, .unset, .unset, .unset, .unset, .unset, .unset, .unset, .unset, .unset, .unset, .unset] [] := by first | (simp [entryFrame, mkF, argsToLocals, Value.category, maxLocals]; done) | rfl
set_option maxRecDepth 65536 in
set_option maxHeartbeats 40000000 in
theorem rmC0n (l : Launch) (Z : State) (a0 : Array Value) (hw : ∀ d ∈ tables_1, d.before a0 Z = true) (ws : List Jvm.Cond)  (p0 : Int32) (q1 : Int64) (fr : Int64) (q : Int32) (pw : UInt64) (va : UInt64) (be : Int32) (kk : Int32) (tt : Int32) (h0 : Heap) (n0 : Nat) (Z0 : n0 ≤ h0.size) 
    (hfr : fr = cond (ifCond.holds .eq (((p0.toUInt32 >>> ((9 : Int32) &&& 31).toUInt32).toInt32) &&& (1 : Int32))) (q1 &&& (4503599627370495 : Int64)) (0 : Int64))
    (b23 : ifCond.holds .ne (((p0.toUInt32 >>> ((7 : Int32) &&& 31).toUInt32).toInt32) &&& (3 : Int32)) = true)
    (hq : q = (((p0 &&& (127 : Int32)) - ((p0 &&& (127 : Int32)) / (115 : Int32)) * (115 : Int32)) - (56 : Int32)))
    (b118 : ifCond.holds .lt q = true)
    (n136 : NoNaN64 (FP.ddiv FP.dconst1 (FP.l2d ((1 : Int64) <<< ((-q) &&& 0x3f).toInt64))))
    (hpw : pw = (FP.ddiv FP.dconst1 (FP.l2d ((1 : Int64) <<< ((-q) &&& 0x3f).toInt64))))
    (n147 : NoNaN64 (FP.dmul (FP.l2d ((4503599627370496 : Int64) ||| fr)) pw))
    (hva : va = (FP.dmul (FP.l2d ((4503599627370496 : Int64) ||| fr)) pw))
    (hbe : be = ((va.toInt64.toUInt64 >>> ((52 : Int32) &&& 0x3f).toInt64.toUInt64).toInt64).toInt32)
    (d14 : ifCond.holds .ne be = true)
    (v0 : ifCond.holds .ne (if (va.toInt64 &&& (4503599627370495 : Int64)) > (0 : Int64) then 1 else if (va.toInt64 &&& (4503599627370495 : Int64)) = (0 : Int64) then 0 else -1) = false)
    (v1 : if_icmp.holds .le ((va.toInt64.toUInt64 >>> ((52 : Int32) &&& 0x3f).toInt64.toUInt64).toInt64).toInt32 (1 : Int32) = false)
    (hkk : kk = (own_f34 (((-1074 : Int32) + be) - (1 : Int32))))
    (b160 : ifCond.holds .ne (if fr > (0 : Int64) then 1 else if fr = (0 : Int64) then 0 else -1) = false)
    (htt : tt = ((2 : Int32) - q))
    (b182 : ifCond.holds .gt tt = true)
    (b239 : ifCond.holds .lt kk = true)
    (b273 : if_icmp.holds .ge kk (-18 : Int32) = true)
    (b300 : ifCond.holds .gt (if ((1 : Int64) <<< (tt &&& 0x3f).toInt64) > ((3 : Int64) * (own_p10 (-kk))) then 1 else if ((1 : Int64) <<< (tt &&& 0x3f).toInt64) = ((3 : Int64) * (own_p10 (-kk))) then 0 else -1) = false)
    (b316 : ifCond.holds .ge (if ((3 : Int64) * (own_p10 ((-kk) - (1 : Int32)))) > ((1 : Int64) <<< (tt &&& 0x3f).toInt64) then 1 else if ((3 : Int64) * (own_p10 ((-kk) - (1 : Int32)))) = ((1 : Int64) <<< (tt &&& 0x3f).toInt64) then 0 else -1) = false) :
    MetFree l x (head1 (Jvm.Cond.code x code maxLocals ret :: ws) room_1) (fun a U => a = #[(.int p0), (.long q1)] ∧ Z.Warmed39 U.vm ∧ U.heap = h0) (fun _ _ _ _ _ => True) (fun _ U o U' => ∃ v L, o = .returned v ∧ QL n0 v U'.heap L ∧ FrameEnd U o U' L 0 0) := by
  refine MetFree.of_bodySF (plainFor_of_name pn_1) hisR ?_
  intro p e s m args below meth c s₁ Bd hml0 hP hK
  obtain ⟨rfl, hZ, hh⟩ := hP
  have hx := Bd.exec
  have hby := Bd.bytes
  have hml : c.maxLocals = 17 := hml0
  have hown : s.vm.findClass "com/example/sundry/sundry/ShortestDecimalUnitPinLaw" = some m.cls := findClass_of_methodNamed Bd.named
  have hnm := (name_of_methodNamed Bd.named Bd.method).1
  have X0 : Stand p l e room_1 s m #[(.int p0), (.long q1)] below meth c s₁ [] 0 0 := Stand.of_body Bd
  have e0 : s₁.heap = h0 := by rw [← hh, Bd.state]; rfl
  have N0 := Fr.nil n0
  have pre0 : ∀ t, Steps p.tables e below (s₁.setTop (mkF m 0 #[.val (.int p0), .val (.long q1), .second, .unset, .unset, .unset, .unset, .unset, .unset, .unset, .unset, .unset, .unset, .unset, .unset, .unset, .unset] [])) t → Steps p.tables e below (s₁.setTop (entryFrame m #[(.int p0), (.long q1)] maxLocals)) t := fun t k => castTop (ef_rmC0n m p0 q1) k
  have pre12 : ∀ t, Steps p.tables e below (s₁.setTop (mkF m 17 #[.val (.int p0), .val (.long q1), .second, .val (.long fr), .second, .unset, .unset, .unset, .unset, .unset, .unset, .unset, .unset, .unset, .unset, .unset, .unset] [])) t → Steps p.tables e below (s₁.setTop (mkF m 12 #[.val (.int p0), .val (.long q1), .second, .val (.long (q1 &&& (4503599627370495 : Int64))), .second, .unset, .unset, .unset, .unset, .unset, .unset, .unset, .unset, .unset, .unset, .unset, .unset] [(.int (((p0.toUInt32 >>> ((9 : Int32) &&& 31).toUInt32).toInt32) &&& (1 : Int32)))])) t := by
    intro t k
    cases hb12 : ifCond.holds .eq (((p0.toUInt32 >>> ((9 : Int32) &&& 31).toUInt32).toInt32) &&& (1 : Int32))
    · rw [hb12] at hfr
      obtain rfl : fr = (0 : Int64) := hfr
      show Steps p.tables e below (s₁.setTop (mkF m 12 #[.val (.int p0), .val (.long q1), .second, .val (.long (q1 &&& (4503599627370495 : Int64))), .second, .unset, .unset, .unset, .unset, .unset, .unset, .unset, .unset, .unset, .unset, .unset, .unset] [(.int (((p0.toUInt32 >>> ((9 : Int32) &&& 31).toUInt32).toInt32) &&& (1 : Int32)))])) _
      refine XS.ifNo X0.here hx rfl (hb hby at_12) rfl hb12 ?_
      show Steps p.tables e below (s₁.setTop (mkF m 15 #[.val (.int p0), .val (.long q1), .second, .val (.long (q1 &&& (4503599627370495 : Int64))), .second, .unset, .unset, .unset, .unset, .unset, .unset, .unset, .unset, .unset, .unset, .unset, .unset] [])) _
      refine XS.lconst X0.here hx rfl (hb hby at_15) ?_
      show Steps p.tables e below (s₁.setTop (mkF m 16 #[.val (.int p0), .val (.long q1), .second, .val (.long (q1 &&& (4503599627370495 : Int64))), .second, .unset, .unset, .unset, .unset, .unset, .unset, .unset, .unset, .unset, .unset, .unset, .unset] [(.long (0 : Int64))])) _
      refine XS.lstoreN X0.here hx rfl (hb hby at_16) rfl (l' := #[.val (.int p0), .val (.long q1), .second, .val (.long (0 : Int64)), .second, .unset, .unset, .unset, .unset, .unset, .unset, .unset, .unset, .unset, .unset, .unset, .unset]) rfl ?_
      show Steps p.tables e below (s₁.setTop (mkF m 17 #[.val (.int p0), .val (.long q1), .second, .val (.long (0 : Int64)), .second, .unset, .unset, .unset, .unset, .unset, .unset, .unset, .unset, .unset, .unset, .unset, .unset] [])) _
      exact k
    · rw [hb12] at hfr
      obtain rfl : fr = (q1 &&& (4503599627370495 : Int64)) := hfr
      show Steps p.tables e below (s₁.setTop (mkF m 12 #[.val (.int p0), .val (.long q1), .second, .val (.long (q1 &&& (4503599627370495 : Int64))), .second, .unset, .unset, .unset, .unset, .unset, .unset, .unset, .unset, .unset, .unset, .unset, .unset] [(.int (((p0.toUInt32 >>> ((9 : Int32) &&& 31).toUInt32).toInt32) &&& (1 : Int32)))])) _
      refine XS.ifYes X0.here hx rfl (pc0 := 12) (pc' := 17) rfl (hb hby at_12) rfl hb12 (by decide) (by decide) ?_
      show Steps p.tables e below (s₁.setTop (mkF m 17 #[.val (.int p0), .val (.long q1), .second, .val (.long (q1 &&& (4503599627370495 : Int64))), .second, .unset, .unset, .unset, .unset, .unset, .unset, .unset, .unset, .unset, .unset, .unset, .unset] [])) _
      exact k
  obtain ⟨_, _, ⟨T1, L1, k1, n1⟩, -, X1, ⟨Lc1, hQ1, l1, y1, z1⟩, st1⟩ := Jvm.LawKit.callS X0 hx (y := (⟨"com/example/sundry/sundry/ShortestDecimal", "unit", "(D)I"⟩ : MethodName)) hown (mvT hZ (hw _ (List.mem_of_getElem? (i := 3) rfl))) (mvT hZ (hw _ (List.mem_of_getElem? (i := 4) rfl))) (mvT hZ (hw _ (List.mem_of_getElem? (i := 5) rfl))) (mvT hZ (hw _ (List.mem_of_getElem? (i := 6) rfl))) (by decide) (backOf (W := 0) (rmD2 l Z a0 hw [] va be h0 n0 Z0 hbe d14 v0 v1 (by decide)) hZ (hw _ (List.mem_of_getElem? (i := 6) rfl)) (hw _ (List.mem_of_getElem? (i := 5) rfl)) (by decide) (by decide)) (g := (mkF m 152 #[.val (.int p0), .val (.long q1), .second, .val (.long fr), .second, .val (.int q), .val (.double pw), .second, .val (.double va), .second, .unset, .unset, .unset, .unset, .unset, .unset, .unset] [(.double va)])) rfl (by rw [hml]; rfl) (argsL := [(.double va)]) (rest := []) (lenOf pd_3 rfl) rfl (by show 2 * 0 + _ ≤ _; exact Nat.le_of_eq rfl) (hb hby at_152) (fun _ _ => ⟨rfl, e0, (by decide : 0 + 0 ≤ _), (by decide : 0 + 0 ≤ _)⟩)
  dsimp only [Pt.U, Pt.locs, Pt.cells, Pt.slots] at X1 l1 y1 z1 st1 hQ1
  subst l1 y1 z1
  obtain ⟨rfl, N1a, e1⟩ := hQ1
  have N1 := Fr.app N0 N1a
  obtain ⟨_, _, ⟨T2, L2, k2, n2⟩, -, X2, ⟨Lc2, hQ2, l2, y2, z2⟩, st2⟩ := Jvm.LawKit.callS X1 hx (y := (⟨"com/example/sundry/sundry/ShortestDecimalUnitPinLaw", "pow10", "(I)J"⟩ : MethodName)) hown (mvT hZ (hw _ (List.mem_of_getElem? (i := 24) rfl))) (mvT hZ (hw _ (List.mem_of_getElem? (i := 25) rfl))) (mvT hZ (hw _ (List.mem_of_getElem? (i := 26) rfl))) (mvT hZ (hw _ (List.mem_of_getElem? (i := 27) rfl))) (by decide) (backOf (W := 4) (rmP l Z a0 hw [] (-kk) h0 n0 Z0) hZ (hw _ (List.mem_of_getElem? (i := 27) rfl)) (hw _ (List.mem_of_getElem? (i := 26) rfl)) (by decide) (by decide)) (g := (mkF m 295 #[.val (.int p0), .val (.long q1), .second, .val (.long fr), .second, .val (.int q), .val (.double pw), .second, .val (.double va), .second, .val (.int kk), .val (.long (3 : Int64)), .second, .val (.int tt), .val (.int (-kk)), .val (.long ((1 : Int64) <<< (tt &&& 0x3f).toInt64)), .second] [(.int (-kk)), (.long (3 : Int64)), (.long ((1 : Int64) <<< (tt &&& 0x3f).toInt64))])) rfl (by rw [hml]; rfl) (argsL := [(.int (-kk))]) (rest := [(.long (3 : Int64)), (.long ((1 : Int64) <<< (tt &&& 0x3f).toInt64))]) (lenOf pd_4 rfl) rfl (by show 2 * 0 + _ ≤ _; exact Nat.le_of_eq rfl) (hb hby at_295) (fun _ _ => ⟨rfl, e1, (by decide : 0 + 0 ≤ _), (by decide : 0 + 0 ≤ _)⟩)
  dsimp only [Pt.U, Pt.locs, Pt.cells, Pt.slots] at X2 l2 y2 z2 st2 hQ2
  subst l2 y2 z2
  obtain ⟨rfl, N2a, e2⟩ := hQ2
  have N2 := Fr.app N1 N2a
  obtain ⟨_, _, ⟨T3, L3, k3, n3⟩, -, X3, ⟨Lc3, hQ3, l3, y3, z3⟩, st3⟩ := Jvm.LawKit.callS X2 hx (y := (⟨"com/example/sundry/sundry/ShortestDecimalUnitPinLaw", "pow10", "(I)J"⟩ : MethodName)) hown (mvT hZ (hw _ (List.mem_of_getElem? (i := 24) rfl))) (mvT hZ (hw _ (List.mem_of_getElem? (i := 25) rfl))) (mvT hZ (hw _ (List.mem_of_getElem? (i := 26) rfl))) (mvT hZ (hw _ (List.mem_of_getElem? (i := 27) rfl))) (by decide) (backOf (W := 2) (rmP l Z a0 hw [] ((-kk) - (1 : Int32)) h0 n0 Z0) hZ (hw _ (List.mem_of_getElem? (i := 27) rfl)) (hw _ (List.mem_of_getElem? (i := 26) rfl)) (by decide) (by decide)) (g := (mkF m 309 #[.val (.int p0), .val (.long q1), .second, .val (.long fr), .second, .val (.int q), .val (.double pw), .second, .val (.double va), .second, .val (.int kk), .val (.long (3 : Int64)), .second, .val (.int tt), .val (.int (-kk)), .val (.long ((1 : Int64) <<< (tt &&& 0x3f).toInt64)), .second] [(.int ((-kk) - (1 : Int32))), (.long (3 : Int64))])) rfl (by rw [hml]; rfl) (argsL := [(.int ((-kk) - (1 : Int32)))]) (rest := [(.long (3 : Int64))]) (lenOf pd_4 rfl) rfl (by show 2 * 0 + _ ≤ _; exact Nat.le_of_eq rfl) (hb hby at_309) (fun _ _ => ⟨rfl, e2, (by decide : 0 + 0 ≤ _), (by decide : 0 + 0 ≤ _)⟩)
  dsimp only [Pt.U, Pt.locs, Pt.cells, Pt.slots] at X3 l3 y3 z3 st3 hQ3
  subst l3 y3 z3
  obtain ⟨rfl, N3a, e3⟩ := hQ3
  have N3 := Fr.app N2 N3a
  obtain ⟨fs, hr, hrun, hended, hW, hsame⟩ := X3.leave (v := some (.int (1 : Int32))) (fun h => by rw [Bd.returns] at h; cases h)
  refine ⟨_, _, pre0 _ ?_, hrun, hended, _, _, rfl, ?_, ⟨_, rfl⟩, hW, hsame.mono (Nat.le_of_ble_eq_true rfl) (Nat.le_of_ble_eq_true rfl)⟩
  · show Steps p.tables e below (s₁.setTop (mkF m 0 #[.val (.int p0), .val (.long q1), .second, .unset, .unset, .unset, .unset, .unset, .unset, .unset, .unset, .unset, .unset, .unset, .unset, .unset, .unset] [])) _
    refine XS.lloadN X0.here hx rfl (hb hby at_0) rfl ?_
    show Steps p.tables e below (s₁.setTop (mkF m 1 #[.val (.int p0), .val (.long q1), .second, .unset, .unset, .unset, .unset, .unset, .unset, .unset, .unset, .unset, .unset, .unset, .unset, .unset, .unset] [(.long q1)])) _
    refine X0.ldc2Long hx hown (mvT hZ (hw _ (List.mem_of_getElem? (i := 0) rfl))) (g := (mkF m 1 #[.val (.int p0), .val (.long q1), .second, .unset, .unset, .unset, .unset, .unset, .unset, .unset, .unset, .unset, .unset, .unset, .unset, .unset, .unset] [(.long q1)])) rfl (hb hby at_1) _ ?_
    show Steps p.tables e below (s₁.setTop (mkF m 4 #[.val (.int p0), .val (.long q1), .second, .unset, .unset, .unset, .unset, .unset, .unset, .unset, .unset, .unset, .unset, .unset, .unset, .unset, .unset] [(.long (4503599627370495 : Int64)), (.long q1)])) _
    refine XS.land X0.here hx rfl (hb hby at_4) rfl ?_
    show Steps p.tables e below (s₁.setTop (mkF m 5 #[.val (.int p0), .val (.long q1), .second, .unset, .unset, .unset, .unset, .unset, .unset, .unset, .unset, .unset, .unset, .unset, .unset, .unset, .unset] [(.long (q1 &&& (4503599627370495 : Int64)))])) _
    refine XS.lstoreN X0.here hx rfl (hb hby at_5) rfl (l' := #[.val (.int p0), .val (.long q1), .second, .val (.long (q1 &&& (4503599627370495 : Int64))), .second, .unset, .unset, .unset, .unset, .unset, .unset, .unset, .unset, .unset, .unset, .unset, .unset]) rfl ?_
    show Steps p.tables e below (s₁.setTop (mkF m 6 #[.val (.int p0), .val (.long q1), .second, .val (.long (q1 &&& (4503599627370495 : Int64))), .second, .unset, .unset, .unset, .unset, .unset, .unset, .unset, .unset, .unset, .unset, .unset, .unset] [])) _
    refine XS.iloadN X0.here hx rfl (hb hby at_6) rfl ?_
    show Steps p.tables e below (s₁.setTop (mkF m 7 #[.val (.int p0), .val (.long q1), .second, .val (.long (q1 &&& (4503599627370495 : Int64))), .second, .unset, .unset, .unset, .unset, .unset, .unset, .unset, .unset, .unset, .unset, .unset, .unset] [(.int p0)])) _
    refine XS.bipush X0.here hx rfl (hb hby at_7) ?_
    show Steps p.tables e below (s₁.setTop (mkF m 9 #[.val (.int p0), .val (.long q1), .second, .val (.long (q1 &&& (4503599627370495 : Int64))), .second, .unset, .unset, .unset, .unset, .unset, .unset, .unset, .unset, .unset, .unset, .unset, .unset] [(.int (9 : Int32)), (.int p0)])) _
    refine XS.iushr X0.here hx rfl (hb hby at_9) rfl ?_
    show Steps p.tables e below (s₁.setTop (mkF m 10 #[.val (.int p0), .val (.long q1), .second, .val (.long (q1 &&& (4503599627370495 : Int64))), .second, .unset, .unset, .unset, .unset, .unset, .unset, .unset, .unset, .unset, .unset, .unset, .unset] [(.int ((p0.toUInt32 >>> ((9 : Int32) &&& 31).toUInt32).toInt32))])) _
    refine XS.iconst X0.here hx rfl (hb hby at_10) ?_
    show Steps p.tables e below (s₁.setTop (mkF m 11 #[.val (.int p0), .val (.long q1), .second, .val (.long (q1 &&& (4503599627370495 : Int64))), .second, .unset, .unset, .unset, .unset, .unset, .unset, .unset, .unset, .unset, .unset, .unset, .unset] [(.int (1 : Int32)), (.int ((p0.toUInt32 >>> ((9 : Int32) &&& 31).toUInt32).toInt32))])) _
    refine XS.iand X0.here hx rfl (hb hby at_11) rfl ?_
    show Steps p.tables e below (s₁.setTop (mkF m 12 #[.val (.int p0), .val (.long q1), .second, .val (.long (q1 &&& (4503599627370495 : Int64))), .second, .unset, .unset, .unset, .unset, .unset, .unset, .unset, .unset, .unset, .unset, .unset, .unset] [(.int (((p0.toUInt32 >>> ((9 : Int32) &&& 31).toUInt32).toInt32) &&& (1 : Int32)))])) _
    refine pre12 _ ?_
    show Steps p.tables e below (s₁.setTop (mkF m 17 #[.val (.int p0), .val (.long q1), .second, .val (.long fr), .second, .unset, .unset, .unset, .unset, .unset, .unset, .unset, .unset, .unset, .unset, .unset, .unset] [])) _
    refine XS.iloadN X0.here hx rfl (hb hby at_17) rfl ?_
    show Steps p.tables e below (s₁.setTop (mkF m 18 #[.val (.int p0), .val (.long q1), .second, .val (.long fr), .second, .unset, .unset, .unset, .unset, .unset, .unset, .unset, .unset, .unset, .unset, .unset, .unset] [(.int p0)])) _
    refine XS.bipush X0.here hx rfl (hb hby at_18) ?_
    show Steps p.tables e below (s₁.setTop (mkF m 20 #[.val (.int p0), .val (.long q1), .second, .val (.long fr), .second, .unset, .unset, .unset, .unset, .unset, .unset, .unset, .unset, .unset, .unset, .unset, .unset] [(.int (7 : Int32)), (.int p0)])) _
    refine XS.iushr X0.here hx rfl (hb hby at_20) rfl ?_
    show Steps p.tables e below (s₁.setTop (mkF m 21 #[.val (.int p0), .val (.long q1), .second, .val (.long fr), .second, .unset, .unset, .unset, .unset, .unset, .unset, .unset, .unset, .unset, .unset, .unset, .unset] [(.int ((p0.toUInt32 >>> ((7 : Int32) &&& 31).toUInt32).toInt32))])) _
    refine XS.iconst X0.here hx rfl (hb hby at_21) ?_
    show Steps p.tables e below (s₁.setTop (mkF m 22 #[.val (.int p0), .val (.long q1), .second, .val (.long fr), .second, .unset, .unset, .unset, .unset, .unset, .unset, .unset, .unset, .unset, .unset, .unset, .unset] [(.int (3 : Int32)), (.int ((p0.toUInt32 >>> ((7 : Int32) &&& 31).toUInt32).toInt32))])) _
    refine XS.iand X0.here hx rfl (hb hby at_22) rfl ?_
    show Steps p.tables e below (s₁.setTop (mkF m 23 #[.val (.int p0), .val (.long q1), .second, .val (.long fr), .second, .unset, .unset, .unset, .unset, .unset, .unset, .unset, .unset, .unset, .unset, .unset, .unset] [(.int (((p0.toUInt32 >>> ((7 : Int32) &&& 31).toUInt32).toInt32) &&& (3 : Int32)))])) _
    refine XS.ifYes X0.here hx rfl (pc0 := 23) (pc' := 104) rfl (hb hby at_23) rfl b23 (by decide) (by decide) ?_
    show Steps p.tables e below (s₁.setTop (mkF m 104 #[.val (.int p0), .val (.long q1), .second, .val (.long fr), .second, .unset, .unset, .unset, .unset, .unset, .unset, .unset, .unset, .unset, .unset, .unset, .unset] [])) _
    refine XS.iloadN X0.here hx rfl (hb hby at_104) rfl ?_
    show Steps p.tables e below (s₁.setTop (mkF m 105 #[.val (.int p0), .val (.long q1), .second, .val (.long fr), .second, .unset, .unset, .unset, .unset, .unset, .unset, .unset, .unset, .unset, .unset, .unset, .unset] [(.int p0)])) _
    refine XS.bipush X0.here hx rfl (hb hby at_105) ?_
    show Steps p.tables e below (s₁.setTop (mkF m 107 #[.val (.int p0), .val (.long q1), .second, .val (.long fr), .second, .unset, .unset, .unset, .unset, .unset, .unset, .unset, .unset, .unset, .unset, .unset, .unset] [(.int (127 : Int32)), (.int p0)])) _
    refine XS.iand X0.here hx rfl (hb hby at_107) rfl ?_
    show Steps p.tables e below (s₁.setTop (mkF m 108 #[.val (.int p0), .val (.long q1), .second, .val (.long fr), .second, .unset, .unset, .unset, .unset, .unset, .unset, .unset, .unset, .unset, .unset, .unset, .unset] [(.int (p0 &&& (127 : Int32)))])) _
    refine XS.bipush X0.here hx rfl (hb hby at_108) ?_
    show Steps p.tables e below (s₁.setTop (mkF m 110 #[.val (.int p0), .val (.long q1), .second, .val (.long fr), .second, .unset, .unset, .unset, .unset, .unset, .unset, .unset, .unset, .unset, .unset, .unset, .unset] [(.int (115 : Int32)), (.int (p0 &&& (127 : Int32)))])) _
    refine XS.irem X0.here hx rfl (hb hby at_110) rfl (by decide) ?_
    show Steps p.tables e below (s₁.setTop (mkF m 111 #[.val (.int p0), .val (.long q1), .second, .val (.long fr), .second, .unset, .unset, .unset, .unset, .unset, .unset, .unset, .unset, .unset, .unset, .unset, .unset] [(.int ((p0 &&& (127 : Int32)) - ((p0 &&& (127 : Int32)) / (115 : Int32)) * (115 : Int32)))])) _
    refine XS.bipush X0.here hx rfl (hb hby at_111) ?_
    show Steps p.tables e below (s₁.setTop (mkF m 113 #[.val (.int p0), .val (.long q1), .second, .val (.long fr), .second, .unset, .unset, .unset, .unset, .unset, .unset, .unset, .unset, .unset, .unset, .unset, .unset] [(.int (56 : Int32)), (.int ((p0 &&& (127 : Int32)) - ((p0 &&& (127 : Int32)) / (115 : Int32)) * (115 : Int32)))])) _
    refine XS.isub X0.here hx rfl (hb hby at_113) rfl ?_
    show Steps p.tables e below (s₁.setTop (mkF m 114 #[.val (.int p0), .val (.long q1), .second, .val (.long fr), .second, .unset, .unset, .unset, .unset, .unset, .unset, .unset, .unset, .unset, .unset, .unset, .unset] [(.int (((p0 &&& (127 : Int32)) - ((p0 &&& (127 : Int32)) / (115 : Int32)) * (115 : Int32)) - (56 : Int32)))])) _
    rw [← hq]
    show Steps p.tables e below (s₁.setTop (mkF m 114 #[.val (.int p0), .val (.long q1), .second, .val (.long fr), .second, .unset, .unset, .unset, .unset, .unset, .unset, .unset, .unset, .unset, .unset, .unset, .unset] [(.int q)])) _
    refine XS.istore X0.here hx rfl (hb hby at_114) rfl (l' := #[.val (.int p0), .val (.long q1), .second, .val (.long fr), .second, .val (.int q), .unset, .unset, .unset, .unset, .unset, .unset, .unset, .unset, .unset, .unset, .unset]) rfl ?_
    show Steps p.tables e below (s₁.setTop (mkF m 116 #[.val (.int p0), .val (.long q1), .second, .val (.long fr), .second, .val (.int q), .unset, .unset, .unset, .unset, .unset, .unset, .unset, .unset, .unset, .unset, .unset] [])) _
    refine XS.iload X0.here hx rfl (hb hby at_116) rfl ?_
    show Steps p.tables e below (s₁.setTop (mkF m 118 #[.val (.int p0), .val (.long q1), .second, .val (.long fr), .second, .val (.int q), .unset, .unset, .unset, .unset, .unset, .unset, .unset, .unset, .unset, .unset, .unset] [(.int q)])) _
    refine XS.ifYes X0.here hx rfl (pc0 := 118) (pc' := 129) rfl (hb hby at_118) rfl b118 (by decide) (by decide) ?_
    show Steps p.tables e below (s₁.setTop (mkF m 129 #[.val (.int p0), .val (.long q1), .second, .val (.long fr), .second, .val (.int q), .unset, .unset, .unset, .unset, .unset, .unset, .unset, .unset, .unset, .unset, .unset] [])) _
    refine XS.dconst1 X0.here hx rfl (hb hby at_129) rfl ?_
    show Steps p.tables e below (s₁.setTop (mkF m 130 #[.val (.int p0), .val (.long q1), .second, .val (.long fr), .second, .val (.int q), .unset, .unset, .unset, .unset, .unset, .unset, .unset, .unset, .unset, .unset, .unset] [(.double FP.dconst1)])) _
    refine XS.lconst X0.here hx rfl (hb hby at_130) ?_
    show Steps p.tables e below (s₁.setTop (mkF m 131 #[.val (.int p0), .val (.long q1), .second, .val (.long fr), .second, .val (.int q), .unset, .unset, .unset, .unset, .unset, .unset, .unset, .unset, .unset, .unset, .unset] [(.long (1 : Int64)), (.double FP.dconst1)])) _
    refine XS.iload X0.here hx rfl (hb hby at_131) rfl ?_
    show Steps p.tables e below (s₁.setTop (mkF m 133 #[.val (.int p0), .val (.long q1), .second, .val (.long fr), .second, .val (.int q), .unset, .unset, .unset, .unset, .unset, .unset, .unset, .unset, .unset, .unset, .unset] [(.int q), (.long (1 : Int64)), (.double FP.dconst1)])) _
    refine XS.ineg X0.here hx rfl (hb hby at_133) rfl ?_
    show Steps p.tables e below (s₁.setTop (mkF m 134 #[.val (.int p0), .val (.long q1), .second, .val (.long fr), .second, .val (.int q), .unset, .unset, .unset, .unset, .unset, .unset, .unset, .unset, .unset, .unset, .unset] [(.int (-q)), (.long (1 : Int64)), (.double FP.dconst1)])) _
    refine XS.lshl X0.here hx rfl (hb hby at_134) rfl ?_
    show Steps p.tables e below (s₁.setTop (mkF m 135 #[.val (.int p0), .val (.long q1), .second, .val (.long fr), .second, .val (.int q), .unset, .unset, .unset, .unset, .unset, .unset, .unset, .unset, .unset, .unset, .unset] [(.long ((1 : Int64) <<< ((-q) &&& 0x3f).toInt64)), (.double FP.dconst1)])) _
    refine XS.l2dS X0.here hx rfl (hb hby at_135) rfl rfl ?_
    show Steps p.tables e below (s₁.setTop (mkF m 136 #[.val (.int p0), .val (.long q1), .second, .val (.long fr), .second, .val (.int q), .unset, .unset, .unset, .unset, .unset, .unset, .unset, .unset, .unset, .unset, .unset] [(.double (FP.l2d ((1 : Int64) <<< ((-q) &&& 0x3f).toInt64))), (.double FP.dconst1)])) _
    refine XS.ddivS X0.here hx rfl (hb hby at_136) rfl n136 rfl ?_
    show Steps p.tables e below (s₁.setTop (mkF m 137 #[.val (.int p0), .val (.long q1), .second, .val (.long fr), .second, .val (.int q), .unset, .unset, .unset, .unset, .unset, .unset, .unset, .unset, .unset, .unset, .unset] [(.double (FP.ddiv FP.dconst1 (FP.l2d ((1 : Int64) <<< ((-q) &&& 0x3f).toInt64))))])) _
    rw [← hpw]
    show Steps p.tables e below (s₁.setTop (mkF m 137 #[.val (.int p0), .val (.long q1), .second, .val (.long fr), .second, .val (.int q), .unset, .unset, .unset, .unset, .unset, .unset, .unset, .unset, .unset, .unset, .unset] [(.double pw)])) _
    refine XS.dstore X0.here hx rfl (hb hby at_137) rfl (l' := #[.val (.int p0), .val (.long q1), .second, .val (.long fr), .second, .val (.int q), .val (.double pw), .second, .unset, .unset, .unset, .unset, .unset, .unset, .unset, .unset, .unset]) rfl ?_
    show Steps p.tables e below (s₁.setTop (mkF m 139 #[.val (.int p0), .val (.long q1), .second, .val (.long fr), .second, .val (.int q), .val (.double pw), .second, .unset, .unset, .unset, .unset, .unset, .unset, .unset, .unset, .unset] [])) _
    refine X0.ldc2Long hx hown (mvT hZ (hw _ (List.mem_of_getElem? (i := 18) rfl))) (g := (mkF m 139 #[.val (.int p0), .val (.long q1), .second, .val (.long fr), .second, .val (.int q), .val (.double pw), .second, .unset, .unset, .unset, .unset, .unset, .unset, .unset, .unset, .unset] [])) rfl (hb hby at_139) _ ?_
    show Steps p.tables e below (s₁.setTop (mkF m 142 #[.val (.int p0), .val (.long q1), .second, .val (.long fr), .second, .val (.int q), .val (.double pw), .second, .unset, .unset, .unset, .unset, .unset, .unset, .unset, .unset, .unset] [(.long (4503599627370496 : Int64))])) _
    refine XS.lloadN X0.here hx rfl (hb hby at_142) rfl ?_
    show Steps p.tables e below (s₁.setTop (mkF m 143 #[.val (.int p0), .val (.long q1), .second, .val (.long fr), .second, .val (.int q), .val (.double pw), .second, .unset, .unset, .unset, .unset, .unset, .unset, .unset, .unset, .unset] [(.long fr), (.long (4503599627370496 : Int64))])) _
    refine XS.lor X0.here hx rfl (hb hby at_143) rfl ?_
    show Steps p.tables e below (s₁.setTop (mkF m 144 #[.val (.int p0), .val (.long q1), .second, .val (.long fr), .second, .val (.int q), .val (.double pw), .second, .unset, .unset, .unset, .unset, .unset, .unset, .unset, .unset, .unset] [(.long ((4503599627370496 : Int64) ||| fr))])) _
    refine XS.l2dS X0.here hx rfl (hb hby at_144) rfl rfl ?_
    show Steps p.tables e below (s₁.setTop (mkF m 145 #[.val (.int p0), .val (.long q1), .second, .val (.long fr), .second, .val (.int q), .val (.double pw), .second, .unset, .unset, .unset, .unset, .unset, .unset, .unset, .unset, .unset] [(.double (FP.l2d ((4503599627370496 : Int64) ||| fr)))])) _
    refine XS.dload X0.here hx rfl (hb hby at_145) rfl ?_
    show Steps p.tables e below (s₁.setTop (mkF m 147 #[.val (.int p0), .val (.long q1), .second, .val (.long fr), .second, .val (.int q), .val (.double pw), .second, .unset, .unset, .unset, .unset, .unset, .unset, .unset, .unset, .unset] [(.double pw), (.double (FP.l2d ((4503599627370496 : Int64) ||| fr)))])) _
    refine XS.dmulS X0.here hx rfl (hb hby at_147) rfl n147 rfl ?_
    show Steps p.tables e below (s₁.setTop (mkF m 148 #[.val (.int p0), .val (.long q1), .second, .val (.long fr), .second, .val (.int q), .val (.double pw), .second, .unset, .unset, .unset, .unset, .unset, .unset, .unset, .unset, .unset] [(.double (FP.dmul (FP.l2d ((4503599627370496 : Int64) ||| fr)) pw))])) _
    rw [← hva]
    show Steps p.tables e below (s₁.setTop (mkF m 148 #[.val (.int p0), .val (.long q1), .second, .val (.long fr), .second, .val (.int q), .val (.double pw), .second, .unset, .unset, .unset, .unset, .unset, .unset, .unset, .unset, .unset] [(.double va)])) _
    refine XS.dstore X0.here hx rfl (hb hby at_148) rfl (l' := #[.val (.int p0), .val (.long q1), .second, .val (.long fr), .second, .val (.int q), .val (.double pw), .second, .val (.double va), .second, .unset, .unset, .unset, .unset, .unset, .unset, .unset]) rfl ?_
    show Steps p.tables e below (s₁.setTop (mkF m 150 #[.val (.int p0), .val (.long q1), .second, .val (.long fr), .second, .val (.int q), .val (.double pw), .second, .val (.double va), .second, .unset, .unset, .unset, .unset, .unset, .unset, .unset] [])) _
    refine XS.dload X0.here hx rfl (hb hby at_150) rfl ?_
    show Steps p.tables e below (s₁.setTop (mkF m 152 #[.val (.int p0), .val (.long q1), .second, .val (.long fr), .second, .val (.int q), .val (.double pw), .second, .val (.double va), .second, .unset, .unset, .unset, .unset, .unset, .unset, .unset] [(.double va)])) _
    refine st1 _ ?_
    show Steps p.tables e below (T1.setTop (mkF m 155 #[.val (.int p0), .val (.long q1), .second, .val (.long fr), .second, .val (.int q), .val (.double pw), .second, .val (.double va), .second, .unset, .unset, .unset, .unset, .unset, .unset, .unset] [(.int (own_f34 (((-1074 : Int32) + be) - (1 : Int32))))])) _
    rw [← hkk]
    show Steps p.tables e below (T1.setTop (mkF m 155 #[.val (.int p0), .val (.long q1), .second, .val (.long fr), .second, .val (.int q), .val (.double pw), .second, .val (.double va), .second, .unset, .unset, .unset, .unset, .unset, .unset, .unset] [(.int kk)])) _
    refine XS.istore X1.here hx rfl (hb hby at_155) rfl (l' := #[.val (.int p0), .val (.long q1), .second, .val (.long fr), .second, .val (.int q), .val (.double pw), .second, .val (.double va), .second, .val (.int kk), .unset, .unset, .unset, .unset, .unset, .unset]) rfl ?_
    show Steps p.tables e below (T1.setTop (mkF m 157 #[.val (.int p0), .val (.long q1), .second, .val (.long fr), .second, .val (.int q), .val (.double pw), .second, .val (.double va), .second, .val (.int kk), .unset, .unset, .unset, .unset, .unset, .unset] [])) _
    refine XS.lloadN X1.here hx rfl (hb hby at_157) rfl ?_
    show Steps p.tables e below (T1.setTop (mkF m 158 #[.val (.int p0), .val (.long q1), .second, .val (.long fr), .second, .val (.int q), .val (.double pw), .second, .val (.double va), .second, .val (.int kk), .unset, .unset, .unset, .unset, .unset, .unset] [(.long fr)])) _
    refine XS.lconst X1.here hx rfl (hb hby at_158) ?_
    show Steps p.tables e below (T1.setTop (mkF m 159 #[.val (.int p0), .val (.long q1), .second, .val (.long fr), .second, .val (.int q), .val (.double pw), .second, .val (.double va), .second, .val (.int kk), .unset, .unset, .unset, .unset, .unset, .unset] [(.long (0 : Int64)), (.long fr)])) _
    refine XS.lcmp X1.here hx rfl (hb hby at_159) rfl ?_
    show Steps p.tables e below (T1.setTop (mkF m 160 #[.val (.int p0), .val (.long q1), .second, .val (.long fr), .second, .val (.int q), .val (.double pw), .second, .val (.double va), .second, .val (.int kk), .unset, .unset, .unset, .unset, .unset, .unset] [(.int (if fr > (0 : Int64) then 1 else if fr = (0 : Int64) then 0 else -1))])) _
    refine XS.ifNo X1.here hx rfl (hb hby at_160) rfl b160 ?_
    show Steps p.tables e below (T1.setTop (mkF m 163 #[.val (.int p0), .val (.long q1), .second, .val (.long fr), .second, .val (.int q), .val (.double pw), .second, .val (.double va), .second, .val (.int kk), .unset, .unset, .unset, .unset, .unset, .unset] [])) _
    refine X1.ldc2Long hx hown (mvT hZ (hw _ (List.mem_of_getElem? (i := 34) rfl))) (g := (mkF m 163 #[.val (.int p0), .val (.long q1), .second, .val (.long fr), .second, .val (.int q), .val (.double pw), .second, .val (.double va), .second, .val (.int kk), .unset, .unset, .unset, .unset, .unset, .unset] [])) rfl (hb hby at_163) _ ?_
    show Steps p.tables e below (T1.setTop (mkF m 166 #[.val (.int p0), .val (.long q1), .second, .val (.long fr), .second, .val (.int q), .val (.double pw), .second, .val (.double va), .second, .val (.int kk), .unset, .unset, .unset, .unset, .unset, .unset] [(.long (3 : Int64))])) _
    refine XS.goto X1.here hx rfl (pc0 := 166) (pc' := 172) rfl (hb hby at_166) (by decide) (by decide) ?_
    show Steps p.tables e below (T1.setTop (mkF m 172 #[.val (.int p0), .val (.long q1), .second, .val (.long fr), .second, .val (.int q), .val (.double pw), .second, .val (.double va), .second, .val (.int kk), .unset, .unset, .unset, .unset, .unset, .unset] [(.long (3 : Int64))])) _
    refine XS.lstore X1.here hx rfl (hb hby at_172) rfl (l' := #[.val (.int p0), .val (.long q1), .second, .val (.long fr), .second, .val (.int q), .val (.double pw), .second, .val (.double va), .second, .val (.int kk), .val (.long (3 : Int64)), .second, .unset, .unset, .unset, .unset]) rfl ?_
    show Steps p.tables e below (T1.setTop (mkF m 174 #[.val (.int p0), .val (.long q1), .second, .val (.long fr), .second, .val (.int q), .val (.double pw), .second, .val (.double va), .second, .val (.int kk), .val (.long (3 : Int64)), .second, .unset, .unset, .unset, .unset] [])) _
    refine XS.iconst X1.here hx rfl (hb hby at_174) ?_
    show Steps p.tables e below (T1.setTop (mkF m 175 #[.val (.int p0), .val (.long q1), .second, .val (.long fr), .second, .val (.int q), .val (.double pw), .second, .val (.double va), .second, .val (.int kk), .val (.long (3 : Int64)), .second, .unset, .unset, .unset, .unset] [(.int (2 : Int32))])) _
    refine XS.iload X1.here hx rfl (hb hby at_175) rfl ?_
    show Steps p.tables e below (T1.setTop (mkF m 177 #[.val (.int p0), .val (.long q1), .second, .val (.long fr), .second, .val (.int q), .val (.double pw), .second, .val (.double va), .second, .val (.int kk), .val (.long (3 : Int64)), .second, .unset, .unset, .unset, .unset] [(.int q), (.int (2 : Int32))])) _
    refine XS.isub X1.here hx rfl (hb hby at_177) rfl ?_
    show Steps p.tables e below (T1.setTop (mkF m 178 #[.val (.int p0), .val (.long q1), .second, .val (.long fr), .second, .val (.int q), .val (.double pw), .second, .val (.double va), .second, .val (.int kk), .val (.long (3 : Int64)), .second, .unset, .unset, .unset, .unset] [(.int ((2 : Int32) - q))])) _
    rw [← htt]
    show Steps p.tables e below (T1.setTop (mkF m 178 #[.val (.int p0), .val (.long q1), .second, .val (.long fr), .second, .val (.int q), .val (.double pw), .second, .val (.double va), .second, .val (.int kk), .val (.long (3 : Int64)), .second, .unset, .unset, .unset, .unset] [(.int tt)])) _
    refine XS.istore X1.here hx rfl (hb hby at_178) rfl (l' := #[.val (.int p0), .val (.long q1), .second, .val (.long fr), .second, .val (.int q), .val (.double pw), .second, .val (.double va), .second, .val (.int kk), .val (.long (3 : Int64)), .second, .val (.int tt), .unset, .unset, .unset]) rfl ?_
    show Steps p.tables e below (T1.setTop (mkF m 180 #[.val (.int p0), .val (.long q1), .second, .val (.long fr), .second, .val (.int q), .val (.double pw), .second, .val (.double va), .second, .val (.int kk), .val (.long (3 : Int64)), .second, .val (.int tt), .unset, .unset, .unset] [])) _
    refine XS.iload X1.here hx rfl (hb hby at_180) rfl ?_
    show Steps p.tables e below (T1.setTop (mkF m 182 #[.val (.int p0), .val (.long q1), .second, .val (.long fr), .second, .val (.int q), .val (.double pw), .second, .val (.double va), .second, .val (.int kk), .val (.long (3 : Int64)), .second, .val (.int tt), .unset, .unset, .unset] [(.int tt)])) _
    refine XS.ifYes X1.here hx rfl (pc0 := 182) (pc' := 237) rfl (hb hby at_182) rfl b182 (by decide) (by decide) ?_
    show Steps p.tables e below (T1.setTop (mkF m 237 #[.val (.int p0), .val (.long q1), .second, .val (.long fr), .second, .val (.int q), .val (.double pw), .second, .val (.double va), .second, .val (.int kk), .val (.long (3 : Int64)), .second, .val (.int tt), .unset, .unset, .unset] [])) _
    refine XS.iload X1.here hx rfl (hb hby at_237) rfl ?_
    show Steps p.tables e below (T1.setTop (mkF m 239 #[.val (.int p0), .val (.long q1), .second, .val (.long fr), .second, .val (.int q), .val (.double pw), .second, .val (.double va), .second, .val (.int kk), .val (.long (3 : Int64)), .second, .val (.int tt), .unset, .unset, .unset] [(.int kk)])) _
    refine XS.ifYes X1.here hx rfl (pc0 := 239) (pc' := 269) rfl (hb hby at_239) rfl b239 (by decide) (by decide) ?_
    show Steps p.tables e below (T1.setTop (mkF m 269 #[.val (.int p0), .val (.long q1), .second, .val (.long fr), .second, .val (.int q), .val (.double pw), .second, .val (.double va), .second, .val (.int kk), .val (.long (3 : Int64)), .second, .val (.int tt), .unset, .unset, .unset] [])) _
    refine XS.iload X1.here hx rfl (hb hby at_269) rfl ?_
    show Steps p.tables e below (T1.setTop (mkF m 271 #[.val (.int p0), .val (.long q1), .second, .val (.long fr), .second, .val (.int q), .val (.double pw), .second, .val (.double va), .second, .val (.int kk), .val (.long (3 : Int64)), .second, .val (.int tt), .unset, .unset, .unset] [(.int kk)])) _
    refine XS.bipush X1.here hx rfl (hb hby at_271) ?_
    show Steps p.tables e below (T1.setTop (mkF m 273 #[.val (.int p0), .val (.long q1), .second, .val (.long fr), .second, .val (.int q), .val (.double pw), .second, .val (.double va), .second, .val (.int kk), .val (.long (3 : Int64)), .second, .val (.int tt), .unset, .unset, .unset] [(.int (-18 : Int32)), (.int kk)])) _
    refine XS.icmpYes X1.here hx rfl (pc0 := 273) (pc' := 278) rfl (hb hby at_273) rfl b273 (by decide) (by decide) ?_
    show Steps p.tables e below (T1.setTop (mkF m 278 #[.val (.int p0), .val (.long q1), .second, .val (.long fr), .second, .val (.int q), .val (.double pw), .second, .val (.double va), .second, .val (.int kk), .val (.long (3 : Int64)), .second, .val (.int tt), .unset, .unset, .unset] [])) _
    refine XS.iload X1.here hx rfl (hb hby at_278) rfl ?_
    show Steps p.tables e below (T1.setTop (mkF m 280 #[.val (.int p0), .val (.long q1), .second, .val (.long fr), .second, .val (.int q), .val (.double pw), .second, .val (.double va), .second, .val (.int kk), .val (.long (3 : Int64)), .second, .val (.int tt), .unset, .unset, .unset] [(.int kk)])) _
    refine XS.ineg X1.here hx rfl (hb hby at_280) rfl ?_
    show Steps p.tables e below (T1.setTop (mkF m 281 #[.val (.int p0), .val (.long q1), .second, .val (.long fr), .second, .val (.int q), .val (.double pw), .second, .val (.double va), .second, .val (.int kk), .val (.long (3 : Int64)), .second, .val (.int tt), .unset, .unset, .unset] [(.int (-kk))])) _
    refine XS.istore X1.here hx rfl (hb hby at_281) rfl (l' := #[.val (.int p0), .val (.long q1), .second, .val (.long fr), .second, .val (.int q), .val (.double pw), .second, .val (.double va), .second, .val (.int kk), .val (.long (3 : Int64)), .second, .val (.int tt), .val (.int (-kk)), .unset, .unset]) rfl ?_
    show Steps p.tables e below (T1.setTop (mkF m 283 #[.val (.int p0), .val (.long q1), .second, .val (.long fr), .second, .val (.int q), .val (.double pw), .second, .val (.double va), .second, .val (.int kk), .val (.long (3 : Int64)), .second, .val (.int tt), .val (.int (-kk)), .unset, .unset] [])) _
    refine XS.lconst X1.here hx rfl (hb hby at_283) ?_
    show Steps p.tables e below (T1.setTop (mkF m 284 #[.val (.int p0), .val (.long q1), .second, .val (.long fr), .second, .val (.int q), .val (.double pw), .second, .val (.double va), .second, .val (.int kk), .val (.long (3 : Int64)), .second, .val (.int tt), .val (.int (-kk)), .unset, .unset] [(.long (1 : Int64))])) _
    refine XS.iload X1.here hx rfl (hb hby at_284) rfl ?_
    show Steps p.tables e below (T1.setTop (mkF m 286 #[.val (.int p0), .val (.long q1), .second, .val (.long fr), .second, .val (.int q), .val (.double pw), .second, .val (.double va), .second, .val (.int kk), .val (.long (3 : Int64)), .second, .val (.int tt), .val (.int (-kk)), .unset, .unset] [(.int tt), (.long (1 : Int64))])) _
    refine XS.lshl X1.here hx rfl (hb hby at_286) rfl ?_
    show Steps p.tables e below (T1.setTop (mkF m 287 #[.val (.int p0), .val (.long q1), .second, .val (.long fr), .second, .val (.int q), .val (.double pw), .second, .val (.double va), .second, .val (.int kk), .val (.long (3 : Int64)), .second, .val (.int tt), .val (.int (-kk)), .unset, .unset] [(.long ((1 : Int64) <<< (tt &&& 0x3f).toInt64))])) _
    refine XS.lstore X1.here hx rfl (hb hby at_287) rfl (l' := #[.val (.int p0), .val (.long q1), .second, .val (.long fr), .second, .val (.int q), .val (.double pw), .second, .val (.double va), .second, .val (.int kk), .val (.long (3 : Int64)), .second, .val (.int tt), .val (.int (-kk)), .val (.long ((1 : Int64) <<< (tt &&& 0x3f).toInt64)), .second]) rfl ?_
    show Steps p.tables e below (T1.setTop (mkF m 289 #[.val (.int p0), .val (.long q1), .second, .val (.long fr), .second, .val (.int q), .val (.double pw), .second, .val (.double va), .second, .val (.int kk), .val (.long (3 : Int64)), .second, .val (.int tt), .val (.int (-kk)), .val (.long ((1 : Int64) <<< (tt &&& 0x3f).toInt64)), .second] [])) _
    refine XS.lload X1.here hx rfl (hb hby at_289) rfl ?_
    show Steps p.tables e below (T1.setTop (mkF m 291 #[.val (.int p0), .val (.long q1), .second, .val (.long fr), .second, .val (.int q), .val (.double pw), .second, .val (.double va), .second, .val (.int kk), .val (.long (3 : Int64)), .second, .val (.int tt), .val (.int (-kk)), .val (.long ((1 : Int64) <<< (tt &&& 0x3f).toInt64)), .second] [(.long ((1 : Int64) <<< (tt &&& 0x3f).toInt64))])) _
    refine XS.lload X1.here hx rfl (hb hby at_291) rfl ?_
    show Steps p.tables e below (T1.setTop (mkF m 293 #[.val (.int p0), .val (.long q1), .second, .val (.long fr), .second, .val (.int q), .val (.double pw), .second, .val (.double va), .second, .val (.int kk), .val (.long (3 : Int64)), .second, .val (.int tt), .val (.int (-kk)), .val (.long ((1 : Int64) <<< (tt &&& 0x3f).toInt64)), .second] [(.long (3 : Int64)), (.long ((1 : Int64) <<< (tt &&& 0x3f).toInt64))])) _
    refine XS.iload X1.here hx rfl (hb hby at_293) rfl ?_
    show Steps p.tables e below (T1.setTop (mkF m 295 #[.val (.int p0), .val (.long q1), .second, .val (.long fr), .second, .val (.int q), .val (.double pw), .second, .val (.double va), .second, .val (.int kk), .val (.long (3 : Int64)), .second, .val (.int tt), .val (.int (-kk)), .val (.long ((1 : Int64) <<< (tt &&& 0x3f).toInt64)), .second] [(.int (-kk)), (.long (3 : Int64)), (.long ((1 : Int64) <<< (tt &&& 0x3f).toInt64))])) _
    refine st2 _ ?_
    show Steps p.tables e below (T2.setTop (mkF m 298 #[.val (.int p0), .val (.long q1), .second, .val (.long fr), .second, .val (.int q), .val (.double pw), .second, .val (.double va), .second, .val (.int kk), .val (.long (3 : Int64)), .second, .val (.int tt), .val (.int (-kk)), .val (.long ((1 : Int64) <<< (tt &&& 0x3f).toInt64)), .second] [(.long (own_p10 (-kk))), (.long (3 : Int64)), (.long ((1 : Int64) <<< (tt &&& 0x3f).toInt64))])) _
    refine XS.lmul X2.here hx rfl (hb hby at_298) rfl ?_
    show Steps p.tables e below (T2.setTop (mkF m 299 #[.val (.int p0), .val (.long q1), .second, .val (.long fr), .second, .val (.int q), .val (.double pw), .second, .val (.double va), .second, .val (.int kk), .val (.long (3 : Int64)), .second, .val (.int tt), .val (.int (-kk)), .val (.long ((1 : Int64) <<< (tt &&& 0x3f).toInt64)), .second] [(.long ((3 : Int64) * (own_p10 (-kk)))), (.long ((1 : Int64) <<< (tt &&& 0x3f).toInt64))])) _
    refine XS.lcmp X2.here hx rfl (hb hby at_299) rfl ?_
    show Steps p.tables e below (T2.setTop (mkF m 300 #[.val (.int p0), .val (.long q1), .second, .val (.long fr), .second, .val (.int q), .val (.double pw), .second, .val (.double va), .second, .val (.int kk), .val (.long (3 : Int64)), .second, .val (.int tt), .val (.int (-kk)), .val (.long ((1 : Int64) <<< (tt &&& 0x3f).toInt64)), .second] [(.int (if ((1 : Int64) <<< (tt &&& 0x3f).toInt64) > ((3 : Int64) * (own_p10 (-kk))) then 1 else if ((1 : Int64) <<< (tt &&& 0x3f).toInt64) = ((3 : Int64) * (own_p10 (-kk))) then 0 else -1))])) _
    refine XS.ifNo X2.here hx rfl (hb hby at_300) rfl b300 ?_
    show Steps p.tables e below (T2.setTop (mkF m 303 #[.val (.int p0), .val (.long q1), .second, .val (.long fr), .second, .val (.int q), .val (.double pw), .second, .val (.double va), .second, .val (.int kk), .val (.long (3 : Int64)), .second, .val (.int tt), .val (.int (-kk)), .val (.long ((1 : Int64) <<< (tt &&& 0x3f).toInt64)), .second] [])) _
    refine XS.lload X2.here hx rfl (hb hby at_303) rfl ?_
    show Steps p.tables e below (T2.setTop (mkF m 305 #[.val (.int p0), .val (.long q1), .second, .val (.long fr), .second, .val (.int q), .val (.double pw), .second, .val (.double va), .second, .val (.int kk), .val (.long (3 : Int64)), .second, .val (.int tt), .val (.int (-kk)), .val (.long ((1 : Int64) <<< (tt &&& 0x3f).toInt64)), .second] [(.long (3 : Int64))])) _
    refine XS.iload X2.here hx rfl (hb hby at_305) rfl ?_
    show Steps p.tables e below (T2.setTop (mkF m 307 #[.val (.int p0), .val (.long q1), .second, .val (.long fr), .second, .val (.int q), .val (.double pw), .second, .val (.double va), .second, .val (.int kk), .val (.long (3 : Int64)), .second, .val (.int tt), .val (.int (-kk)), .val (.long ((1 : Int64) <<< (tt &&& 0x3f).toInt64)), .second] [(.int (-kk)), (.long (3 : Int64))])) _
    refine XS.iconst X2.here hx rfl (hb hby at_307) ?_
    show Steps p.tables e below (T2.setTop (mkF m 308 #[.val (.int p0), .val (.long q1), .second, .val (.long fr), .second, .val (.int q), .val (.double pw), .second, .val (.double va), .second, .val (.int kk), .val (.long (3 : Int64)), .second, .val (.int tt), .val (.int (-kk)), .val (.long ((1 : Int64) <<< (tt &&& 0x3f).toInt64)), .second] [(.int (1 : Int32)), (.int (-kk)), (.long (3 : Int64))])) _
    refine XS.isub X2.here hx rfl (hb hby at_308) rfl ?_
    show Steps p.tables e below (T2.setTop (mkF m 309 #[.val (.int p0), .val (.long q1), .second, .val (.long fr), .second, .val (.int q), .val (.double pw), .second, .val (.double va), .second, .val (.int kk), .val (.long (3 : Int64)), .second, .val (.int tt), .val (.int (-kk)), .val (.long ((1 : Int64) <<< (tt &&& 0x3f).toInt64)), .second] [(.int ((-kk) - (1 : Int32))), (.long (3 : Int64))])) _
    refine st3 _ ?_
    show Steps p.tables e below (T3.setTop (mkF m 312 #[.val (.int p0), .val (.long q1), .second, .val (.long fr), .second, .val (.int q), .val (.double pw), .second, .val (.double va), .second, .val (.int kk), .val (.long (3 : Int64)), .second, .val (.int tt), .val (.int (-kk)), .val (.long ((1 : Int64) <<< (tt &&& 0x3f).toInt64)), .second] [(.long (own_p10 ((-kk) - (1 : Int32)))), (.long (3 : Int64))])) _
    refine XS.lmul X3.here hx rfl (hb hby at_312) rfl ?_
    show Steps p.tables e below (T3.setTop (mkF m 313 #[.val (.int p0), .val (.long q1), .second, .val (.long fr), .second, .val (.int q), .val (.double pw), .second, .val (.double va), .second, .val (.int kk), .val (.long (3 : Int64)), .second, .val (.int tt), .val (.int (-kk)), .val (.long ((1 : Int64) <<< (tt &&& 0x3f).toInt64)), .second] [(.long ((3 : Int64) * (own_p10 ((-kk) - (1 : Int32)))))])) _
    refine XS.lload X3.here hx rfl (hb hby at_313) rfl ?_
    show Steps p.tables e below (T3.setTop (mkF m 315 #[.val (.int p0), .val (.long q1), .second, .val (.long fr), .second, .val (.int q), .val (.double pw), .second, .val (.double va), .second, .val (.int kk), .val (.long (3 : Int64)), .second, .val (.int tt), .val (.int (-kk)), .val (.long ((1 : Int64) <<< (tt &&& 0x3f).toInt64)), .second] [(.long ((1 : Int64) <<< (tt &&& 0x3f).toInt64)), (.long ((3 : Int64) * (own_p10 ((-kk) - (1 : Int32)))))])) _
    refine XS.lcmp X3.here hx rfl (hb hby at_315) rfl ?_
    show Steps p.tables e below (T3.setTop (mkF m 316 #[.val (.int p0), .val (.long q1), .second, .val (.long fr), .second, .val (.int q), .val (.double pw), .second, .val (.double va), .second, .val (.int kk), .val (.long (3 : Int64)), .second, .val (.int tt), .val (.int (-kk)), .val (.long ((1 : Int64) <<< (tt &&& 0x3f).toInt64)), .second] [(.int (if ((3 : Int64) * (own_p10 ((-kk) - (1 : Int32)))) > ((1 : Int64) <<< (tt &&& 0x3f).toInt64) then 1 else if ((3 : Int64) * (own_p10 ((-kk) - (1 : Int32)))) = ((1 : Int64) <<< (tt &&& 0x3f).toInt64) then 0 else -1))])) _
    refine XS.ifNo X3.here hx rfl (hb hby at_316) rfl b316 ?_
    show Steps p.tables e below (T3.setTop (mkF m 319 #[.val (.int p0), .val (.long q1), .second, .val (.long fr), .second, .val (.int q), .val (.double pw), .second, .val (.double va), .second, .val (.int kk), .val (.long (3 : Int64)), .second, .val (.int tt), .val (.int (-kk)), .val (.long ((1 : Int64) <<< (tt &&& 0x3f).toInt64)), .second] [])) _
    refine XS.iconst X3.here hx rfl (hb hby at_319) ?_
    show Steps p.tables e below (T3.setTop (mkF m 320 #[.val (.int p0), .val (.long q1), .second, .val (.long fr), .second, .val (.int q), .val (.double pw), .second, .val (.double va), .second, .val (.int kk), .val (.long (3 : Int64)), .second, .val (.int tt), .val (.int (-kk)), .val (.long ((1 : Int64) <<< (tt &&& 0x3f).toInt64)), .second] [(.int (1 : Int32))])) _
    refine XS.goto X3.here hx rfl (pc0 := 320) (pc' := 324) rfl (hb hby at_320) (by decide) (by decide) ?_
    show Steps p.tables e below (T3.setTop (mkF m 324 #[.val (.int p0), .val (.long q1), .second, .val (.long fr), .second, .val (.int q), .val (.double pw), .second, .val (.double va), .second, .val (.int kk), .val (.long (3 : Int64)), .second, .val (.int tt), .val (.int (-kk)), .val (.long ((1 : Int64) <<< (tt &&& 0x3f).toInt64)), .second] [(.int (1 : Int32))])) _
    exact retN X3 hx (t := .boolean) Bd.returns (by simp) (hb hby at_324) hr
  · show QL n0 _ T3.heap _
    exact ⟨rfl, N3⟩
theorem ef_rmC1n (m : MethodId) (x0 : Int32) (x1 : Int64) : entryFrame m #[(.int x0), (.long x1)] maxLocals = mkF m 0 #[.val (.int x0), .val (.long x1), .second, .unset, .unset, .unset, .unset, .unset, .unset, .unset, .unset, .unset, .unset, .unset, .unset, .unset, .unset] [] := by first | (simp [entryFrame, mkF, argsToLocals, Value.category, maxLocals]; done) | rfl
set_option maxRecDepth 65536 in
set_option maxHeartbeats 40000000 in
theorem rmC1n (l : Launch) (Z : State) (a0 : Array Value) (hw : ∀ d ∈ tables_1, d.before a0 Z = true) (ws : List Jvm.Cond)  (p0 : Int32) (q1 : Int64) (fr : Int64) (q : Int32) (pw : UInt64) (va : UInt64) (be : Int32) (kk : Int32) (tt : Int32) (h0 : Heap) (n0 : Nat) (Z0 : n0 ≤ h0.size) 
    (hfr : fr = cond (ifCond.holds .eq (((p0.toUInt32 >>> ((9 : Int32) &&& 31).toUInt32).toInt32) &&& (1 : Int32))) (q1 &&& (4503599627370495 : Int64)) (0 : Int64))
    (b23 : ifCond.holds .ne (((p0.toUInt32 >>> ((7 : Int32) &&& 31).toUInt32).toInt32) &&& (3 : Int32)) = true)
    (hq : q = (((p0 &&& (127 : Int32)) - ((p0 &&& (127 : Int32)) / (115 : Int32)) * (115 : Int32)) - (56 : Int32)))
    (b118 : ifCond.holds .lt q = true)
    (n136 : NoNaN64 (FP.ddiv FP.dconst1 (FP.l2d ((1 : Int64) <<< ((-q) &&& 0x3f).toInt64))))
    (hpw : pw = (FP.ddiv FP.dconst1 (FP.l2d ((1 : Int64) <<< ((-q) &&& 0x3f).toInt64))))
    (n147 : NoNaN64 (FP.dmul (FP.l2d ((4503599627370496 : Int64) ||| fr)) pw))
    (hva : va = (FP.dmul (FP.l2d ((4503599627370496 : Int64) ||| fr)) pw))
    (hbe : be = ((va.toInt64.toUInt64 >>> ((52 : Int32) &&& 0x3f).toInt64.toUInt64).toInt64).toInt32)
    (d14 : ifCond.holds .ne be = true)
    (v0 : ifCond.holds .ne (if (va.toInt64 &&& (4503599627370495 : Int64)) > (0 : Int64) then 1 else if (va.toInt64 &&& (4503599627370495 : Int64)) = (0 : Int64) then 0 else -1) = true)
    (hkk : kk = (own_f10 (((-1074 : Int32) + be) - (1 : Int32))))
    (b160 : ifCond.holds .ne (if fr > (0 : Int64) then 1 else if fr = (0 : Int64) then 0 else -1) = true)
    (htt : tt = ((2 : Int32) - q))
    (b182 : ifCond.holds .gt tt = true)
    (b239 : ifCond.holds .lt kk = true)
    (b273 : if_icmp.holds .ge kk (-18 : Int32) = true)
    (b300 : ifCond.holds .gt (if ((1 : Int64) <<< (tt &&& 0x3f).toInt64) > ((4 : Int64) * (own_p10 (-kk))) then 1 else if ((1 : Int64) <<< (tt &&& 0x3f).toInt64) = ((4 : Int64) * (own_p10 (-kk))) then 0 else -1) = false)
    (b316 : ifCond.holds .ge (if ((4 : Int64) * (own_p10 ((-kk) - (1 : Int32)))) > ((1 : Int64) <<< (tt &&& 0x3f).toInt64) then 1 else if ((4 : Int64) * (own_p10 ((-kk) - (1 : Int32)))) = ((1 : Int64) <<< (tt &&& 0x3f).toInt64) then 0 else -1) = false) :
    MetFree l x (head1 (Jvm.Cond.code x code maxLocals ret :: ws) room_1) (fun a U => a = #[(.int p0), (.long q1)] ∧ Z.Warmed39 U.vm ∧ U.heap = h0) (fun _ _ _ _ _ => True) (fun _ U o U' => ∃ v L, o = .returned v ∧ QL n0 v U'.heap L ∧ FrameEnd U o U' L 0 0) := by
  refine MetFree.of_bodySF (plainFor_of_name pn_1) hisR ?_
  intro p e s m args below meth c s₁ Bd hml0 hP hK
  obtain ⟨rfl, hZ, hh⟩ := hP
  have hx := Bd.exec
  have hby := Bd.bytes
  have hml : c.maxLocals = 17 := hml0
  have hown : s.vm.findClass "com/example/sundry/sundry/ShortestDecimalUnitPinLaw" = some m.cls := findClass_of_methodNamed Bd.named
  have hnm := (name_of_methodNamed Bd.named Bd.method).1
  have X0 : Stand p l e room_1 s m #[(.int p0), (.long q1)] below meth c s₁ [] 0 0 := Stand.of_body Bd
  have e0 : s₁.heap = h0 := by rw [← hh, Bd.state]; rfl
  have N0 := Fr.nil n0
  have pre0 : ∀ t, Steps p.tables e below (s₁.setTop (mkF m 0 #[.val (.int p0), .val (.long q1), .second, .unset, .unset, .unset, .unset, .unset, .unset, .unset, .unset, .unset, .unset, .unset, .unset, .unset, .unset] [])) t → Steps p.tables e below (s₁.setTop (entryFrame m #[(.int p0), (.long q1)] maxLocals)) t := fun t k => castTop (ef_rmC1n m p0 q1) k
  have pre12 : ∀ t, Steps p.tables e below (s₁.setTop (mkF m 17 #[.val (.int p0), .val (.long q1), .second, .val (.long fr), .second, .unset, .unset, .unset, .unset, .unset, .unset, .unset, .unset, .unset, .unset, .unset, .unset] [])) t → Steps p.tables e below (s₁.setTop (mkF m 12 #[.val (.int p0), .val (.long q1), .second, .val (.long (q1 &&& (4503599627370495 : Int64))), .second, .unset, .unset, .unset, .unset, .unset, .unset, .unset, .unset, .unset, .unset, .unset, .unset] [(.int (((p0.toUInt32 >>> ((9 : Int32) &&& 31).toUInt32).toInt32) &&& (1 : Int32)))])) t := by
    intro t k
    cases hb12 : ifCond.holds .eq (((p0.toUInt32 >>> ((9 : Int32) &&& 31).toUInt32).toInt32) &&& (1 : Int32))
    · rw [hb12] at hfr
      obtain rfl : fr = (0 : Int64) := hfr
      show Steps p.tables e below (s₁.setTop (mkF m 12 #[.val (.int p0), .val (.long q1), .second, .val (.long (q1 &&& (4503599627370495 : Int64))), .second, .unset, .unset, .unset, .unset, .unset, .unset, .unset, .unset, .unset, .unset, .unset, .unset] [(.int (((p0.toUInt32 >>> ((9 : Int32) &&& 31).toUInt32).toInt32) &&& (1 : Int32)))])) _
      refine XS.ifNo X0.here hx rfl (hb hby at_12) rfl hb12 ?_
      show Steps p.tables e below (s₁.setTop (mkF m 15 #[.val (.int p0), .val (.long q1), .second, .val (.long (q1 &&& (4503599627370495 : Int64))), .second, .unset, .unset, .unset, .unset, .unset, .unset, .unset, .unset, .unset, .unset, .unset, .unset] [])) _
      refine XS.lconst X0.here hx rfl (hb hby at_15) ?_
      show Steps p.tables e below (s₁.setTop (mkF m 16 #[.val (.int p0), .val (.long q1), .second, .val (.long (q1 &&& (4503599627370495 : Int64))), .second, .unset, .unset, .unset, .unset, .unset, .unset, .unset, .unset, .unset, .unset, .unset, .unset] [(.long (0 : Int64))])) _
      refine XS.lstoreN X0.here hx rfl (hb hby at_16) rfl (l' := #[.val (.int p0), .val (.long q1), .second, .val (.long (0 : Int64)), .second, .unset, .unset, .unset, .unset, .unset, .unset, .unset, .unset, .unset, .unset, .unset, .unset]) rfl ?_
      show Steps p.tables e below (s₁.setTop (mkF m 17 #[.val (.int p0), .val (.long q1), .second, .val (.long (0 : Int64)), .second, .unset, .unset, .unset, .unset, .unset, .unset, .unset, .unset, .unset, .unset, .unset, .unset] [])) _
      exact k
    · rw [hb12] at hfr
      obtain rfl : fr = (q1 &&& (4503599627370495 : Int64)) := hfr
      show Steps p.tables e below (s₁.setTop (mkF m 12 #[.val (.int p0), .val (.long q1), .second, .val (.long (q1 &&& (4503599627370495 : Int64))), .second, .unset, .unset, .unset, .unset, .unset, .unset, .unset, .unset, .unset, .unset, .unset, .unset] [(.int (((p0.toUInt32 >>> ((9 : Int32) &&& 31).toUInt32).toInt32) &&& (1 : Int32)))])) _
      refine XS.ifYes X0.here hx rfl (pc0 := 12) (pc' := 17) rfl (hb hby at_12) rfl hb12 (by decide) (by decide) ?_
      show Steps p.tables e below (s₁.setTop (mkF m 17 #[.val (.int p0), .val (.long q1), .second, .val (.long (q1 &&& (4503599627370495 : Int64))), .second, .unset, .unset, .unset, .unset, .unset, .unset, .unset, .unset, .unset, .unset, .unset, .unset] [])) _
      exact k
  obtain ⟨_, _, ⟨T1, L1, k1, n1⟩, -, X1, ⟨Lc1, hQ1, l1, y1, z1⟩, st1⟩ := Jvm.LawKit.callS X0 hx (y := (⟨"com/example/sundry/sundry/ShortestDecimal", "unit", "(D)I"⟩ : MethodName)) hown (mvT hZ (hw _ (List.mem_of_getElem? (i := 3) rfl))) (mvT hZ (hw _ (List.mem_of_getElem? (i := 4) rfl))) (mvT hZ (hw _ (List.mem_of_getElem? (i := 5) rfl))) (mvT hZ (hw _ (List.mem_of_getElem? (i := 6) rfl))) (by decide) (backOf (W := 0) (rmD1 l Z a0 hw [] va be h0 n0 Z0 hbe d14 v0 (by decide)) hZ (hw _ (List.mem_of_getElem? (i := 6) rfl)) (hw _ (List.mem_of_getElem? (i := 5) rfl)) (by decide) (by decide)) (g := (mkF m 152 #[.val (.int p0), .val (.long q1), .second, .val (.long fr), .second, .val (.int q), .val (.double pw), .second, .val (.double va), .second, .unset, .unset, .unset, .unset, .unset, .unset, .unset] [(.double va)])) rfl (by rw [hml]; rfl) (argsL := [(.double va)]) (rest := []) (lenOf pd_3 rfl) rfl (by show 2 * 0 + _ ≤ _; exact Nat.le_of_eq rfl) (hb hby at_152) (fun _ _ => ⟨rfl, e0, (by decide : 0 + 0 ≤ _), (by decide : 0 + 0 ≤ _)⟩)
  dsimp only [Pt.U, Pt.locs, Pt.cells, Pt.slots] at X1 l1 y1 z1 st1 hQ1
  subst l1 y1 z1
  obtain ⟨rfl, N1a, e1⟩ := hQ1
  have N1 := Fr.app N0 N1a
  obtain ⟨_, _, ⟨T2, L2, k2, n2⟩, -, X2, ⟨Lc2, hQ2, l2, y2, z2⟩, st2⟩ := Jvm.LawKit.callS X1 hx (y := (⟨"com/example/sundry/sundry/ShortestDecimalUnitPinLaw", "pow10", "(I)J"⟩ : MethodName)) hown (mvT hZ (hw _ (List.mem_of_getElem? (i := 24) rfl))) (mvT hZ (hw _ (List.mem_of_getElem? (i := 25) rfl))) (mvT hZ (hw _ (List.mem_of_getElem? (i := 26) rfl))) (mvT hZ (hw _ (List.mem_of_getElem? (i := 27) rfl))) (by decide) (backOf (W := 4) (rmP l Z a0 hw [] (-kk) h0 n0 Z0) hZ (hw _ (List.mem_of_getElem? (i := 27) rfl)) (hw _ (List.mem_of_getElem? (i := 26) rfl)) (by decide) (by decide)) (g := (mkF m 295 #[.val (.int p0), .val (.long q1), .second, .val (.long fr), .second, .val (.int q), .val (.double pw), .second, .val (.double va), .second, .val (.int kk), .val (.long (4 : Int64)), .second, .val (.int tt), .val (.int (-kk)), .val (.long ((1 : Int64) <<< (tt &&& 0x3f).toInt64)), .second] [(.int (-kk)), (.long (4 : Int64)), (.long ((1 : Int64) <<< (tt &&& 0x3f).toInt64))])) rfl (by rw [hml]; rfl) (argsL := [(.int (-kk))]) (rest := [(.long (4 : Int64)), (.long ((1 : Int64) <<< (tt &&& 0x3f).toInt64))]) (lenOf pd_4 rfl) rfl (by show 2 * 0 + _ ≤ _; exact Nat.le_of_eq rfl) (hb hby at_295) (fun _ _ => ⟨rfl, e1, (by decide : 0 + 0 ≤ _), (by decide : 0 + 0 ≤ _)⟩)
  dsimp only [Pt.U, Pt.locs, Pt.cells, Pt.slots] at X2 l2 y2 z2 st2 hQ2
  subst l2 y2 z2
  obtain ⟨rfl, N2a, e2⟩ := hQ2
  have N2 := Fr.app N1 N2a
  obtain ⟨_, _, ⟨T3, L3, k3, n3⟩, -, X3, ⟨Lc3, hQ3, l3, y3, z3⟩, st3⟩ := Jvm.LawKit.callS X2 hx (y := (⟨"com/example/sundry/sundry/ShortestDecimalUnitPinLaw", "pow10", "(I)J"⟩ : MethodName)) hown (mvT hZ (hw _ (List.mem_of_getElem? (i := 24) rfl))) (mvT hZ (hw _ (List.mem_of_getElem? (i := 25) rfl))) (mvT hZ (hw _ (List.mem_of_getElem? (i := 26) rfl))) (mvT hZ (hw _ (List.mem_of_getElem? (i := 27) rfl))) (by decide) (backOf (W := 2) (rmP l Z a0 hw [] ((-kk) - (1 : Int32)) h0 n0 Z0) hZ (hw _ (List.mem_of_getElem? (i := 27) rfl)) (hw _ (List.mem_of_getElem? (i := 26) rfl)) (by decide) (by decide)) (g := (mkF m 309 #[.val (.int p0), .val (.long q1), .second, .val (.long fr), .second, .val (.int q), .val (.double pw), .second, .val (.double va), .second, .val (.int kk), .val (.long (4 : Int64)), .second, .val (.int tt), .val (.int (-kk)), .val (.long ((1 : Int64) <<< (tt &&& 0x3f).toInt64)), .second] [(.int ((-kk) - (1 : Int32))), (.long (4 : Int64))])) rfl (by rw [hml]; rfl) (argsL := [(.int ((-kk) - (1 : Int32)))]) (rest := [(.long (4 : Int64))]) (lenOf pd_4 rfl) rfl (by show 2 * 0 + _ ≤ _; exact Nat.le_of_eq rfl) (hb hby at_309) (fun _ _ => ⟨rfl, e2, (by decide : 0 + 0 ≤ _), (by decide : 0 + 0 ≤ _)⟩)
  dsimp only [Pt.U, Pt.locs, Pt.cells, Pt.slots] at X3 l3 y3 z3 st3 hQ3
  subst l3 y3 z3
  obtain ⟨rfl, N3a, e3⟩ := hQ3
  have N3 := Fr.app N2 N3a
  obtain ⟨fs, hr, hrun, hended, hW, hsame⟩ := X3.leave (v := some (.int (1 : Int32))) (fun h => by rw [Bd.returns] at h; cases h)
  refine ⟨_, _, pre0 _ ?_, hrun, hended, _, _, rfl, ?_, ⟨_, rfl⟩, hW, hsame.mono (Nat.le_of_ble_eq_true rfl) (Nat.le_of_ble_eq_true rfl)⟩
  · show Steps p.tables e below (s₁.setTop (mkF m 0 #[.val (.int p0), .val (.long q1), .second, .unset, .unset, .unset, .unset, .unset, .unset, .unset, .unset, .unset, .unset, .unset, .unset, .unset, .unset] [])) _
    refine XS.lloadN X0.here hx rfl (hb hby at_0) rfl ?_
    show Steps p.tables e below (s₁.setTop (mkF m 1 #[.val (.int p0), .val (.long q1), .second, .unset, .unset, .unset, .unset, .unset, .unset, .unset, .unset, .unset, .unset, .unset, .unset, .unset, .unset] [(.long q1)])) _
    refine X0.ldc2Long hx hown (mvT hZ (hw _ (List.mem_of_getElem? (i := 0) rfl))) (g := (mkF m 1 #[.val (.int p0), .val (.long q1), .second, .unset, .unset, .unset, .unset, .unset, .unset, .unset, .unset, .unset, .unset, .unset, .unset, .unset, .unset] [(.long q1)])) rfl (hb hby at_1) _ ?_
    show Steps p.tables e below (s₁.setTop (mkF m 4 #[.val (.int p0), .val (.long q1), .second, .unset, .unset, .unset, .unset, .unset, .unset, .unset, .unset, .unset, .unset, .unset, .unset, .unset, .unset] [(.long (4503599627370495 : Int64)), (.long q1)])) _
    refine XS.land X0.here hx rfl (hb hby at_4) rfl ?_
    show Steps p.tables e below (s₁.setTop (mkF m 5 #[.val (.int p0), .val (.long q1), .second, .unset, .unset, .unset, .unset, .unset, .unset, .unset, .unset, .unset, .unset, .unset, .unset, .unset, .unset] [(.long (q1 &&& (4503599627370495 : Int64)))])) _
    refine XS.lstoreN X0.here hx rfl (hb hby at_5) rfl (l' := #[.val (.int p0), .val (.long q1), .second, .val (.long (q1 &&& (4503599627370495 : Int64))), .second, .unset, .unset, .unset, .unset, .unset, .unset, .unset, .unset, .unset, .unset, .unset, .unset]) rfl ?_
    show Steps p.tables e below (s₁.setTop (mkF m 6 #[.val (.int p0), .val (.long q1), .second, .val (.long (q1 &&& (4503599627370495 : Int64))), .second, .unset, .unset, .unset, .unset, .unset, .unset, .unset, .unset, .unset, .unset, .unset, .unset] [])) _
    refine XS.iloadN X0.here hx rfl (hb hby at_6) rfl ?_
    show Steps p.tables e below (s₁.setTop (mkF m 7 #[.val (.int p0), .val (.long q1), .second, .val (.long (q1 &&& (4503599627370495 : Int64))), .second, .unset, .unset, .unset, .unset, .unset, .unset, .unset, .unset, .unset, .unset, .unset, .unset] [(.int p0)])) _
    refine XS.bipush X0.here hx rfl (hb hby at_7) ?_
    show Steps p.tables e below (s₁.setTop (mkF m 9 #[.val (.int p0), .val (.long q1), .second, .val (.long (q1 &&& (4503599627370495 : Int64))), .second, .unset, .unset, .unset, .unset, .unset, .unset, .unset, .unset, .unset, .unset, .unset, .unset] [(.int (9 : Int32)), (.int p0)])) _
    refine XS.iushr X0.here hx rfl (hb hby at_9) rfl ?_
    show Steps p.tables e below (s₁.setTop (mkF m 10 #[.val (.int p0), .val (.long q1), .second, .val (.long (q1 &&& (4503599627370495 : Int64))), .second, .unset, .unset, .unset, .unset, .unset, .unset, .unset, .unset, .unset, .unset, .unset, .unset] [(.int ((p0.toUInt32 >>> ((9 : Int32) &&& 31).toUInt32).toInt32))])) _
    refine XS.iconst X0.here hx rfl (hb hby at_10) ?_
    show Steps p.tables e below (s₁.setTop (mkF m 11 #[.val (.int p0), .val (.long q1), .second, .val (.long (q1 &&& (4503599627370495 : Int64))), .second, .unset, .unset, .unset, .unset, .unset, .unset, .unset, .unset, .unset, .unset, .unset, .unset] [(.int (1 : Int32)), (.int ((p0.toUInt32 >>> ((9 : Int32) &&& 31).toUInt32).toInt32))])) _
    refine XS.iand X0.here hx rfl (hb hby at_11) rfl ?_
    show Steps p.tables e below (s₁.setTop (mkF m 12 #[.val (.int p0), .val (.long q1), .second, .val (.long (q1 &&& (4503599627370495 : Int64))), .second, .unset, .unset, .unset, .unset, .unset, .unset, .unset, .unset, .unset, .unset, .unset, .unset] [(.int (((p0.toUInt32 >>> ((9 : Int32) &&& 31).toUInt32).toInt32) &&& (1 : Int32)))])) _
    refine pre12 _ ?_
    show Steps p.tables e below (s₁.setTop (mkF m 17 #[.val (.int p0), .val (.long q1), .second, .val (.long fr), .second, .unset, .unset, .unset, .unset, .unset, .unset, .unset, .unset, .unset, .unset, .unset, .unset] [])) _
    refine XS.iloadN X0.here hx rfl (hb hby at_17) rfl ?_
    show Steps p.tables e below (s₁.setTop (mkF m 18 #[.val (.int p0), .val (.long q1), .second, .val (.long fr), .second, .unset, .unset, .unset, .unset, .unset, .unset, .unset, .unset, .unset, .unset, .unset, .unset] [(.int p0)])) _
    refine XS.bipush X0.here hx rfl (hb hby at_18) ?_
    show Steps p.tables e below (s₁.setTop (mkF m 20 #[.val (.int p0), .val (.long q1), .second, .val (.long fr), .second, .unset, .unset, .unset, .unset, .unset, .unset, .unset, .unset, .unset, .unset, .unset, .unset] [(.int (7 : Int32)), (.int p0)])) _
    refine XS.iushr X0.here hx rfl (hb hby at_20) rfl ?_
    show Steps p.tables e below (s₁.setTop (mkF m 21 #[.val (.int p0), .val (.long q1), .second, .val (.long fr), .second, .unset, .unset, .unset, .unset, .unset, .unset, .unset, .unset, .unset, .unset, .unset, .unset] [(.int ((p0.toUInt32 >>> ((7 : Int32) &&& 31).toUInt32).toInt32))])) _
    refine XS.iconst X0.here hx rfl (hb hby at_21) ?_
    show Steps p.tables e below (s₁.setTop (mkF m 22 #[.val (.int p0), .val (.long q1), .second, .val (.long fr), .second, .unset, .unset, .unset, .unset, .unset, .unset, .unset, .unset, .unset, .unset, .unset, .unset] [(.int (3 : Int32)), (.int ((p0.toUInt32 >>> ((7 : Int32) &&& 31).toUInt32).toInt32))])) _
    refine XS.iand X0.here hx rfl (hb hby at_22) rfl ?_
    show Steps p.tables e below (s₁.setTop (mkF m 23 #[.val (.int p0), .val (.long q1), .second, .val (.long fr), .second, .unset, .unset, .unset, .unset, .unset, .unset, .unset, .unset, .unset, .unset, .unset, .unset] [(.int (((p0.toUInt32 >>> ((7 : Int32) &&& 31).toUInt32).toInt32) &&& (3 : Int32)))])) _
    refine XS.ifYes X0.here hx rfl (pc0 := 23) (pc' := 104) rfl (hb hby at_23) rfl b23 (by decide) (by decide) ?_
    show Steps p.tables e below (s₁.setTop (mkF m 104 #[.val (.int p0), .val (.long q1), .second, .val (.long fr), .second, .unset, .unset, .unset, .unset, .unset, .unset, .unset, .unset, .unset, .unset, .unset, .unset] [])) _
    refine XS.iloadN X0.here hx rfl (hb hby at_104) rfl ?_
    show Steps p.tables e below (s₁.setTop (mkF m 105 #[.val (.int p0), .val (.long q1), .second, .val (.long fr), .second, .unset, .unset, .unset, .unset, .unset, .unset, .unset, .unset, .unset, .unset, .unset, .unset] [(.int p0)])) _
    refine XS.bipush X0.here hx rfl (hb hby at_105) ?_
    show Steps p.tables e below (s₁.setTop (mkF m 107 #[.val (.int p0), .val (.long q1), .second, .val (.long fr), .second, .unset, .unset, .unset, .unset, .unset, .unset, .unset, .unset, .unset, .unset, .unset, .unset] [(.int (127 : Int32)), (.int p0)])) _
    refine XS.iand X0.here hx rfl (hb hby at_107) rfl ?_
    show Steps p.tables e below (s₁.setTop (mkF m 108 #[.val (.int p0), .val (.long q1), .second, .val (.long fr), .second, .unset, .unset, .unset, .unset, .unset, .unset, .unset, .unset, .unset, .unset, .unset, .unset] [(.int (p0 &&& (127 : Int32)))])) _
    refine XS.bipush X0.here hx rfl (hb hby at_108) ?_
    show Steps p.tables e below (s₁.setTop (mkF m 110 #[.val (.int p0), .val (.long q1), .second, .val (.long fr), .second, .unset, .unset, .unset, .unset, .unset, .unset, .unset, .unset, .unset, .unset, .unset, .unset] [(.int (115 : Int32)), (.int (p0 &&& (127 : Int32)))])) _
    refine XS.irem X0.here hx rfl (hb hby at_110) rfl (by decide) ?_
    show Steps p.tables e below (s₁.setTop (mkF m 111 #[.val (.int p0), .val (.long q1), .second, .val (.long fr), .second, .unset, .unset, .unset, .unset, .unset, .unset, .unset, .unset, .unset, .unset, .unset, .unset] [(.int ((p0 &&& (127 : Int32)) - ((p0 &&& (127 : Int32)) / (115 : Int32)) * (115 : Int32)))])) _
    refine XS.bipush X0.here hx rfl (hb hby at_111) ?_
    show Steps p.tables e below (s₁.setTop (mkF m 113 #[.val (.int p0), .val (.long q1), .second, .val (.long fr), .second, .unset, .unset, .unset, .unset, .unset, .unset, .unset, .unset, .unset, .unset, .unset, .unset] [(.int (56 : Int32)), (.int ((p0 &&& (127 : Int32)) - ((p0 &&& (127 : Int32)) / (115 : Int32)) * (115 : Int32)))])) _
    refine XS.isub X0.here hx rfl (hb hby at_113) rfl ?_
    show Steps p.tables e below (s₁.setTop (mkF m 114 #[.val (.int p0), .val (.long q1), .second, .val (.long fr), .second, .unset, .unset, .unset, .unset, .unset, .unset, .unset, .unset, .unset, .unset, .unset, .unset] [(.int (((p0 &&& (127 : Int32)) - ((p0 &&& (127 : Int32)) / (115 : Int32)) * (115 : Int32)) - (56 : Int32)))])) _
    rw [← hq]
    show Steps p.tables e below (s₁.setTop (mkF m 114 #[.val (.int p0), .val (.long q1), .second, .val (.long fr), .second, .unset, .unset, .unset, .unset, .unset, .unset, .unset, .unset, .unset, .unset, .unset, .unset] [(.int q)])) _
    refine XS.istore X0.here hx rfl (hb hby at_114) rfl (l' := #[.val (.int p0), .val (.long q1), .second, .val (.long fr), .second, .val (.int q), .unset, .unset, .unset, .unset, .unset, .unset, .unset, .unset, .unset, .unset, .unset]) rfl ?_
    show Steps p.tables e below (s₁.setTop (mkF m 116 #[.val (.int p0), .val (.long q1), .second, .val (.long fr), .second, .val (.int q), .unset, .unset, .unset, .unset, .unset, .unset, .unset, .unset, .unset, .unset, .unset] [])) _
    refine XS.iload X0.here hx rfl (hb hby at_116) rfl ?_
    show Steps p.tables e below (s₁.setTop (mkF m 118 #[.val (.int p0), .val (.long q1), .second, .val (.long fr), .second, .val (.int q), .unset, .unset, .unset, .unset, .unset, .unset, .unset, .unset, .unset, .unset, .unset] [(.int q)])) _
    refine XS.ifYes X0.here hx rfl (pc0 := 118) (pc' := 129) rfl (hb hby at_118) rfl b118 (by decide) (by decide) ?_
    show Steps p.tables e below (s₁.setTop (mkF m 129 #[.val (.int p0), .val (.long q1), .second, .val (.long fr), .second, .val (.int q), .unset, .unset, .unset, .unset, .unset, .unset, .unset, .unset, .unset, .unset, .unset] [])) _
    refine XS.dconst1 X0.here hx rfl (hb hby at_129) rfl ?_
    show Steps p.tables e below (s₁.setTop (mkF m 130 #[.val (.int p0), .val (.long q1), .second, .val (.long fr), .second, .val (.int q), .unset, .unset, .unset, .unset, .unset, .unset, .unset, .unset, .unset, .unset, .unset] [(.double FP.dconst1)])) _
    refine XS.lconst X0.here hx rfl (hb hby at_130) ?_
    show Steps p.tables e below (s₁.setTop (mkF m 131 #[.val (.int p0), .val (.long q1), .second, .val (.long fr), .second, .val (.int q), .unset, .unset, .unset, .unset, .unset, .unset, .unset, .unset, .unset, .unset, .unset] [(.long (1 : Int64)), (.double FP.dconst1)])) _
    refine XS.iload X0.here hx rfl (hb hby at_131) rfl ?_
    show Steps p.tables e below (s₁.setTop (mkF m 133 #[.val (.int p0), .val (.long q1), .second, .val (.long fr), .second, .val (.int q), .unset, .unset, .unset, .unset, .unset, .unset, .unset, .unset, .unset, .unset, .unset] [(.int q), (.long (1 : Int64)), (.double FP.dconst1)])) _
    refine XS.ineg X0.here hx rfl (hb hby at_133) rfl ?_
    show Steps p.tables e below (s₁.setTop (mkF m 134 #[.val (.int p0), .val (.long q1), .second, .val (.long fr), .second, .val (.int q), .unset, .unset, .unset, .unset, .unset, .unset, .unset, .unset, .unset, .unset, .unset] [(.int (-q)), (.long (1 : Int64)), (.double FP.dconst1)])) _
    refine XS.lshl X0.here hx rfl (hb hby at_134) rfl ?_
    show Steps p.tables e below (s₁.setTop (mkF m 135 #[.val (.int p0), .val (.long q1), .second, .val (.long fr), .second, .val (.int q), .unset, .unset, .unset, .unset, .unset, .unset, .unset, .unset, .unset, .unset, .unset] [(.long ((1 : Int64) <<< ((-q) &&& 0x3f).toInt64)), (.double FP.dconst1)])) _
    refine XS.l2dS X0.here hx rfl (hb hby at_135) rfl rfl ?_
    show Steps p.tables e below (s₁.setTop (mkF m 136 #[.val (.int p0), .val (.long q1), .second, .val (.long fr), .second, .val (.int q), .unset, .unset, .unset, .unset, .unset, .unset, .unset, .unset, .unset, .unset, .unset] [(.double (FP.l2d ((1 : Int64) <<< ((-q) &&& 0x3f).toInt64))), (.double FP.dconst1)])) _
    refine XS.ddivS X0.here hx rfl (hb hby at_136) rfl n136 rfl ?_
    show Steps p.tables e below (s₁.setTop (mkF m 137 #[.val (.int p0), .val (.long q1), .second, .val (.long fr), .second, .val (.int q), .unset, .unset, .unset, .unset, .unset, .unset, .unset, .unset, .unset, .unset, .unset] [(.double (FP.ddiv FP.dconst1 (FP.l2d ((1 : Int64) <<< ((-q) &&& 0x3f).toInt64))))])) _
    rw [← hpw]
    show Steps p.tables e below (s₁.setTop (mkF m 137 #[.val (.int p0), .val (.long q1), .second, .val (.long fr), .second, .val (.int q), .unset, .unset, .unset, .unset, .unset, .unset, .unset, .unset, .unset, .unset, .unset] [(.double pw)])) _
    refine XS.dstore X0.here hx rfl (hb hby at_137) rfl (l' := #[.val (.int p0), .val (.long q1), .second, .val (.long fr), .second, .val (.int q), .val (.double pw), .second, .unset, .unset, .unset, .unset, .unset, .unset, .unset, .unset, .unset]) rfl ?_
    show Steps p.tables e below (s₁.setTop (mkF m 139 #[.val (.int p0), .val (.long q1), .second, .val (.long fr), .second, .val (.int q), .val (.double pw), .second, .unset, .unset, .unset, .unset, .unset, .unset, .unset, .unset, .unset] [])) _
    refine X0.ldc2Long hx hown (mvT hZ (hw _ (List.mem_of_getElem? (i := 18) rfl))) (g := (mkF m 139 #[.val (.int p0), .val (.long q1), .second, .val (.long fr), .second, .val (.int q), .val (.double pw), .second, .unset, .unset, .unset, .unset, .unset, .unset, .unset, .unset, .unset] [])) rfl (hb hby at_139) _ ?_
    show Steps p.tables e below (s₁.setTop (mkF m 142 #[.val (.int p0), .val (.long q1), .second, .val (.long fr), .second, .val (.int q), .val (.double pw), .second, .unset, .unset, .unset, .unset, .unset, .unset, .unset, .unset, .unset] [(.long (4503599627370496 : Int64))])) _
    refine XS.lloadN X0.here hx rfl (hb hby at_142) rfl ?_
    show Steps p.tables e below (s₁.setTop (mkF m 143 #[.val (.int p0), .val (.long q1), .second, .val (.long fr), .second, .val (.int q), .val (.double pw), .second, .unset, .unset, .unset, .unset, .unset, .unset, .unset, .unset, .unset] [(.long fr), (.long (4503599627370496 : Int64))])) _
    refine XS.lor X0.here hx rfl (hb hby at_143) rfl ?_
    show Steps p.tables e below (s₁.setTop (mkF m 144 #[.val (.int p0), .val (.long q1), .second, .val (.long fr), .second, .val (.int q), .val (.double pw), .second, .unset, .unset, .unset, .unset, .unset, .unset, .unset, .unset, .unset] [(.long ((4503599627370496 : Int64) ||| fr))])) _
    refine XS.l2dS X0.here hx rfl (hb hby at_144) rfl rfl ?_
    show Steps p.tables e below (s₁.setTop (mkF m 145 #[.val (.int p0), .val (.long q1), .second, .val (.long fr), .second, .val (.int q), .val (.double pw), .second, .unset, .unset, .unset, .unset, .unset, .unset, .unset, .unset, .unset] [(.double (FP.l2d ((4503599627370496 : Int64) ||| fr)))])) _
    refine XS.dload X0.here hx rfl (hb hby at_145) rfl ?_
    show Steps p.tables e below (s₁.setTop (mkF m 147 #[.val (.int p0), .val (.long q1), .second, .val (.long fr), .second, .val (.int q), .val (.double pw), .second, .unset, .unset, .unset, .unset, .unset, .unset, .unset, .unset, .unset] [(.double pw), (.double (FP.l2d ((4503599627370496 : Int64) ||| fr)))])) _
    refine XS.dmulS X0.here hx rfl (hb hby at_147) rfl n147 rfl ?_
    show Steps p.tables e below (s₁.setTop (mkF m 148 #[.val (.int p0), .val (.long q1), .second, .val (.long fr), .second, .val (.int q), .val (.double pw), .second, .unset, .unset, .unset, .unset, .unset, .unset, .unset, .unset, .unset] [(.double (FP.dmul (FP.l2d ((4503599627370496 : Int64) ||| fr)) pw))])) _
    rw [← hva]
    show Steps p.tables e below (s₁.setTop (mkF m 148 #[.val (.int p0), .val (.long q1), .second, .val (.long fr), .second, .val (.int q), .val (.double pw), .second, .unset, .unset, .unset, .unset, .unset, .unset, .unset, .unset, .unset] [(.double va)])) _
    refine XS.dstore X0.here hx rfl (hb hby at_148) rfl (l' := #[.val (.int p0), .val (.long q1), .second, .val (.long fr), .second, .val (.int q), .val (.double pw), .second, .val (.double va), .second, .unset, .unset, .unset, .unset, .unset, .unset, .unset]) rfl ?_
    show Steps p.tables e below (s₁.setTop (mkF m 150 #[.val (.int p0), .val (.long q1), .second, .val (.long fr), .second, .val (.int q), .val (.double pw), .second, .val (.double va), .second, .unset, .unset, .unset, .unset, .unset, .unset, .unset] [])) _
    refine XS.dload X0.here hx rfl (hb hby at_150) rfl ?_
    show Steps p.tables e below (s₁.setTop (mkF m 152 #[.val (.int p0), .val (.long q1), .second, .val (.long fr), .second, .val (.int q), .val (.double pw), .second, .val (.double va), .second, .unset, .unset, .unset, .unset, .unset, .unset, .unset] [(.double va)])) _
    refine st1 _ ?_
    show Steps p.tables e below (T1.setTop (mkF m 155 #[.val (.int p0), .val (.long q1), .second, .val (.long fr), .second, .val (.int q), .val (.double pw), .second, .val (.double va), .second, .unset, .unset, .unset, .unset, .unset, .unset, .unset] [(.int (own_f10 (((-1074 : Int32) + be) - (1 : Int32))))])) _
    rw [← hkk]
    show Steps p.tables e below (T1.setTop (mkF m 155 #[.val (.int p0), .val (.long q1), .second, .val (.long fr), .second, .val (.int q), .val (.double pw), .second, .val (.double va), .second, .unset, .unset, .unset, .unset, .unset, .unset, .unset] [(.int kk)])) _
    refine XS.istore X1.here hx rfl (hb hby at_155) rfl (l' := #[.val (.int p0), .val (.long q1), .second, .val (.long fr), .second, .val (.int q), .val (.double pw), .second, .val (.double va), .second, .val (.int kk), .unset, .unset, .unset, .unset, .unset, .unset]) rfl ?_
    show Steps p.tables e below (T1.setTop (mkF m 157 #[.val (.int p0), .val (.long q1), .second, .val (.long fr), .second, .val (.int q), .val (.double pw), .second, .val (.double va), .second, .val (.int kk), .unset, .unset, .unset, .unset, .unset, .unset] [])) _
    refine XS.lloadN X1.here hx rfl (hb hby at_157) rfl ?_
    show Steps p.tables e below (T1.setTop (mkF m 158 #[.val (.int p0), .val (.long q1), .second, .val (.long fr), .second, .val (.int q), .val (.double pw), .second, .val (.double va), .second, .val (.int kk), .unset, .unset, .unset, .unset, .unset, .unset] [(.long fr)])) _
    refine XS.lconst X1.here hx rfl (hb hby at_158) ?_
    show Steps p.tables e below (T1.setTop (mkF m 159 #[.val (.int p0), .val (.long q1), .second, .val (.long fr), .second, .val (.int q), .val (.double pw), .second, .val (.double va), .second, .val (.int kk), .unset, .unset, .unset, .unset, .unset, .unset] [(.long (0 : Int64)), (.long fr)])) _
    refine XS.lcmp X1.here hx rfl (hb hby at_159) rfl ?_
    show Steps p.tables e below (T1.setTop (mkF m 160 #[.val (.int p0), .val (.long q1), .second, .val (.long fr), .second, .val (.int q), .val (.double pw), .second, .val (.double va), .second, .val (.int kk), .unset, .unset, .unset, .unset, .unset, .unset] [(.int (if fr > (0 : Int64) then 1 else if fr = (0 : Int64) then 0 else -1))])) _
    refine XS.ifYes X1.here hx rfl (pc0 := 160) (pc' := 169) rfl (hb hby at_160) rfl b160 (by decide) (by decide) ?_
    show Steps p.tables e below (T1.setTop (mkF m 169 #[.val (.int p0), .val (.long q1), .second, .val (.long fr), .second, .val (.int q), .val (.double pw), .second, .val (.double va), .second, .val (.int kk), .unset, .unset, .unset, .unset, .unset, .unset] [])) _
    refine X1.ldc2Long hx hown (mvT hZ (hw _ (List.mem_of_getElem? (i := 23) rfl))) (g := (mkF m 169 #[.val (.int p0), .val (.long q1), .second, .val (.long fr), .second, .val (.int q), .val (.double pw), .second, .val (.double va), .second, .val (.int kk), .unset, .unset, .unset, .unset, .unset, .unset] [])) rfl (hb hby at_169) _ ?_
    show Steps p.tables e below (T1.setTop (mkF m 172 #[.val (.int p0), .val (.long q1), .second, .val (.long fr), .second, .val (.int q), .val (.double pw), .second, .val (.double va), .second, .val (.int kk), .unset, .unset, .unset, .unset, .unset, .unset] [(.long (4 : Int64))])) _
    refine XS.lstore X1.here hx rfl (hb hby at_172) rfl (l' := #[.val (.int p0), .val (.long q1), .second, .val (.long fr), .second, .val (.int q), .val (.double pw), .second, .val (.double va), .second, .val (.int kk), .val (.long (4 : Int64)), .second, .unset, .unset, .unset, .unset]) rfl ?_
    show Steps p.tables e below (T1.setTop (mkF m 174 #[.val (.int p0), .val (.long q1), .second, .val (.long fr), .second, .val (.int q), .val (.double pw), .second, .val (.double va), .second, .val (.int kk), .val (.long (4 : Int64)), .second, .unset, .unset, .unset, .unset] [])) _
    refine XS.iconst X1.here hx rfl (hb hby at_174) ?_
    show Steps p.tables e below (T1.setTop (mkF m 175 #[.val (.int p0), .val (.long q1), .second, .val (.long fr), .second, .val (.int q), .val (.double pw), .second, .val (.double va), .second, .val (.int kk), .val (.long (4 : Int64)), .second, .unset, .unset, .unset, .unset] [(.int (2 : Int32))])) _
    refine XS.iload X1.here hx rfl (hb hby at_175) rfl ?_
    show Steps p.tables e below (T1.setTop (mkF m 177 #[.val (.int p0), .val (.long q1), .second, .val (.long fr), .second, .val (.int q), .val (.double pw), .second, .val (.double va), .second, .val (.int kk), .val (.long (4 : Int64)), .second, .unset, .unset, .unset, .unset] [(.int q), (.int (2 : Int32))])) _
    refine XS.isub X1.here hx rfl (hb hby at_177) rfl ?_
    show Steps p.tables e below (T1.setTop (mkF m 178 #[.val (.int p0), .val (.long q1), .second, .val (.long fr), .second, .val (.int q), .val (.double pw), .second, .val (.double va), .second, .val (.int kk), .val (.long (4 : Int64)), .second, .unset, .unset, .unset, .unset] [(.int ((2 : Int32) - q))])) _
    rw [← htt]
    show Steps p.tables e below (T1.setTop (mkF m 178 #[.val (.int p0), .val (.long q1), .second, .val (.long fr), .second, .val (.int q), .val (.double pw), .second, .val (.double va), .second, .val (.int kk), .val (.long (4 : Int64)), .second, .unset, .unset, .unset, .unset] [(.int tt)])) _
    refine XS.istore X1.here hx rfl (hb hby at_178) rfl (l' := #[.val (.int p0), .val (.long q1), .second, .val (.long fr), .second, .val (.int q), .val (.double pw), .second, .val (.double va), .second, .val (.int kk), .val (.long (4 : Int64)), .second, .val (.int tt), .unset, .unset, .unset]) rfl ?_
    show Steps p.tables e below (T1.setTop (mkF m 180 #[.val (.int p0), .val (.long q1), .second, .val (.long fr), .second, .val (.int q), .val (.double pw), .second, .val (.double va), .second, .val (.int kk), .val (.long (4 : Int64)), .second, .val (.int tt), .unset, .unset, .unset] [])) _
    refine XS.iload X1.here hx rfl (hb hby at_180) rfl ?_
    show Steps p.tables e below (T1.setTop (mkF m 182 #[.val (.int p0), .val (.long q1), .second, .val (.long fr), .second, .val (.int q), .val (.double pw), .second, .val (.double va), .second, .val (.int kk), .val (.long (4 : Int64)), .second, .val (.int tt), .unset, .unset, .unset] [(.int tt)])) _
    refine XS.ifYes X1.here hx rfl (pc0 := 182) (pc' := 237) rfl (hb hby at_182) rfl b182 (by decide) (by decide) ?_
    show Steps p.tables e below (T1.setTop (mkF m 237 #[.val (.int p0), .val (.long q1), .second, .val (.long fr), .second, .val (.int q), .val (.double pw), .second, .val (.double va), .second, .val (.int kk), .val (.long (4 : Int64)), .second, .val (.int tt), .unset, .unset, .unset] [])) _
    refine XS.iload X1.here hx rfl (hb hby at_237) rfl ?_
    show Steps p.tables e below (T1.setTop (mkF m 239 #[.val (.int p0), .val (.long q1), .second, .val (.long fr), .second, .val (.int q), .val (.double pw), .second, .val (.double va), .second, .val (.int kk), .val (.long (4 : Int64)), .second, .val (.int tt), .unset, .unset, .unset] [(.int kk)])) _
    refine XS.ifYes X1.here hx rfl (pc0 := 239) (pc' := 269) rfl (hb hby at_239) rfl b239 (by decide) (by decide) ?_
    show Steps p.tables e below (T1.setTop (mkF m 269 #[.val (.int p0), .val (.long q1), .second, .val (.long fr), .second, .val (.int q), .val (.double pw), .second, .val (.double va), .second, .val (.int kk), .val (.long (4 : Int64)), .second, .val (.int tt), .unset, .unset, .unset] [])) _
    refine XS.iload X1.here hx rfl (hb hby at_269) rfl ?_
    show Steps p.tables e below (T1.setTop (mkF m 271 #[.val (.int p0), .val (.long q1), .second, .val (.long fr), .second, .val (.int q), .val (.double pw), .second, .val (.double va), .second, .val (.int kk), .val (.long (4 : Int64)), .second, .val (.int tt), .unset, .unset, .unset] [(.int kk)])) _
    refine XS.bipush X1.here hx rfl (hb hby at_271) ?_
    show Steps p.tables e below (T1.setTop (mkF m 273 #[.val (.int p0), .val (.long q1), .second, .val (.long fr), .second, .val (.int q), .val (.double pw), .second, .val (.double va), .second, .val (.int kk), .val (.long (4 : Int64)), .second, .val (.int tt), .unset, .unset, .unset] [(.int (-18 : Int32)), (.int kk)])) _
    refine XS.icmpYes X1.here hx rfl (pc0 := 273) (pc' := 278) rfl (hb hby at_273) rfl b273 (by decide) (by decide) ?_
    show Steps p.tables e below (T1.setTop (mkF m 278 #[.val (.int p0), .val (.long q1), .second, .val (.long fr), .second, .val (.int q), .val (.double pw), .second, .val (.double va), .second, .val (.int kk), .val (.long (4 : Int64)), .second, .val (.int tt), .unset, .unset, .unset] [])) _
    refine XS.iload X1.here hx rfl (hb hby at_278) rfl ?_
    show Steps p.tables e below (T1.setTop (mkF m 280 #[.val (.int p0), .val (.long q1), .second, .val (.long fr), .second, .val (.int q), .val (.double pw), .second, .val (.double va), .second, .val (.int kk), .val (.long (4 : Int64)), .second, .val (.int tt), .unset, .unset, .unset] [(.int kk)])) _
    refine XS.ineg X1.here hx rfl (hb hby at_280) rfl ?_
    show Steps p.tables e below (T1.setTop (mkF m 281 #[.val (.int p0), .val (.long q1), .second, .val (.long fr), .second, .val (.int q), .val (.double pw), .second, .val (.double va), .second, .val (.int kk), .val (.long (4 : Int64)), .second, .val (.int tt), .unset, .unset, .unset] [(.int (-kk))])) _
    refine XS.istore X1.here hx rfl (hb hby at_281) rfl (l' := #[.val (.int p0), .val (.long q1), .second, .val (.long fr), .second, .val (.int q), .val (.double pw), .second, .val (.double va), .second, .val (.int kk), .val (.long (4 : Int64)), .second, .val (.int tt), .val (.int (-kk)), .unset, .unset]) rfl ?_
    show Steps p.tables e below (T1.setTop (mkF m 283 #[.val (.int p0), .val (.long q1), .second, .val (.long fr), .second, .val (.int q), .val (.double pw), .second, .val (.double va), .second, .val (.int kk), .val (.long (4 : Int64)), .second, .val (.int tt), .val (.int (-kk)), .unset, .unset] [])) _
    refine XS.lconst X1.here hx rfl (hb hby at_283) ?_
    show Steps p.tables e below (T1.setTop (mkF m 284 #[.val (.int p0), .val (.long q1), .second, .val (.long fr), .second, .val (.int q), .val (.double pw), .second, .val (.double va), .second, .val (.int kk), .val (.long (4 : Int64)), .second, .val (.int tt), .val (.int (-kk)), .unset, .unset] [(.long (1 : Int64))])) _
    refine XS.iload X1.here hx rfl (hb hby at_284) rfl ?_
    show Steps p.tables e below (T1.setTop (mkF m 286 #[.val (.int p0), .val (.long q1), .second, .val (.long fr), .second, .val (.int q), .val (.double pw), .second, .val (.double va), .second, .val (.int kk), .val (.long (4 : Int64)), .second, .val (.int tt), .val (.int (-kk)), .unset, .unset] [(.int tt), (.long (1 : Int64))])) _
    refine XS.lshl X1.here hx rfl (hb hby at_286) rfl ?_
    show Steps p.tables e below (T1.setTop (mkF m 287 #[.val (.int p0), .val (.long q1), .second, .val (.long fr), .second, .val (.int q), .val (.double pw), .second, .val (.double va), .second, .val (.int kk), .val (.long (4 : Int64)), .second, .val (.int tt), .val (.int (-kk)), .unset, .unset] [(.long ((1 : Int64) <<< (tt &&& 0x3f).toInt64))])) _
    refine XS.lstore X1.here hx rfl (hb hby at_287) rfl (l' := #[.val (.int p0), .val (.long q1), .second, .val (.long fr), .second, .val (.int q), .val (.double pw), .second, .val (.double va), .second, .val (.int kk), .val (.long (4 : Int64)), .second, .val (.int tt), .val (.int (-kk)), .val (.long ((1 : Int64) <<< (tt &&& 0x3f).toInt64)), .second]) rfl ?_
    show Steps p.tables e below (T1.setTop (mkF m 289 #[.val (.int p0), .val (.long q1), .second, .val (.long fr), .second, .val (.int q), .val (.double pw), .second, .val (.double va), .second, .val (.int kk), .val (.long (4 : Int64)), .second, .val (.int tt), .val (.int (-kk)), .val (.long ((1 : Int64) <<< (tt &&& 0x3f).toInt64)), .second] [])) _
    refine XS.lload X1.here hx rfl (hb hby at_289) rfl ?_
    show Steps p.tables e below (T1.setTop (mkF m 291 #[.val (.int p0), .val (.long q1), .second, .val (.long fr), .second, .val (.int q), .val (.double pw), .second, .val (.double va), .second, .val (.int kk), .val (.long (4 : Int64)), .second, .val (.int tt), .val (.int (-kk)), .val (.long ((1 : Int64) <<< (tt &&& 0x3f).toInt64)), .second] [(.long ((1 : Int64) <<< (tt &&& 0x3f).toInt64))])) _
    refine XS.lload X1.here hx rfl (hb hby at_291) rfl ?_
    show Steps p.tables e below (T1.setTop (mkF m 293 #[.val (.int p0), .val (.long q1), .second, .val (.long fr), .second, .val (.int q), .val (.double pw), .second, .val (.double va), .second, .val (.int kk), .val (.long (4 : Int64)), .second, .val (.int tt), .val (.int (-kk)), .val (.long ((1 : Int64) <<< (tt &&& 0x3f).toInt64)), .second] [(.long (4 : Int64)), (.long ((1 : Int64) <<< (tt &&& 0x3f).toInt64))])) _
    refine XS.iload X1.here hx rfl (hb hby at_293) rfl ?_
    show Steps p.tables e below (T1.setTop (mkF m 295 #[.val (.int p0), .val (.long q1), .second, .val (.long fr), .second, .val (.int q), .val (.double pw), .second, .val (.double va), .second, .val (.int kk), .val (.long (4 : Int64)), .second, .val (.int tt), .val (.int (-kk)), .val (.long ((1 : Int64) <<< (tt &&& 0x3f).toInt64)), .second] [(.int (-kk)), (.long (4 : Int64)), (.long ((1 : Int64) <<< (tt &&& 0x3f).toInt64))])) _
    refine st2 _ ?_
    show Steps p.tables e below (T2.setTop (mkF m 298 #[.val (.int p0), .val (.long q1), .second, .val (.long fr), .second, .val (.int q), .val (.double pw), .second, .val (.double va), .second, .val (.int kk), .val (.long (4 : Int64)), .second, .val (.int tt), .val (.int (-kk)), .val (.long ((1 : Int64) <<< (tt &&& 0x3f).toInt64)), .second] [(.long (own_p10 (-kk))), (.long (4 : Int64)), (.long ((1 : Int64) <<< (tt &&& 0x3f).toInt64))])) _
    refine XS.lmul X2.here hx rfl (hb hby at_298) rfl ?_
    show Steps p.tables e below (T2.setTop (mkF m 299 #[.val (.int p0), .val (.long q1), .second, .val (.long fr), .second, .val (.int q), .val (.double pw), .second, .val (.double va), .second, .val (.int kk), .val (.long (4 : Int64)), .second, .val (.int tt), .val (.int (-kk)), .val (.long ((1 : Int64) <<< (tt &&& 0x3f).toInt64)), .second] [(.long ((4 : Int64) * (own_p10 (-kk)))), (.long ((1 : Int64) <<< (tt &&& 0x3f).toInt64))])) _
    refine XS.lcmp X2.here hx rfl (hb hby at_299) rfl ?_
    show Steps p.tables e below (T2.setTop (mkF m 300 #[.val (.int p0), .val (.long q1), .second, .val (.long fr), .second, .val (.int q), .val (.double pw), .second, .val (.double va), .second, .val (.int kk), .val (.long (4 : Int64)), .second, .val (.int tt), .val (.int (-kk)), .val (.long ((1 : Int64) <<< (tt &&& 0x3f).toInt64)), .second] [(.int (if ((1 : Int64) <<< (tt &&& 0x3f).toInt64) > ((4 : Int64) * (own_p10 (-kk))) then 1 else if ((1 : Int64) <<< (tt &&& 0x3f).toInt64) = ((4 : Int64) * (own_p10 (-kk))) then 0 else -1))])) _
    refine XS.ifNo X2.here hx rfl (hb hby at_300) rfl b300 ?_
    show Steps p.tables e below (T2.setTop (mkF m 303 #[.val (.int p0), .val (.long q1), .second, .val (.long fr), .second, .val (.int q), .val (.double pw), .second, .val (.double va), .second, .val (.int kk), .val (.long (4 : Int64)), .second, .val (.int tt), .val (.int (-kk)), .val (.long ((1 : Int64) <<< (tt &&& 0x3f).toInt64)), .second] [])) _
    refine XS.lload X2.here hx rfl (hb hby at_303) rfl ?_
    show Steps p.tables e below (T2.setTop (mkF m 305 #[.val (.int p0), .val (.long q1), .second, .val (.long fr), .second, .val (.int q), .val (.double pw), .second, .val (.double va), .second, .val (.int kk), .val (.long (4 : Int64)), .second, .val (.int tt), .val (.int (-kk)), .val (.long ((1 : Int64) <<< (tt &&& 0x3f).toInt64)), .second] [(.long (4 : Int64))])) _
    refine XS.iload X2.here hx rfl (hb hby at_305) rfl ?_
    show Steps p.tables e below (T2.setTop (mkF m 307 #[.val (.int p0), .val (.long q1), .second, .val (.long fr), .second, .val (.int q), .val (.double pw), .second, .val (.double va), .second, .val (.int kk), .val (.long (4 : Int64)), .second, .val (.int tt), .val (.int (-kk)), .val (.long ((1 : Int64) <<< (tt &&& 0x3f).toInt64)), .second] [(.int (-kk)), (.long (4 : Int64))])) _
    refine XS.iconst X2.here hx rfl (hb hby at_307) ?_
    show Steps p.tables e below (T2.setTop (mkF m 308 #[.val (.int p0), .val (.long q1), .second, .val (.long fr), .second, .val (.int q), .val (.double pw), .second, .val (.double va), .second, .val (.int kk), .val (.long (4 : Int64)), .second, .val (.int tt), .val (.int (-kk)), .val (.long ((1 : Int64) <<< (tt &&& 0x3f).toInt64)), .second] [(.int (1 : Int32)), (.int (-kk)), (.long (4 : Int64))])) _
    refine XS.isub X2.here hx rfl (hb hby at_308) rfl ?_
    show Steps p.tables e below (T2.setTop (mkF m 309 #[.val (.int p0), .val (.long q1), .second, .val (.long fr), .second, .val (.int q), .val (.double pw), .second, .val (.double va), .second, .val (.int kk), .val (.long (4 : Int64)), .second, .val (.int tt), .val (.int (-kk)), .val (.long ((1 : Int64) <<< (tt &&& 0x3f).toInt64)), .second] [(.int ((-kk) - (1 : Int32))), (.long (4 : Int64))])) _
    refine st3 _ ?_
    show Steps p.tables e below (T3.setTop (mkF m 312 #[.val (.int p0), .val (.long q1), .second, .val (.long fr), .second, .val (.int q), .val (.double pw), .second, .val (.double va), .second, .val (.int kk), .val (.long (4 : Int64)), .second, .val (.int tt), .val (.int (-kk)), .val (.long ((1 : Int64) <<< (tt &&& 0x3f).toInt64)), .second] [(.long (own_p10 ((-kk) - (1 : Int32)))), (.long (4 : Int64))])) _
    refine XS.lmul X3.here hx rfl (hb hby at_312) rfl ?_
    show Steps p.tables e below (T3.setTop (mkF m 313 #[.val (.int p0), .val (.long q1), .second, .val (.long fr), .second, .val (.int q), .val (.double pw), .second, .val (.double va), .second, .val (.int kk), .val (.long (4 : Int64)), .second, .val (.int tt), .val (.int (-kk)), .val (.long ((1 : Int64) <<< (tt &&& 0x3f).toInt64)), .second] [(.long ((4 : Int64) * (own_p10 ((-kk) - (1 : Int32)))))])) _
    refine XS.lload X3.here hx rfl (hb hby at_313) rfl ?_
    show Steps p.tables e below (T3.setTop (mkF m 315 #[.val (.int p0), .val (.long q1), .second, .val (.long fr), .second, .val (.int q), .val (.double pw), .second, .val (.double va), .second, .val (.int kk), .val (.long (4 : Int64)), .second, .val (.int tt), .val (.int (-kk)), .val (.long ((1 : Int64) <<< (tt &&& 0x3f).toInt64)), .second] [(.long ((1 : Int64) <<< (tt &&& 0x3f).toInt64)), (.long ((4 : Int64) * (own_p10 ((-kk) - (1 : Int32)))))])) _
    refine XS.lcmp X3.here hx rfl (hb hby at_315) rfl ?_
    show Steps p.tables e below (T3.setTop (mkF m 316 #[.val (.int p0), .val (.long q1), .second, .val (.long fr), .second, .val (.int q), .val (.double pw), .second, .val (.double va), .second, .val (.int kk), .val (.long (4 : Int64)), .second, .val (.int tt), .val (.int (-kk)), .val (.long ((1 : Int64) <<< (tt &&& 0x3f).toInt64)), .second] [(.int (if ((4 : Int64) * (own_p10 ((-kk) - (1 : Int32)))) > ((1 : Int64) <<< (tt &&& 0x3f).toInt64) then 1 else if ((4 : Int64) * (own_p10 ((-kk) - (1 : Int32)))) = ((1 : Int64) <<< (tt &&& 0x3f).toInt64) then 0 else -1))])) _
    refine XS.ifNo X3.here hx rfl (hb hby at_316) rfl b316 ?_
    show Steps p.tables e below (T3.setTop (mkF m 319 #[.val (.int p0), .val (.long q1), .second, .val (.long fr), .second, .val (.int q), .val (.double pw), .second, .val (.double va), .second, .val (.int kk), .val (.long (4 : Int64)), .second, .val (.int tt), .val (.int (-kk)), .val (.long ((1 : Int64) <<< (tt &&& 0x3f).toInt64)), .second] [])) _
    refine XS.iconst X3.here hx rfl (hb hby at_319) ?_
    show Steps p.tables e below (T3.setTop (mkF m 320 #[.val (.int p0), .val (.long q1), .second, .val (.long fr), .second, .val (.int q), .val (.double pw), .second, .val (.double va), .second, .val (.int kk), .val (.long (4 : Int64)), .second, .val (.int tt), .val (.int (-kk)), .val (.long ((1 : Int64) <<< (tt &&& 0x3f).toInt64)), .second] [(.int (1 : Int32))])) _
    refine XS.goto X3.here hx rfl (pc0 := 320) (pc' := 324) rfl (hb hby at_320) (by decide) (by decide) ?_
    show Steps p.tables e below (T3.setTop (mkF m 324 #[.val (.int p0), .val (.long q1), .second, .val (.long fr), .second, .val (.int q), .val (.double pw), .second, .val (.double va), .second, .val (.int kk), .val (.long (4 : Int64)), .second, .val (.int tt), .val (.int (-kk)), .val (.long ((1 : Int64) <<< (tt &&& 0x3f).toInt64)), .second] [(.int (1 : Int32))])) _
    exact retN X3 hx (t := .boolean) Bd.returns (by simp) (hb hby at_324) hr
  · show QL n0 _ T3.heap _
    exact ⟨rfl, N3⟩
theorem ef_rmC0p (m : MethodId) (x0 : Int32) (x1 : Int64) : entryFrame m #[(.int x0), (.long x1)] maxLocals = mkF m 0 #[.val (.int x0), .val (.long x1), .second, .unset, .unset, .unset, .unset, .unset, .unset, .unset, .unset, .unset, .unset, .unset, .unset, .unset, .unset] [] := by first | (simp [entryFrame, mkF, argsToLocals, Value.category, maxLocals]; done) | rfl
set_option maxRecDepth 65536 in
set_option maxHeartbeats 40000000 in
theorem rmC0p (l : Launch) (Z : State) (a0 : Array Value) (hw : ∀ d ∈ tables_1, d.before a0 Z = true) (ws : List Jvm.Cond)  (p0 : Int32) (q1 : Int64) (fr : Int64) (q : Int32) (pw : UInt64) (va : UInt64) (be : Int32) (kk : Int32) (tt : Int32) (h0 : Heap) (n0 : Nat) (Z0 : n0 ≤ h0.size) 
    (hfr : fr = cond (ifCond.holds .eq (((p0.toUInt32 >>> ((9 : Int32) &&& 31).toUInt32).toInt32) &&& (1 : Int32))) (q1 &&& (4503599627370495 : Int64)) (0 : Int64))
    (b23 : ifCond.holds .ne (((p0.toUInt32 >>> ((7 : Int32) &&& 31).toUInt32).toInt32) &&& (3 : Int32)) = true)
    (hq : q = (((p0 &&& (127 : Int32)) - ((p0 &&& (127 : Int32)) / (115 : Int32)) * (115 : Int32)) - (56 : Int32)))
    (b118 : ifCond.holds .lt q = false)
    (hpw : pw = (FP.l2d ((1 : Int64) <<< (q &&& 0x3f).toInt64)))
    (n147 : NoNaN64 (FP.dmul (FP.l2d ((4503599627370496 : Int64) ||| fr)) pw))
    (hva : va = (FP.dmul (FP.l2d ((4503599627370496 : Int64) ||| fr)) pw))
    (hbe : be = ((va.toInt64.toUInt64 >>> ((52 : Int32) &&& 0x3f).toInt64.toUInt64).toInt64).toInt32)
    (d14 : ifCond.holds .ne be = true)
    (v0 : ifCond.holds .ne (if (va.toInt64 &&& (4503599627370495 : Int64)) > (0 : Int64) then 1 else if (va.toInt64 &&& (4503599627370495 : Int64)) = (0 : Int64) then 0 else -1) = false)
    (v1 : if_icmp.holds .le ((va.toInt64.toUInt64 >>> ((52 : Int32) &&& 0x3f).toInt64.toUInt64).toInt64).toInt32 (1 : Int32) = false)
    (hkk : kk = (own_f34 (((-1074 : Int32) + be) - (1 : Int32))))
    (b160 : ifCond.holds .ne (if fr > (0 : Int64) then 1 else if fr = (0 : Int64) then 0 else -1) = false)
    (htt : tt = ((2 : Int32) - q))
    (b182 : ifCond.holds .gt tt = true)
    (b239 : ifCond.holds .lt kk = true)
    (b273 : if_icmp.holds .ge kk (-18 : Int32) = true)
    (b300 : ifCond.holds .gt (if ((1 : Int64) <<< (tt &&& 0x3f).toInt64) > ((3 : Int64) * (own_p10 (-kk))) then 1 else if ((1 : Int64) <<< (tt &&& 0x3f).toInt64) = ((3 : Int64) * (own_p10 (-kk))) then 0 else -1) = false)
    (b316 : ifCond.holds .ge (if ((3 : Int64) * (own_p10 ((-kk) - (1 : Int32)))) > ((1 : Int64) <<< (tt &&& 0x3f).toInt64) then 1 else if ((3 : Int64) * (own_p10 ((-kk) - (1 : Int32)))) = ((1 : Int64) <<< (tt &&& 0x3f).toInt64) then 0 else -1) = false) :
    MetFree l x (head1 (Jvm.Cond.code x code maxLocals ret :: ws) room_1) (fun a U => a = #[(.int p0), (.long q1)] ∧ Z.Warmed39 U.vm ∧ U.heap = h0) (fun _ _ _ _ _ => True) (fun _ U o U' => ∃ v L, o = .returned v ∧ QL n0 v U'.heap L ∧ FrameEnd U o U' L 0 0) := by
  refine MetFree.of_bodySF (plainFor_of_name pn_1) hisR ?_
  intro p e s m args below meth c s₁ Bd hml0 hP hK
  obtain ⟨rfl, hZ, hh⟩ := hP
  have hx := Bd.exec
  have hby := Bd.bytes
  have hml : c.maxLocals = 17 := hml0
  have hown : s.vm.findClass "com/example/sundry/sundry/ShortestDecimalUnitPinLaw" = some m.cls := findClass_of_methodNamed Bd.named
  have hnm := (name_of_methodNamed Bd.named Bd.method).1
  have X0 : Stand p l e room_1 s m #[(.int p0), (.long q1)] below meth c s₁ [] 0 0 := Stand.of_body Bd
  have e0 : s₁.heap = h0 := by rw [← hh, Bd.state]; rfl
  have N0 := Fr.nil n0
  have pre0 : ∀ t, Steps p.tables e below (s₁.setTop (mkF m 0 #[.val (.int p0), .val (.long q1), .second, .unset, .unset, .unset, .unset, .unset, .unset, .unset, .unset, .unset, .unset, .unset, .unset, .unset, .unset] [])) t → Steps p.tables e below (s₁.setTop (entryFrame m #[(.int p0), (.long q1)] maxLocals)) t := fun t k => castTop (ef_rmC0p m p0 q1) k
  have pre12 : ∀ t, Steps p.tables e below (s₁.setTop (mkF m 17 #[.val (.int p0), .val (.long q1), .second, .val (.long fr), .second, .unset, .unset, .unset, .unset, .unset, .unset, .unset, .unset, .unset, .unset, .unset, .unset] [])) t → Steps p.tables e below (s₁.setTop (mkF m 12 #[.val (.int p0), .val (.long q1), .second, .val (.long (q1 &&& (4503599627370495 : Int64))), .second, .unset, .unset, .unset, .unset, .unset, .unset, .unset, .unset, .unset, .unset, .unset, .unset] [(.int (((p0.toUInt32 >>> ((9 : Int32) &&& 31).toUInt32).toInt32) &&& (1 : Int32)))])) t := by
    intro t k
    cases hb12 : ifCond.holds .eq (((p0.toUInt32 >>> ((9 : Int32) &&& 31).toUInt32).toInt32) &&& (1 : Int32))
    · rw [hb12] at hfr
      obtain rfl : fr = (0 : Int64) := hfr
      show Steps p.tables e below (s₁.setTop (mkF m 12 #[.val (.int p0), .val (.long q1), .second, .val (.long (q1 &&& (4503599627370495 : Int64))), .second, .unset, .unset, .unset, .unset, .unset, .unset, .unset, .unset, .unset, .unset, .unset, .unset] [(.int (((p0.toUInt32 >>> ((9 : Int32) &&& 31).toUInt32).toInt32) &&& (1 : Int32)))])) _
      refine XS.ifNo X0.here hx rfl (hb hby at_12) rfl hb12 ?_
      show Steps p.tables e below (s₁.setTop (mkF m 15 #[.val (.int p0), .val (.long q1), .second, .val (.long (q1 &&& (4503599627370495 : Int64))), .second, .unset, .unset, .unset, .unset, .unset, .unset, .unset, .unset, .unset, .unset, .unset, .unset] [])) _
      refine XS.lconst X0.here hx rfl (hb hby at_15) ?_
      show Steps p.tables e below (s₁.setTop (mkF m 16 #[.val (.int p0), .val (.long q1), .second, .val (.long (q1 &&& (4503599627370495 : Int64))), .second, .unset, .unset, .unset, .unset, .unset, .unset, .unset, .unset, .unset, .unset, .unset, .unset] [(.long (0 : Int64))])) _
      refine XS.lstoreN X0.here hx rfl (hb hby at_16) rfl (l' := #[.val (.int p0), .val (.long q1), .second, .val (.long (0 : Int64)), .second, .unset, .unset, .unset, .unset, .unset, .unset, .unset, .unset, .unset, .unset, .unset, .unset]) rfl ?_
      show Steps p.tables e below (s₁.setTop (mkF m 17 #[.val (.int p0), .val (.long q1), .second, .val (.long (0 : Int64)), .second, .unset, .unset, .unset, .unset, .unset, .unset, .unset, .unset, .unset, .unset, .unset, .unset] [])) _
      exact k
    · rw [hb12] at hfr
      obtain rfl : fr = (q1 &&& (4503599627370495 : Int64)) := hfr
      show Steps p.tables e below (s₁.setTop (mkF m 12 #[.val (.int p0), .val (.long q1), .second, .val (.long (q1 &&& (4503599627370495 : Int64))), .second, .unset, .unset, .unset, .unset, .unset, .unset, .unset, .unset, .unset, .unset, .unset, .unset] [(.int (((p0.toUInt32 >>> ((9 : Int32) &&& 31).toUInt32).toInt32) &&& (1 : Int32)))])) _
      refine XS.ifYes X0.here hx rfl (pc0 := 12) (pc' := 17) rfl (hb hby at_12) rfl hb12 (by decide) (by decide) ?_
      show Steps p.tables e below (s₁.setTop (mkF m 17 #[.val (.int p0), .val (.long q1), .second, .val (.long (q1 &&& (4503599627370495 : Int64))), .second, .unset, .unset, .unset, .unset, .unset, .unset, .unset, .unset, .unset, .unset, .unset, .unset] [])) _
      exact k
  obtain ⟨_, _, ⟨T1, L1, k1, n1⟩, -, X1, ⟨Lc1, hQ1, l1, y1, z1⟩, st1⟩ := Jvm.LawKit.callS X0 hx (y := (⟨"com/example/sundry/sundry/ShortestDecimal", "unit", "(D)I"⟩ : MethodName)) hown (mvT hZ (hw _ (List.mem_of_getElem? (i := 3) rfl))) (mvT hZ (hw _ (List.mem_of_getElem? (i := 4) rfl))) (mvT hZ (hw _ (List.mem_of_getElem? (i := 5) rfl))) (mvT hZ (hw _ (List.mem_of_getElem? (i := 6) rfl))) (by decide) (backOf (W := 0) (rmD2 l Z a0 hw [] va be h0 n0 Z0 hbe d14 v0 v1 (by decide)) hZ (hw _ (List.mem_of_getElem? (i := 6) rfl)) (hw _ (List.mem_of_getElem? (i := 5) rfl)) (by decide) (by decide)) (g := (mkF m 152 #[.val (.int p0), .val (.long q1), .second, .val (.long fr), .second, .val (.int q), .val (.double pw), .second, .val (.double va), .second, .unset, .unset, .unset, .unset, .unset, .unset, .unset] [(.double va)])) rfl (by rw [hml]; rfl) (argsL := [(.double va)]) (rest := []) (lenOf pd_3 rfl) rfl (by show 2 * 0 + _ ≤ _; exact Nat.le_of_eq rfl) (hb hby at_152) (fun _ _ => ⟨rfl, e0, (by decide : 0 + 0 ≤ _), (by decide : 0 + 0 ≤ _)⟩)
  dsimp only [Pt.U, Pt.locs, Pt.cells, Pt.slots] at X1 l1 y1 z1 st1 hQ1
  subst l1 y1 z1
  obtain ⟨rfl, N1a, e1⟩ := hQ1
  have N1 := Fr.app N0 N1a
  obtain ⟨_, _, ⟨T2, L2, k2, n2⟩, -, X2, ⟨Lc2, hQ2, l2, y2, z2⟩, st2⟩ := Jvm.LawKit.callS X1 hx (y := (⟨"com/example/sundry/sundry/ShortestDecimalUnitPinLaw", "pow10", "(I)J"⟩ : MethodName)) hown (mvT hZ (hw _ (List.mem_of_getElem? (i := 24) rfl))) (mvT hZ (hw _ (List.mem_of_getElem? (i := 25) rfl))) (mvT hZ (hw _ (List.mem_of_getElem? (i := 26) rfl))) (mvT hZ (hw _ (List.mem_of_getElem? (i := 27) rfl))) (by decide) (backOf (W := 4) (rmP l Z a0 hw [] (-kk) h0 n0 Z0) hZ (hw _ (List.mem_of_getElem? (i := 27) rfl)) (hw _ (List.mem_of_getElem? (i := 26) rfl)) (by decide) (by decide)) (g := (mkF m 295 #[.val (.int p0), .val (.long q1), .second, .val (.long fr), .second, .val (.int q), .val (.double pw), .second, .val (.double va), .second, .val (.int kk), .val (.long (3 : Int64)), .second, .val (.int tt), .val (.int (-kk)), .val (.long ((1 : Int64) <<< (tt &&& 0x3f).toInt64)), .second] [(.int (-kk)), (.long (3 : Int64)), (.long ((1 : Int64) <<< (tt &&& 0x3f).toInt64))])) rfl (by rw [hml]; rfl) (argsL := [(.int (-kk))]) (rest := [(.long (3 : Int64)), (.long ((1 : Int64) <<< (tt &&& 0x3f).toInt64))]) (lenOf pd_4 rfl) rfl (by show 2 * 0 + _ ≤ _; exact Nat.le_of_eq rfl) (hb hby at_295) (fun _ _ => ⟨rfl, e1, (by decide : 0 + 0 ≤ _), (by decide : 0 + 0 ≤ _)⟩)
  dsimp only [Pt.U, Pt.locs, Pt.cells, Pt.slots] at X2 l2 y2 z2 st2 hQ2
  subst l2 y2 z2
  obtain ⟨rfl, N2a, e2⟩ := hQ2
  have N2 := Fr.app N1 N2a
  obtain ⟨_, _, ⟨T3, L3, k3, n3⟩, -, X3, ⟨Lc3, hQ3, l3, y3, z3⟩, st3⟩ := Jvm.LawKit.callS X2 hx (y := (⟨"com/example/sundry/sundry/ShortestDecimalUnitPinLaw", "pow10", "(I)J"⟩ : MethodName)) hown (mvT hZ (hw _ (List.mem_of_getElem? (i := 24) rfl))) (mvT hZ (hw _ (List.mem_of_getElem? (i := 25) rfl))) (mvT hZ (hw _ (List.mem_of_getElem? (i := 26) rfl))) (mvT hZ (hw _ (List.mem_of_getElem? (i := 27) rfl))) (by decide) (backOf (W := 2) (rmP l Z a0 hw [] ((-kk) - (1 : Int32)) h0 n0 Z0) hZ (hw _ (List.mem_of_getElem? (i := 27) rfl)) (hw _ (List.mem_of_getElem? (i := 26) rfl)) (by decide) (by decide)) (g := (mkF m 309 #[.val (.int p0), .val (.long q1), .second, .val (.long fr), .second, .val (.int q), .val (.double pw), .second, .val (.double va), .second, .val (.int kk), .val (.long (3 : Int64)), .second, .val (.int tt), .val (.int (-kk)), .val (.long ((1 : Int64) <<< (tt &&& 0x3f).toInt64)), .second] [(.int ((-kk) - (1 : Int32))), (.long (3 : Int64))])) rfl (by rw [hml]; rfl) (argsL := [(.int ((-kk) - (1 : Int32)))]) (rest := [(.long (3 : Int64))]) (lenOf pd_4 rfl) rfl (by show 2 * 0 + _ ≤ _; exact Nat.le_of_eq rfl) (hb hby at_309) (fun _ _ => ⟨rfl, e2, (by decide : 0 + 0 ≤ _), (by decide : 0 + 0 ≤ _)⟩)
  dsimp only [Pt.U, Pt.locs, Pt.cells, Pt.slots] at X3 l3 y3 z3 st3 hQ3
  subst l3 y3 z3
  obtain ⟨rfl, N3a, e3⟩ := hQ3
  have N3 := Fr.app N2 N3a
  obtain ⟨fs, hr, hrun, hended, hW, hsame⟩ := X3.leave (v := some (.int (1 : Int32))) (fun h => by rw [Bd.returns] at h; cases h)
  refine ⟨_, _, pre0 _ ?_, hrun, hended, _, _, rfl, ?_, ⟨_, rfl⟩, hW, hsame.mono (Nat.le_of_ble_eq_true rfl) (Nat.le_of_ble_eq_true rfl)⟩
  · show Steps p.tables e below (s₁.setTop (mkF m 0 #[.val (.int p0), .val (.long q1), .second, .unset, .unset, .unset, .unset, .unset, .unset, .unset, .unset, .unset, .unset, .unset, .unset, .unset, .unset] [])) _
    refine XS.lloadN X0.here hx rfl (hb hby at_0) rfl ?_
    show Steps p.tables e below (s₁.setTop (mkF m 1 #[.val (.int p0), .val (.long q1), .second, .unset, .unset, .unset, .unset, .unset, .unset, .unset, .unset, .unset, .unset, .unset, .unset, .unset, .unset] [(.long q1)])) _
    refine X0.ldc2Long hx hown (mvT hZ (hw _ (List.mem_of_getElem? (i := 0) rfl))) (g := (mkF m 1 #[.val (.int p0), .val (.long q1), .second, .unset, .unset, .unset, .unset, .unset, .unset, .unset, .unset, .unset, .unset, .unset, .unset, .unset, .unset] [(.long q1)])) rfl (hb hby at_1) _ ?_
    show Steps p.tables e below (s₁.setTop (mkF m 4 #[.val (.int p0), .val (.long q1), .second, .unset, .unset, .unset, .unset, .unset, .unset, .unset, .unset, .unset, .unset, .unset, .unset, .unset, .unset] [(.long (4503599627370495 : Int64)), (.long q1)])) _
    refine XS.land X0.here hx rfl (hb hby at_4) rfl ?_
    show Steps p.tables e below (s₁.setTop (mkF m 5 #[.val (.int p0), .val (.long q1), .second, .unset, .unset, .unset, .unset, .unset, .unset, .unset, .unset, .unset, .unset, .unset, .unset, .unset, .unset] [(.long (q1 &&& (4503599627370495 : Int64)))])) _
    refine XS.lstoreN X0.here hx rfl (hb hby at_5) rfl (l' := #[.val (.int p0), .val (.long q1), .second, .val (.long (q1 &&& (4503599627370495 : Int64))), .second, .unset, .unset, .unset, .unset, .unset, .unset, .unset, .unset, .unset, .unset, .unset, .unset]) rfl ?_
    show Steps p.tables e below (s₁.setTop (mkF m 6 #[.val (.int p0), .val (.long q1), .second, .val (.long (q1 &&& (4503599627370495 : Int64))), .second, .unset, .unset, .unset, .unset, .unset, .unset, .unset, .unset, .unset, .unset, .unset, .unset] [])) _
    refine XS.iloadN X0.here hx rfl (hb hby at_6) rfl ?_
    show Steps p.tables e below (s₁.setTop (mkF m 7 #[.val (.int p0), .val (.long q1), .second, .val (.long (q1 &&& (4503599627370495 : Int64))), .second, .unset, .unset, .unset, .unset, .unset, .unset, .unset, .unset, .unset, .unset, .unset, .unset] [(.int p0)])) _
    refine XS.bipush X0.here hx rfl (hb hby at_7) ?_
    show Steps p.tables e below (s₁.setTop (mkF m 9 #[.val (.int p0), .val (.long q1), .second, .val (.long (q1 &&& (4503599627370495 : Int64))), .second, .unset, .unset, .unset, .unset, .unset, .unset, .unset, .unset, .unset, .unset, .unset, .unset] [(.int (9 : Int32)), (.int p0)])) _
    refine XS.iushr X0.here hx rfl (hb hby at_9) rfl ?_
    show Steps p.tables e below (s₁.setTop (mkF m 10 #[.val (.int p0), .val (.long q1), .second, .val (.long (q1 &&& (4503599627370495 : Int64))), .second, .unset, .unset, .unset, .unset, .unset, .unset, .unset, .unset, .unset, .unset, .unset, .unset] [(.int ((p0.toUInt32 >>> ((9 : Int32) &&& 31).toUInt32).toInt32))])) _
    refine XS.iconst X0.here hx rfl (hb hby at_10) ?_
    show Steps p.tables e below (s₁.setTop (mkF m 11 #[.val (.int p0), .val (.long q1), .second, .val (.long (q1 &&& (4503599627370495 : Int64))), .second, .unset, .unset, .unset, .unset, .unset, .unset, .unset, .unset, .unset, .unset, .unset, .unset] [(.int (1 : Int32)), (.int ((p0.toUInt32 >>> ((9 : Int32) &&& 31).toUInt32).toInt32))])) _
    refine XS.iand X0.here hx rfl (hb hby at_11) rfl ?_
    show Steps p.tables e below (s₁.setTop (mkF m 12 #[.val (.int p0), .val (.long q1), .second, .val (.long (q1 &&& (4503599627370495 : Int64))), .second, .unset, .unset, .unset, .unset, .unset, .unset, .unset, .unset, .unset, .unset, .unset, .unset] [(.int (((p0.toUInt32 >>> ((9 : Int32) &&& 31).toUInt32).toInt32) &&& (1 : Int32)))])) _
    refine pre12 _ ?_
    show Steps p.tables e below (s₁.setTop (mkF m 17 #[.val (.int p0), .val (.long q1), .second, .val (.long fr), .second, .unset, .unset, .unset, .unset, .unset, .unset, .unset, .unset, .unset, .unset, .unset, .unset] [])) _
    refine XS.iloadN X0.here hx rfl (hb hby at_17) rfl ?_
    show Steps p.tables e below (s₁.setTop (mkF m 18 #[.val (.int p0), .val (.long q1), .second, .val (.long fr), .second, .unset, .unset, .unset, .unset, .unset, .unset, .unset, .unset, .unset, .unset, .unset, .unset] [(.int p0)])) _
    refine XS.bipush X0.here hx rfl (hb hby at_18) ?_
    show Steps p.tables e below (s₁.setTop (mkF m 20 #[.val (.int p0), .val (.long q1), .second, .val (.long fr), .second, .unset, .unset, .unset, .unset, .unset, .unset, .unset, .unset, .unset, .unset, .unset, .unset] [(.int (7 : Int32)), (.int p0)])) _
    refine XS.iushr X0.here hx rfl (hb hby at_20) rfl ?_
    show Steps p.tables e below (s₁.setTop (mkF m 21 #[.val (.int p0), .val (.long q1), .second, .val (.long fr), .second, .unset, .unset, .unset, .unset, .unset, .unset, .unset, .unset, .unset, .unset, .unset, .unset] [(.int ((p0.toUInt32 >>> ((7 : Int32) &&& 31).toUInt32).toInt32))])) _
    refine XS.iconst X0.here hx rfl (hb hby at_21) ?_
    show Steps p.tables e below (s₁.setTop (mkF m 22 #[.val (.int p0), .val (.long q1), .second, .val (.long fr), .second, .unset, .unset, .unset, .unset, .unset, .unset, .unset, .unset, .unset, .unset, .unset, .unset] [(.int (3 : Int32)), (.int ((p0.toUInt32 >>> ((7 : Int32) &&& 31).toUInt32).toInt32))])) _
    refine XS.iand X0.here hx rfl (hb hby at_22) rfl ?_
    show Steps p.tables e below (s₁.setTop (mkF m 23 #[.val (.int p0), .val (.long q1), .second, .val (.long fr), .second, .unset, .unset, .unset, .unset, .unset, .unset, .unset, .unset, .unset, .unset, .unset, .unset] [(.int (((p0.toUInt32 >>> ((7 : Int32) &&& 31).toUInt32).toInt32) &&& (3 : Int32)))])) _
    refine XS.ifYes X0.here hx rfl (pc0 := 23) (pc' := 104) rfl (hb hby at_23) rfl b23 (by decide) (by decide) ?_
    show Steps p.tables e below (s₁.setTop (mkF m 104 #[.val (.int p0), .val (.long q1), .second, .val (.long fr), .second, .unset, .unset, .unset, .unset, .unset, .unset, .unset, .unset, .unset, .unset, .unset, .unset] [])) _
    refine XS.iloadN X0.here hx rfl (hb hby at_104) rfl ?_
    show Steps p.tables e below (s₁.setTop (mkF m 105 #[.val (.int p0), .val (.long q1), .second, .val (.long fr), .second, .unset, .unset, .unset, .unset, .unset, .unset, .unset, .unset, .unset, .unset, .unset, .unset] [(.int p0)])) _
    refine XS.bipush X0.here hx rfl (hb hby at_105) ?_
    show Steps p.tables e below (s₁.setTop (mkF m 107 #[.val (.int p0), .val (.long q1), .second, .val (.long fr), .second, .unset, .unset, .unset, .unset, .unset, .unset, .unset, .unset, .unset, .unset, .unset, .unset] [(.int (127 : Int32)), (.int p0)])) _
    refine XS.iand X0.here hx rfl (hb hby at_107) rfl ?_
    show Steps p.tables e below (s₁.setTop (mkF m 108 #[.val (.int p0), .val (.long q1), .second, .val (.long fr), .second, .unset, .unset, .unset, .unset, .unset, .unset, .unset, .unset, .unset, .unset, .unset, .unset] [(.int (p0 &&& (127 : Int32)))])) _
    refine XS.bipush X0.here hx rfl (hb hby at_108) ?_
    show Steps p.tables e below (s₁.setTop (mkF m 110 #[.val (.int p0), .val (.long q1), .second, .val (.long fr), .second, .unset, .unset, .unset, .unset, .unset, .unset, .unset, .unset, .unset, .unset, .unset, .unset] [(.int (115 : Int32)), (.int (p0 &&& (127 : Int32)))])) _
    refine XS.irem X0.here hx rfl (hb hby at_110) rfl (by decide) ?_
    show Steps p.tables e below (s₁.setTop (mkF m 111 #[.val (.int p0), .val (.long q1), .second, .val (.long fr), .second, .unset, .unset, .unset, .unset, .unset, .unset, .unset, .unset, .unset, .unset, .unset, .unset] [(.int ((p0 &&& (127 : Int32)) - ((p0 &&& (127 : Int32)) / (115 : Int32)) * (115 : Int32)))])) _
    refine XS.bipush X0.here hx rfl (hb hby at_111) ?_
    show Steps p.tables e below (s₁.setTop (mkF m 113 #[.val (.int p0), .val (.long q1), .second, .val (.long fr), .second, .unset, .unset, .unset, .unset, .unset, .unset, .unset, .unset, .unset, .unset, .unset, .unset] [(.int (56 : Int32)), (.int ((p0 &&& (127 : Int32)) - ((p0 &&& (127 : Int32)) / (115 : Int32)) * (115 : Int32)))])) _
    refine XS.isub X0.here hx rfl (hb hby at_113) rfl ?_
    show Steps p.tables e below (s₁.setTop (mkF m 114 #[.val (.int p0), .val (.long q1), .second, .val (.long fr), .second, .unset, .unset, .unset, .unset, .unset, .unset, .unset, .unset, .unset, .unset, .unset, .unset] [(.int (((p0 &&& (127 : Int32)) - ((p0 &&& (127 : Int32)) / (115 : Int32)) * (115 : Int32)) - (56 : Int32)))])) _
    rw [← hq]
    show Steps p.tables e below (s₁.setTop (mkF m 114 #[.val (.int p0), .val (.long q1), .second, .val (.long fr), .second, .unset, .unset, .unset, .unset, .unset, .unset, .unset, .unset, .unset, .unset, .unset, .unset] [(.int q)])) _
    refine XS.istore X0.here hx rfl (hb hby at_114) rfl (l' := #[.val (.int p0), .val (.long q1), .second, .val (.long fr), .second, .val (.int q), .unset, .unset, .unset, .unset, .unset, .unset, .unset, .unset, .unset, .unset, .unset]) rfl ?_
    show Steps p.tables e below (s₁.setTop (mkF m 116 #[.val (.int p0), .val (.long q1), .second, .val (.long fr), .second, .val (.int q), .unset, .unset, .unset, .unset, .unset, .unset, .unset, .unset, .unset, .unset, .unset] [])) _
    refine XS.iload X0.here hx rfl (hb hby at_116) rfl ?_
    show Steps p.tables e below (s₁.setTop (mkF m 118 #[.val (.int p0), .val (.long q1), .second, .val (.long fr), .second, .val (.int q), .unset, .unset, .unset, .unset, .unset, .unset, .unset, .unset, .unset, .unset, .unset] [(.int q)])) _
    refine XS.ifNo X0.here hx rfl (hb hby at_118) rfl b118 ?_
    show Steps p.tables e below (s₁.setTop (mkF m 121 #[.val (.int p0), .val (.long q1), .second, .val (.long fr), .second, .val (.int q), .unset, .unset, .unset, .unset, .unset, .unset, .unset, .unset, .unset, .unset, .unset] [])) _
    refine XS.lconst X0.here hx rfl (hb hby at_121) ?_
    show Steps p.tables e below (s₁.setTop (mkF m 122 #[.val (.int p0), .val (.long q1), .second, .val (.long fr), .second, .val (.int q), .unset, .unset, .unset, .unset, .unset, .unset, .unset, .unset, .unset, .unset, .unset] [(.long (1 : Int64))])) _
    refine XS.iload X0.here hx rfl (hb hby at_122) rfl ?_
    show Steps p.tables e below (s₁.setTop (mkF m 124 #[.val (.int p0), .val (.long q1), .second, .val (.long fr), .second, .val (.int q), .unset, .unset, .unset, .unset, .unset, .unset, .unset, .unset, .unset, .unset, .unset] [(.int q), (.long (1 : Int64))])) _
    refine XS.lshl X0.here hx rfl (hb hby at_124) rfl ?_
    show Steps p.tables e below (s₁.setTop (mkF m 125 #[.val (.int p0), .val (.long q1), .second, .val (.long fr), .second, .val (.int q), .unset, .unset, .unset, .unset, .unset, .unset, .unset, .unset, .unset, .unset, .unset] [(.long ((1 : Int64) <<< (q &&& 0x3f).toInt64))])) _
    refine XS.l2dS X0.here hx rfl (hb hby at_125) rfl rfl ?_
    show Steps p.tables e below (s₁.setTop (mkF m 126 #[.val (.int p0), .val (.long q1), .second, .val (.long fr), .second, .val (.int q), .unset, .unset, .unset, .unset, .unset, .unset, .unset, .unset, .unset, .unset, .unset] [(.double (FP.l2d ((1 : Int64) <<< (q &&& 0x3f).toInt64)))])) _
    refine XS.goto X0.here hx rfl (pc0 := 126) (pc' := 137) rfl (hb hby at_126) (by decide) (by decide) ?_
    show Steps p.tables e below (s₁.setTop (mkF m 137 #[.val (.int p0), .val (.long q1), .second, .val (.long fr), .second, .val (.int q), .unset, .unset, .unset, .unset, .unset, .unset, .unset, .unset, .unset, .unset, .unset] [(.double (FP.l2d ((1 : Int64) <<< (q &&& 0x3f).toInt64)))])) _
    rw [← hpw]
    show Steps p.tables e below (s₁.setTop (mkF m 137 #[.val (.int p0), .val (.long q1), .second, .val (.long fr), .second, .val (.int q), .unset, .unset, .unset, .unset, .unset, .unset, .unset, .unset, .unset, .unset, .unset] [(.double pw)])) _
    refine XS.dstore X0.here hx rfl (hb hby at_137) rfl (l' := #[.val (.int p0), .val (.long q1), .second, .val (.long fr), .second, .val (.int q), .val (.double pw), .second, .unset, .unset, .unset, .unset, .unset, .unset, .unset, .unset, .unset]) rfl ?_
    show Steps p.tables e below (s₁.setTop (mkF m 139 #[.val (.int p0), .val (.long q1), .second, .val (.long fr), .second, .val (.int q), .val (.double pw), .second, .unset, .unset, .unset, .unset, .unset, .unset, .unset, .unset, .unset] [])) _
    refine X0.ldc2Long hx hown (mvT hZ (hw _ (List.mem_of_getElem? (i := 18) rfl))) (g := (mkF m 139 #[.val (.int p0), .val (.long q1), .second, .val (.long fr), .second, .val (.int q), .val (.double pw), .second, .unset, .unset, .unset, .unset, .unset, .unset, .unset, .unset, .unset] [])) rfl (hb hby at_139) _ ?_
    show Steps p.tables e below (s₁.setTop (mkF m 142 #[.val (.int p0), .val (.long q1), .second, .val (.long fr), .second, .val (.int q), .val (.double pw), .second, .unset, .unset, .unset, .unset, .unset, .unset, .unset, .unset, .unset] [(.long (4503599627370496 : Int64))])) _
    refine XS.lloadN X0.here hx rfl (hb hby at_142) rfl ?_
    show Steps p.tables e below (s₁.setTop (mkF m 143 #[.val (.int p0), .val (.long q1), .second, .val (.long fr), .second, .val (.int q), .val (.double pw), .second, .unset, .unset, .unset, .unset, .unset, .unset, .unset, .unset, .unset] [(.long fr), (.long (4503599627370496 : Int64))])) _
    refine XS.lor X0.here hx rfl (hb hby at_143) rfl ?_
    show Steps p.tables e below (s₁.setTop (mkF m 144 #[.val (.int p0), .val (.long q1), .second, .val (.long fr), .second, .val (.int q), .val (.double pw), .second, .unset, .unset, .unset, .unset, .unset, .unset, .unset, .unset, .unset] [(.long ((4503599627370496 : Int64) ||| fr))])) _
    refine XS.l2dS X0.here hx rfl (hb hby at_144) rfl rfl ?_
    show Steps p.tables e below (s₁.setTop (mkF m 145 #[.val (.int p0), .val (.long q1), .second, .val (.long fr), .second, .val (.int q), .val (.double pw), .second, .unset, .unset, .unset, .unset, .unset, .unset, .unset, .unset, .unset] [(.double (FP.l2d ((4503599627370496 : Int64) ||| fr)))])) _
    refine XS.dload X0.here hx rfl (hb hby at_145) rfl ?_
    show Steps p.tables e below (s₁.setTop (mkF m 147 #[.val (.int p0), .val (.long q1), .second, .val (.long fr), .second, .val (.int q), .val (.double pw), .second, .unset, .unset, .unset, .unset, .unset, .unset, .unset, .unset, .unset] [(.double pw), (.double (FP.l2d ((4503599627370496 : Int64) ||| fr)))])) _
    refine XS.dmulS X0.here hx rfl (hb hby at_147) rfl n147 rfl ?_
    show Steps p.tables e below (s₁.setTop (mkF m 148 #[.val (.int p0), .val (.long q1), .second, .val (.long fr), .second, .val (.int q), .val (.double pw), .second, .unset, .unset, .unset, .unset, .unset, .unset, .unset, .unset, .unset] [(.double (FP.dmul (FP.l2d ((4503599627370496 : Int64) ||| fr)) pw))])) _
    rw [← hva]
    show Steps p.tables e below (s₁.setTop (mkF m 148 #[.val (.int p0), .val (.long q1), .second, .val (.long fr), .second, .val (.int q), .val (.double pw), .second, .unset, .unset, .unset, .unset, .unset, .unset, .unset, .unset, .unset] [(.double va)])) _
    refine XS.dstore X0.here hx rfl (hb hby at_148) rfl (l' := #[.val (.int p0), .val (.long q1), .second, .val (.long fr), .second, .val (.int q), .val (.double pw), .second, .val (.double va), .second, .unset, .unset, .unset, .unset, .unset, .unset, .unset]) rfl ?_
    show Steps p.tables e below (s₁.setTop (mkF m 150 #[.val (.int p0), .val (.long q1), .second, .val (.long fr), .second, .val (.int q), .val (.double pw), .second, .val (.double va), .second, .unset, .unset, .unset, .unset, .unset, .unset, .unset] [])) _
    refine XS.dload X0.here hx rfl (hb hby at_150) rfl ?_
    show Steps p.tables e below (s₁.setTop (mkF m 152 #[.val (.int p0), .val (.long q1), .second, .val (.long fr), .second, .val (.int q), .val (.double pw), .second, .val (.double va), .second, .unset, .unset, .unset, .unset, .unset, .unset, .unset] [(.double va)])) _
    refine st1 _ ?_
    show Steps p.tables e below (T1.setTop (mkF m 155 #[.val (.int p0), .val (.long q1), .second, .val (.long fr), .second, .val (.int q), .val (.double pw), .second, .val (.double va), .second, .unset, .unset, .unset, .unset, .unset, .unset, .unset] [(.int (own_f34 (((-1074 : Int32) + be) - (1 : Int32))))])) _
    rw [← hkk]
    show Steps p.tables e below (T1.setTop (mkF m 155 #[.val (.int p0), .val (.long q1), .second, .val (.long fr), .second, .val (.int q), .val (.double pw), .second, .val (.double va), .second, .unset, .unset, .unset, .unset, .unset, .unset, .unset] [(.int kk)])) _
    refine XS.istore X1.here hx rfl (hb hby at_155) rfl (l' := #[.val (.int p0), .val (.long q1), .second, .val (.long fr), .second, .val (.int q), .val (.double pw), .second, .val (.double va), .second, .val (.int kk), .unset, .unset, .unset, .unset, .unset, .unset]) rfl ?_
    show Steps p.tables e below (T1.setTop (mkF m 157 #[.val (.int p0), .val (.long q1), .second, .val (.long fr), .second, .val (.int q), .val (.double pw), .second, .val (.double va), .second, .val (.int kk), .unset, .unset, .unset, .unset, .unset, .unset] [])) _
    refine XS.lloadN X1.here hx rfl (hb hby at_157) rfl ?_
    show Steps p.tables e below (T1.setTop (mkF m 158 #[.val (.int p0), .val (.long q1), .second, .val (.long fr), .second, .val (.int q), .val (.double pw), .second, .val (.double va), .second, .val (.int kk), .unset, .unset, .unset, .unset, .unset, .unset] [(.long fr)])) _
    refine XS.lconst X1.here hx rfl (hb hby at_158) ?_
    show Steps p.tables e below (T1.setTop (mkF m 159 #[.val (.int p0), .val (.long q1), .second, .val (.long fr), .second, .val (.int q), .val (.double pw), .second, .val (.double va), .second, .val (.int kk), .unset, .unset, .unset, .unset, .unset, .unset] [(.long (0 : Int64)), (.long fr)])) _
    refine XS.lcmp X1.here hx rfl (hb hby at_159) rfl ?_
    show Steps p.tables e below (T1.setTop (mkF m 160 #[.val (.int p0), .val (.long q1), .second, .val (.long fr), .second, .val (.int q), .val (.double pw), .second, .val (.double va), .second, .val (.int kk), .unset, .unset, .unset, .unset, .unset, .unset] [(.int (if fr > (0 : Int64) then 1 else if fr = (0 : Int64) then 0 else -1))])) _
    refine XS.ifNo X1.here hx rfl (hb hby at_160) rfl b160 ?_
    show Steps p.tables e below (T1.setTop (mkF m 163 #[.val (.int p0), .val (.long q1), .second, .val (.long fr), .second, .val (.int q), .val (.double pw), .second, .val (.double va), .second, .val (.int kk), .unset, .unset, .unset, .unset, .unset, .unset] [])) _
    refine X1.ldc2Long hx hown (mvT hZ (hw _ (List.mem_of_getElem? (i := 34) rfl))) (g := (mkF m 163 #[.val (.int p0), .val (.long q1), .second, .val (.long fr), .second, .val (.int q), .val (.double pw), .second, .val (.double va), .second, .val (.int kk), .unset, .unset, .unset, .unset, .unset, .unset] [])) rfl (hb hby at_163) _ ?_
    show Steps p.tables e below (T1.setTop (mkF m 166 #[.val (.int p0), .val (.long q1), .second, .val (.long fr), .second, .val (.int q), .val (.double pw), .second, .val (.double va), .second, .val (.int kk), .unset, .unset, .unset, .unset, .unset, .unset] [(.long (3 : Int64))])) _
    refine XS.goto X1.here hx rfl (pc0 := 166) (pc' := 172) rfl (hb hby at_166) (by decide) (by decide) ?_
    show Steps p.tables e below (T1.setTop (mkF m 172 #[.val (.int p0), .val (.long q1), .second, .val (.long fr), .second, .val (.int q), .val (.double pw), .second, .val (.double va), .second, .val (.int kk), .unset, .unset, .unset, .unset, .unset, .unset] [(.long (3 : Int64))])) _
    refine XS.lstore X1.here hx rfl (hb hby at_172) rfl (l' := #[.val (.int p0), .val (.long q1), .second, .val (.long fr), .second, .val (.int q), .val (.double pw), .second, .val (.double va), .second, .val (.int kk), .val (.long (3 : Int64)), .second, .unset, .unset, .unset, .unset]) rfl ?_
    show Steps p.tables e below (T1.setTop (mkF m 174 #[.val (.int p0), .val (.long q1), .second, .val (.long fr), .second, .val (.int q), .val (.double pw), .second, .val (.double va), .second, .val (.int kk), .val (.long (3 : Int64)), .second, .unset, .unset, .unset, .unset] [])) _
    refine XS.iconst X1.here hx rfl (hb hby at_174) ?_
    show Steps p.tables e below (T1.setTop (mkF m 175 #[.val (.int p0), .val (.long q1), .second, .val (.long fr), .second, .val (.int q), .val (.double pw), .second, .val (.double va), .second, .val (.int kk), .val (.long (3 : Int64)), .second, .unset, .unset, .unset, .unset] [(.int (2 : Int32))])) _
    refine XS.iload X1.here hx rfl (hb hby at_175) rfl ?_
    show Steps p.tables e below (T1.setTop (mkF m 177 #[.val (.int p0), .val (.long q1), .second, .val (.long fr), .second, .val (.int q), .val (.double pw), .second, .val (.double va), .second, .val (.int kk), .val (.long (3 : Int64)), .second, .unset, .unset, .unset, .unset] [(.int q), (.int (2 : Int32))])) _
    refine XS.isub X1.here hx rfl (hb hby at_177) rfl ?_
    show Steps p.tables e below (T1.setTop (mkF m 178 #[.val (.int p0), .val (.long q1), .second, .val (.long fr), .second, .val (.int q), .val (.double pw), .second, .val (.double va), .second, .val (.int kk), .val (.long (3 : Int64)), .second, .unset, .unset, .unset, .unset] [(.int ((2 : Int32) - q))])) _
    rw [← htt]
    show Steps p.tables e below (T1.setTop (mkF m 178 #[.val (.int p0), .val (.long q1), .second, .val (.long fr), .second, .val (.int q), .val (.double pw), .second, .val (.double va), .second, .val (.int kk), .val (.long (3 : Int64)), .second, .unset, .unset, .unset, .unset] [(.int tt)])) _
    refine XS.istore X1.here hx rfl (hb hby at_178) rfl (l' := #[.val (.int p0), .val (.long q1), .second, .val (.long fr), .second, .val (.int q), .val (.double pw), .second, .val (.double va), .second, .val (.int kk), .val (.long (3 : Int64)), .second, .val (.int tt), .unset, .unset, .unset]) rfl ?_
    show Steps p.tables e below (T1.setTop (mkF m 180 #[.val (.int p0), .val (.long q1), .second, .val (.long fr), .second, .val (.int q), .val (.double pw), .second, .val (.double va), .second, .val (.int kk), .val (.long (3 : Int64)), .second, .val (.int tt), .unset, .unset, .unset] [])) _
    refine XS.iload X1.here hx rfl (hb hby at_180) rfl ?_
    show Steps p.tables e below (T1.setTop (mkF m 182 #[.val (.int p0), .val (.long q1), .second, .val (.long fr), .second, .val (.int q), .val (.double pw), .second, .val (.double va), .second, .val (.int kk), .val (.long (3 : Int64)), .second, .val (.int tt), .unset, .unset, .unset] [(.int tt)])) _
    refine XS.ifYes X1.here hx rfl (pc0 := 182) (pc' := 237) rfl (hb hby at_182) rfl b182 (by decide) (by decide) ?_
    show Steps p.tables e below (T1.setTop (mkF m 237 #[.val (.int p0), .val (.long q1), .second, .val (.long fr), .second, .val (.int q), .val (.double pw), .second, .val (.double va), .second, .val (.int kk), .val (.long (3 : Int64)), .second, .val (.int tt), .unset, .unset, .unset] [])) _
    refine XS.iload X1.here hx rfl (hb hby at_237) rfl ?_
    show Steps p.tables e below (T1.setTop (mkF m 239 #[.val (.int p0), .val (.long q1), .second, .val (.long fr), .second, .val (.int q), .val (.double pw), .second, .val (.double va), .second, .val (.int kk), .val (.long (3 : Int64)), .second, .val (.int tt), .unset, .unset, .unset] [(.int kk)])) _
    refine XS.ifYes X1.here hx rfl (pc0 := 239) (pc' := 269) rfl (hb hby at_239) rfl b239 (by decide) (by decide) ?_
    show Steps p.tables e below (T1.setTop (mkF m 269 #[.val (.int p0), .val (.long q1), .second, .val (.long fr), .second, .val (.int q), .val (.double pw), .second, .val (.double va), .second, .val (.int kk), .val (.long (3 : Int64)), .second, .val (.int tt), .unset, .unset, .unset] [])) _
    refine XS.iload X1.here hx rfl (hb hby at_269) rfl ?_
    show Steps p.tables e below (T1.setTop (mkF m 271 #[.val (.int p0), .val (.long q1), .second, .val (.long fr), .second, .val (.int q), .val (.double pw), .second, .val (.double va), .second, .val (.int kk), .val (.long (3 : Int64)), .second, .val (.int tt), .unset, .unset, .unset] [(.int kk)])) _
    refine XS.bipush X1.here hx rfl (hb hby at_271) ?_
    show Steps p.tables e below (T1.setTop (mkF m 273 #[.val (.int p0), .val (.long q1), .second, .val (.long fr), .second, .val (.int q), .val (.double pw), .second, .val (.double va), .second, .val (.int kk), .val (.long (3 : Int64)), .second, .val (.int tt), .unset, .unset, .unset] [(.int (-18 : Int32)), (.int kk)])) _
    refine XS.icmpYes X1.here hx rfl (pc0 := 273) (pc' := 278) rfl (hb hby at_273) rfl b273 (by decide) (by decide) ?_
    show Steps p.tables e below (T1.setTop (mkF m 278 #[.val (.int p0), .val (.long q1), .second, .val (.long fr), .second, .val (.int q), .val (.double pw), .second, .val (.double va), .second, .val (.int kk), .val (.long (3 : Int64)), .second, .val (.int tt), .unset, .unset, .unset] [])) _
    refine XS.iload X1.here hx rfl (hb hby at_278) rfl ?_
    show Steps p.tables e below (T1.setTop (mkF m 280 #[.val (.int p0), .val (.long q1), .second, .val (.long fr), .second, .val (.int q), .val (.double pw), .second, .val (.double va), .second, .val (.int kk), .val (.long (3 : Int64)), .second, .val (.int tt), .unset, .unset, .unset] [(.int kk)])) _
    refine XS.ineg X1.here hx rfl (hb hby at_280) rfl ?_
    show Steps p.tables e below (T1.setTop (mkF m 281 #[.val (.int p0), .val (.long q1), .second, .val (.long fr), .second, .val (.int q), .val (.double pw), .second, .val (.double va), .second, .val (.int kk), .val (.long (3 : Int64)), .second, .val (.int tt), .unset, .unset, .unset] [(.int (-kk))])) _
    refine XS.istore X1.here hx rfl (hb hby at_281) rfl (l' := #[.val (.int p0), .val (.long q1), .second, .val (.long fr), .second, .val (.int q), .val (.double pw), .second, .val (.double va), .second, .val (.int kk), .val (.long (3 : Int64)), .second, .val (.int tt), .val (.int (-kk)), .unset, .unset]) rfl ?_
    show Steps p.tables e below (T1.setTop (mkF m 283 #[.val (.int p0), .val (.long q1), .second, .val (.long fr), .second, .val (.int q), .val (.double pw), .second, .val (.double va), .second, .val (.int kk), .val (.long (3 : Int64)), .second, .val (.int tt), .val (.int (-kk)), .unset, .unset] [])) _
    refine XS.lconst X1.here hx rfl (hb hby at_283) ?_
    show Steps p.tables e below (T1.setTop (mkF m 284 #[.val (.int p0), .val (.long q1), .second, .val (.long fr), .second, .val (.int q), .val (.double pw), .second, .val (.double va), .second, .val (.int kk), .val (.long (3 : Int64)), .second, .val (.int tt), .val (.int (-kk)), .unset, .unset] [(.long (1 : Int64))])) _
    refine XS.iload X1.here hx rfl (hb hby at_284) rfl ?_
    show Steps p.tables e below (T1.setTop (mkF m 286 #[.val (.int p0), .val (.long q1), .second, .val (.long fr), .second, .val (.int q), .val (.double pw), .second, .val (.double va), .second, .val (.int kk), .val (.long (3 : Int64)), .second, .val (.int tt), .val (.int (-kk)), .unset, .unset] [(.int tt), (.long (1 : Int64))])) _
    refine XS.lshl X1.here hx rfl (hb hby at_286) rfl ?_
    show Steps p.tables e below (T1.setTop (mkF m 287 #[.val (.int p0), .val (.long q1), .second, .val (.long fr), .second, .val (.int q), .val (.double pw), .second, .val (.double va), .second, .val (.int kk), .val (.long (3 : Int64)), .second, .val (.int tt), .val (.int (-kk)), .unset, .unset] [(.long ((1 : Int64) <<< (tt &&& 0x3f).toInt64))])) _
    refine XS.lstore X1.here hx rfl (hb hby at_287) rfl (l' := #[.val (.int p0), .val (.long q1), .second, .val (.long fr), .second, .val (.int q), .val (.double pw), .second, .val (.double va), .second, .val (.int kk), .val (.long (3 : Int64)), .second, .val (.int tt), .val (.int (-kk)), .val (.long ((1 : Int64) <<< (tt &&& 0x3f).toInt64)), .second]) rfl ?_
    show Steps p.tables e below (T1.setTop (mkF m 289 #[.val (.int p0), .val (.long q1), .second, .val (.long fr), .second, .val (.int q), .val (.double pw), .second, .val (.double va), .second, .val (.int kk), .val (.long (3 : Int64)), .second, .val (.int tt), .val (.int (-kk)), .val (.long ((1 : Int64) <<< (tt &&& 0x3f).toInt64)), .second] [])) _
    refine XS.lload X1.here hx rfl (hb hby at_289) rfl ?_
    show Steps p.tables e below (T1.setTop (mkF m 291 #[.val (.int p0), .val (.long q1), .second, .val (.long fr), .second, .val (.int q), .val (.double pw), .second, .val (.double va), .second, .val (.int kk), .val (.long (3 : Int64)), .second, .val (.int tt), .val (.int (-kk)), .val (.long ((1 : Int64) <<< (tt &&& 0x3f).toInt64)), .second] [(.long ((1 : Int64) <<< (tt &&& 0x3f).toInt64))])) _
    refine XS.lload X1.here hx rfl (hb hby at_291) rfl ?_
    show Steps p.tables e below (T1.setTop (mkF m 293 #[.val (.int p0), .val (.long q1), .second, .val (.long fr), .second, .val (.int q), .val (.double pw), .second, .val (.double va), .second, .val (.int kk), .val (.long (3 : Int64)), .second, .val (.int tt), .val (.int (-kk)), .val (.long ((1 : Int64) <<< (tt &&& 0x3f).toInt64)), .second] [(.long (3 : Int64)), (.long ((1 : Int64) <<< (tt &&& 0x3f).toInt64))])) _
    refine XS.iload X1.here hx rfl (hb hby at_293) rfl ?_
    show Steps p.tables e below (T1.setTop (mkF m 295 #[.val (.int p0), .val (.long q1), .second, .val (.long fr), .second, .val (.int q), .val (.double pw), .second, .val (.double va), .second, .val (.int kk), .val (.long (3 : Int64)), .second, .val (.int tt), .val (.int (-kk)), .val (.long ((1 : Int64) <<< (tt &&& 0x3f).toInt64)), .second] [(.int (-kk)), (.long (3 : Int64)), (.long ((1 : Int64) <<< (tt &&& 0x3f).toInt64))])) _
    refine st2 _ ?_
    show Steps p.tables e below (T2.setTop (mkF m 298 #[.val (.int p0), .val (.long q1), .second, .val (.long fr), .second, .val (.int q), .val (.double pw), .second, .val (.double va), .second, .val (.int kk), .val (.long (3 : Int64)), .second, .val (.int tt), .val (.int (-kk)), .val (.long ((1 : Int64) <<< (tt &&& 0x3f).toInt64)), .second] [(.long (own_p10 (-kk))), (.long (3 : Int64)), (.long ((1 : Int64) <<< (tt &&& 0x3f).toInt64))])) _
    refine XS.lmul X2.here hx rfl (hb hby at_298) rfl ?_
    show Steps p.tables e below (T2.setTop (mkF m 299 #[.val (.int p0), .val (.long q1), .second, .val (.long fr), .second, .val (.int q), .val (.double pw), .second, .val (.double va), .second, .val (.int kk), .val (.long (3 : Int64)), .second, .val (.int tt), .val (.int (-kk)), .val (.long ((1 : Int64) <<< (tt &&& 0x3f).toInt64)), .second] [(.long ((3 : Int64) * (own_p10 (-kk)))), (.long ((1 : Int64) <<< (tt &&& 0x3f).toInt64))])) _
    refine XS.lcmp X2.here hx rfl (hb hby at_299) rfl ?_
    show Steps p.tables e below (T2.setTop (mkF m 300 #[.val (.int p0), .val (.long q1), .second, .val (.long fr), .second, .val (.int q), .val (.double pw), .second, .val (.double va), .second, .val (.int kk), .val (.long (3 : Int64)), .second, .val (.int tt), .val (.int (-kk)), .val (.long ((1 : Int64) <<< (tt &&& 0x3f).toInt64)), .second] [(.int (if ((1 : Int64) <<< (tt &&& 0x3f).toInt64) > ((3 : Int64) * (own_p10 (-kk))) then 1 else if ((1 : Int64) <<< (tt &&& 0x3f).toInt64) = ((3 : Int64) * (own_p10 (-kk))) then 0 else -1))])) _
    refine XS.ifNo X2.here hx rfl (hb hby at_300) rfl b300 ?_
    show Steps p.tables e below (T2.setTop (mkF m 303 #[.val (.int p0), .val (.long q1), .second, .val (.long fr), .second, .val (.int q), .val (.double pw), .second, .val (.double va), .second, .val (.int kk), .val (.long (3 : Int64)), .second, .val (.int tt), .val (.int (-kk)), .val (.long ((1 : Int64) <<< (tt &&& 0x3f).toInt64)), .second] [])) _
    refine XS.lload X2.here hx rfl (hb hby at_303) rfl ?_
    show Steps p.tables e below (T2.setTop (mkF m 305 #[.val (.int p0), .val (.long q1), .second, .val (.long fr), .second, .val (.int q), .val (.double pw), .second, .val (.double va), .second, .val (.int kk), .val (.long (3 : Int64)), .second, .val (.int tt), .val (.int (-kk)), .val (.long ((1 : Int64) <<< (tt &&& 0x3f).toInt64)), .second] [(.long (3 : Int64))])) _
    refine XS.iload X2.here hx rfl (hb hby at_305) rfl ?_
    show Steps p.tables e below (T2.setTop (mkF m 307 #[.val (.int p0), .val (.long q1), .second, .val (.long fr), .second, .val (.int q), .val (.double pw), .second, .val (.double va), .second, .val (.int kk), .val (.long (3 : Int64)), .second, .val (.int tt), .val (.int (-kk)), .val (.long ((1 : Int64) <<< (tt &&& 0x3f).toInt64)), .second] [(.int (-kk)), (.long (3 : Int64))])) _
    refine XS.iconst X2.here hx rfl (hb hby at_307) ?_
    show Steps p.tables e below (T2.setTop (mkF m 308 #[.val (.int p0), .val (.long q1), .second, .val (.long fr), .second, .val (.int q), .val (.double pw), .second, .val (.double va), .second, .val (.int kk), .val (.long (3 : Int64)), .second, .val (.int tt), .val (.int (-kk)), .val (.long ((1 : Int64) <<< (tt &&& 0x3f).toInt64)), .second] [(.int (1 : Int32)), (.int (-kk)), (.long (3 : Int64))])) _
    refine XS.isub X2.here hx rfl (hb hby at_308) rfl ?_
    show Steps p.tables e below (T2.setTop (mkF m 309 #[.val (.int p0), .val (.long q1), .second, .val (.long fr), .second, .val (.int q), .val (.double pw), .second, .val (.double va), .second, .val (.int kk), .val (.long (3 : Int64)), .second, .val (.int tt), .val (.int (-kk)), .val (.long ((1 : Int64) <<< (tt &&& 0x3f).toInt64)), .second] [(.int ((-kk) - (1 : Int32))), (.long (3 : Int64))])) _
    refine st3 _ ?_
    show Steps p.tables e below (T3.setTop (mkF m 312 #[.val (.int p0), .val (.long q1), .second, .val (.long fr), .second, .val (.int q), .val (.double pw), .second, .val (.double va), .second, .val (.int kk), .val (.long (3 : Int64)), .second, .val (.int tt), .val (.int (-kk)), .val (.long ((1 : Int64) <<< (tt &&& 0x3f).toInt64)), .second] [(.long (own_p10 ((-kk) - (1 : Int32)))), (.long (3 : Int64))])) _
    refine XS.lmul X3.here hx rfl (hb hby at_312) rfl ?_
    show Steps p.tables e below (T3.setTop (mkF m 313 #[.val (.int p0), .val (.long q1), .second, .val (.long fr), .second, .val (.int q), .val (.double pw), .second, .val (.double va), .second, .val (.int kk), .val (.long (3 : Int64)), .second, .val (.int tt), .val (.int (-kk)), .val (.long ((1 : Int64) <<< (tt &&& 0x3f).toInt64)), .second] [(.long ((3 : Int64) * (own_p10 ((-kk) - (1 : Int32)))))])) _
    refine XS.lload X3.here hx rfl (hb hby at_313) rfl ?_
    show Steps p.tables e below (T3.setTop (mkF m 315 #[.val (.int p0), .val (.long q1), .second, .val (.long fr), .second, .val (.int q), .val (.double pw), .second, .val (.double va), .second, .val (.int kk), .val (.long (3 : Int64)), .second, .val (.int tt), .val (.int (-kk)), .val (.long ((1 : Int64) <<< (tt &&& 0x3f).toInt64)), .second] [(.long ((1 : Int64) <<< (tt &&& 0x3f).toInt64)), (.long ((3 : Int64) * (own_p10 ((-kk) - (1 : Int32)))))])) _
    refine XS.lcmp X3.here hx rfl (hb hby at_315) rfl ?_
    show Steps p.tables e below (T3.setTop (mkF m 316 #[.val (.int p0), .val (.long q1), .second, .val (.long fr), .second, .val (.int q), .val (.double pw), .second, .val (.double va), .second, .val (.int kk), .val (.long (3 : Int64)), .second, .val (.int tt), .val (.int (-kk)), .val (.long ((1 : Int64) <<< (tt &&& 0x3f).toInt64)), .second] [(.int (if ((3 : Int64) * (own_p10 ((-kk) - (1 : Int32)))) > ((1 : Int64) <<< (tt &&& 0x3f).toInt64) then 1 else if ((3 : Int64) * (own_p10 ((-kk) - (1 : Int32)))) = ((1 : Int64) <<< (tt &&& 0x3f).toInt64) then 0 else -1))])) _
    refine XS.ifNo X3.here hx rfl (hb hby at_316) rfl b316 ?_
    show Steps p.tables e below (T3.setTop (mkF m 319 #[.val (.int p0), .val (.long q1), .second, .val (.long fr), .second, .val (.int q), .val (.double pw), .second, .val (.double va), .second, .val (.int kk), .val (.long (3 : Int64)), .second, .val (.int tt), .val (.int (-kk)), .val (.long ((1 : Int64) <<< (tt &&& 0x3f).toInt64)), .second] [])) _
    refine XS.iconst X3.here hx rfl (hb hby at_319) ?_
    show Steps p.tables e below (T3.setTop (mkF m 320 #[.val (.int p0), .val (.long q1), .second, .val (.long fr), .second, .val (.int q), .val (.double pw), .second, .val (.double va), .second, .val (.int kk), .val (.long (3 : Int64)), .second, .val (.int tt), .val (.int (-kk)), .val (.long ((1 : Int64) <<< (tt &&& 0x3f).toInt64)), .second] [(.int (1 : Int32))])) _
    refine XS.goto X3.here hx rfl (pc0 := 320) (pc' := 324) rfl (hb hby at_320) (by decide) (by decide) ?_
    show Steps p.tables e below (T3.setTop (mkF m 324 #[.val (.int p0), .val (.long q1), .second, .val (.long fr), .second, .val (.int q), .val (.double pw), .second, .val (.double va), .second, .val (.int kk), .val (.long (3 : Int64)), .second, .val (.int tt), .val (.int (-kk)), .val (.long ((1 : Int64) <<< (tt &&& 0x3f).toInt64)), .second] [(.int (1 : Int32))])) _
    exact retN X3 hx (t := .boolean) Bd.returns (by simp) (hb hby at_324) hr
  · show QL n0 _ T3.heap _
    exact ⟨rfl, N3⟩
section Law
open Jvm.FP.Core Jvm.OwnF Jvm.Kit
def own_qk (k : Nat) : Int32 := Int32.ofNat k - (56 : Int32)
def own_bk (k : Nat) : Int32 := Int32.ofNat (k + 1019)
def own_tk (k : Nat) : Int32 := (2 : Int32) - own_qk k
def own_k0 (k : Nat) : Int32 := own_f34 (((-1074 : Int32) + own_bk k) - (1 : Int32))
def own_k1 (k : Nat) : Int32 := own_f10 (((-1074 : Int32) + own_bk k) - (1 : Int32))
def own_A0 (k : Nat) : Prop := (ifCond.holds .lt (own_qk k) = false) ∧ (ifCond.holds .gt (own_tk k) = false) ∧ (ifCond.holds .lt (own_k0 k) = false) ∧ (if_icmp.holds .le (own_k0 k) (17 : Int32) = true) ∧ (ifCond.holds .gt (if (own_p10 (own_k0 k)) > ((3 : Int64) <<< ((-(own_tk k)) &&& 0x3f).toInt64) then 1 else if (own_p10 (own_k0 k)) = ((3 : Int64) <<< ((-(own_tk k)) &&& 0x3f).toInt64) then 0 else -1) = false) ∧ (ifCond.holds .ge (if ((3 : Int64) <<< ((-(own_tk k)) &&& 0x3f).toInt64) > (own_p10 ((own_k0 k) + (1 : Int32))) then 1 else if ((3 : Int64) <<< ((-(own_tk k)) &&& 0x3f).toInt64) = (own_p10 ((own_k0 k) + (1 : Int32))) then 0 else -1) = false)
instance (k : Nat) : Decidable (own_A0 k) := by unfold own_A0; infer_instance
def own_B0 (k : Nat) : Prop := (ifCond.holds .lt (own_qk k) = false) ∧ (ifCond.holds .gt (own_tk k) = true) ∧ (ifCond.holds .lt (own_k0 k) = false) ∧ (ifCond.holds .ne (own_k0 k) = false) ∧ (if_icmp.holds .gt (own_tk k) (2 : Int32) = false) ∧ (ifCond.holds .gt (if ((1 : Int64) <<< ((own_tk k) &&& 0x3f).toInt64) > (3 : Int64) then 1 else if ((1 : Int64) <<< ((own_tk k) &&& 0x3f).toInt64) = (3 : Int64) then 0 else -1) = false)
instance (k : Nat) : Decidable (own_B0 k) := by unfold own_B0; infer_instance
def own_Cn0 (k : Nat) : Prop := (ifCond.holds .lt (own_qk k) = true) ∧ (ifCond.holds .gt (own_tk k) = true) ∧ (ifCond.holds .lt (own_k0 k) = true) ∧ (if_icmp.holds .ge (own_k0 k) (-18 : Int32) = true) ∧ (ifCond.holds .gt (if ((1 : Int64) <<< ((own_tk k) &&& 0x3f).toInt64) > ((3 : Int64) * (own_p10 (-(own_k0 k)))) then 1 else if ((1 : Int64) <<< ((own_tk k) &&& 0x3f).toInt64) = ((3 : Int64) * (own_p10 (-(own_k0 k)))) then 0 else -1) = false) ∧ (ifCond.holds .ge (if ((3 : Int64) * (own_p10 ((-(own_k0 k)) - (1 : Int32)))) > ((1 : Int64) <<< ((own_tk k) &&& 0x3f).toInt64) then 1 else if ((3 : Int64) * (own_p10 ((-(own_k0 k)) - (1 : Int32)))) = ((1 : Int64) <<< ((own_tk k) &&& 0x3f).toInt64) then 0 else -1) = false)
instance (k : Nat) : Decidable (own_Cn0 k) := by unfold own_Cn0; infer_instance
def own_Cp0 (k : Nat) : Prop := (ifCond.holds .lt (own_qk k) = false) ∧ (ifCond.holds .gt (own_tk k) = true) ∧ (ifCond.holds .lt (own_k0 k) = true) ∧ (if_icmp.holds .ge (own_k0 k) (-18 : Int32) = true) ∧ (ifCond.holds .gt (if ((1 : Int64) <<< ((own_tk k) &&& 0x3f).toInt64) > ((3 : Int64) * (own_p10 (-(own_k0 k)))) then 1 else if ((1 : Int64) <<< ((own_tk k) &&& 0x3f).toInt64) = ((3 : Int64) * (own_p10 (-(own_k0 k)))) then 0 else -1) = false) ∧ (ifCond.holds .ge (if ((3 : Int64) * (own_p10 ((-(own_k0 k)) - (1 : Int32)))) > ((1 : Int64) <<< ((own_tk k) &&& 0x3f).toInt64) then 1 else if ((3 : Int64) * (own_p10 ((-(own_k0 k)) - (1 : Int32)))) = ((1 : Int64) <<< ((own_tk k) &&& 0x3f).toInt64) then 0 else -1) = false)
instance (k : Nat) : Decidable (own_Cp0 k) := by unfold own_Cp0; infer_instance
theorem own_all0 : ∀ k : Fin 115, own_A0 k.val ∨ own_B0 k.val ∨ own_Cn0 k.val ∨ own_Cp0 k.val := by decide +kernel
def own_A1 (k : Nat) : Prop := (ifCond.holds .lt (own_qk k) = false) ∧ (ifCond.holds .gt (own_tk k) = false) ∧ (ifCond.holds .lt (own_k1 k) = false) ∧ (if_icmp.holds .le (own_k1 k) (17 : Int32) = true) ∧ (ifCond.holds .gt (if (own_p10 (own_k1 k)) > ((4 : Int64) <<< ((-(own_tk k)) &&& 0x3f).toInt64) then 1 else if (own_p10 (own_k1 k)) = ((4 : Int64) <<< ((-(own_tk k)) &&& 0x3f).toInt64) then 0 else -1) = false) ∧ (ifCond.holds .ge (if ((4 : Int64) <<< ((-(own_tk k)) &&& 0x3f).toInt64) > (own_p10 ((own_k1 k) + (1 : Int32))) then 1 else if ((4 : Int64) <<< ((-(own_tk k)) &&& 0x3f).toInt64) = (own_p10 ((own_k1 k) + (1 : Int32))) then 0 else -1) = false)
instance (k : Nat) : Decidable (own_A1 k) := by unfold own_A1; infer_instance
def own_B1 (k : Nat) : Prop := (ifCond.holds .lt (own_qk k) = false) ∧ (ifCond.holds .gt (own_tk k) = true) ∧ (ifCond.holds .lt (own_k1 k) = false) ∧ (ifCond.holds .ne (own_k1 k) = false) ∧ (if_icmp.holds .gt (own_tk k) (2 : Int32) = false) ∧ (ifCond.holds .gt (if ((1 : Int64) <<< ((own_tk k) &&& 0x3f).toInt64) > (4 : Int64) then 1 else if ((1 : Int64) <<< ((own_tk k) &&& 0x3f).toInt64) = (4 : Int64) then 0 else -1) = false)
instance (k : Nat) : Decidable (own_B1 k) := by unfold own_B1; infer_instance
def own_Cn1 (k : Nat) : Prop := (ifCond.holds .lt (own_qk k) = true) ∧ (ifCond.holds .gt (own_tk k) = true) ∧ (ifCond.holds .lt (own_k1 k) = true) ∧ (if_icmp.holds .ge (own_k1 k) (-18 : Int32) = true) ∧ (ifCond.holds .gt (if ((1 : Int64) <<< ((own_tk k) &&& 0x3f).toInt64) > ((4 : Int64) * (own_p10 (-(own_k1 k)))) then 1 else if ((1 : Int64) <<< ((own_tk k) &&& 0x3f).toInt64) = ((4 : Int64) * (own_p10 (-(own_k1 k)))) then 0 else -1) = false) ∧ (ifCond.holds .ge (if ((4 : Int64) * (own_p10 ((-(own_k1 k)) - (1 : Int32)))) > ((1 : Int64) <<< ((own_tk k) &&& 0x3f).toInt64) then 1 else if ((4 : Int64) * (own_p10 ((-(own_k1 k)) - (1 : Int32)))) = ((1 : Int64) <<< ((own_tk k) &&& 0x3f).toInt64) then 0 else -1) = false)
instance (k : Nat) : Decidable (own_Cn1 k) := by unfold own_Cn1; infer_instance
theorem own_all1 : ∀ k : Fin 115, own_A1 k.val ∨ own_B1 k.val ∨ own_Cn1 k.val := by decide +kernel
/-- the double with the exponent field E and the fraction f -/
def own_v (E f : Nat) : UInt64 := UInt64.ofNat (E * 2 ^ 52 + f)
theorem own_v_nat {E f : Nat} (hE : E ≤ 2046) (hf : f < 2 ^ 52) : (own_v E f).toNat = E * 2 ^ 52 + f := by
  unfold own_v
  rw [UInt64.toNat_ofNat']
  omega
theorem own_v_fin {E f : Nat} (hE : E ≤ 2046) (hf : f < 2 ^ 52) : DFin (own_v E f) := by
  rw [fin_bits, own_v_nat hE hf]; omega
theorem own_v_sgn {E f : Nat} (hE : E ≤ 2046) (hf : f < 2 ^ 52) : sgn (val64 (own_v E f)) = false := by
  rw [sgn_bits (own_v_fin hE hf).ne_nan, own_v_nat hE hf]; simp; omega
theorem own_v_Zm {E f : Nat} (h1 : 1 ≤ E) (hE : E ≤ 2046) (hf : f < 2 ^ 52) : Zm (own_v E f) = (2 ^ 52 + f) * 2 ^ (E - 1) := by
  unfold Zm
  rw [zmag_bits (own_v_fin hE hf).ne_nan, own_v_nat hE hf]
  unfold Jvm.FP.Core.unitsOf
  rw [tails_b64, show (E * 2 ^ 52 + f) % 2 ^ 63 = E * 2 ^ 52 + f by omega, if_neg (by omega), show (E * 2 ^ 52 + f) % 2 ^ 52 = f by omega, show (E * 2 ^ 52 + f) / 2 ^ 52 = E by omega]
theorem own_v_Zm0 {f : Nat} (hf : f < 2 ^ 52) : Zm (own_v 0 f) = f := by
  unfold Zm
  rw [zmag_bits (own_v_fin (by omega) hf).ne_nan, own_v_nat (by omega) hf]
  unfold Jvm.FP.Core.unitsOf
  rw [tails_b64, show (0 * 2 ^ 52 + f) % 2 ^ 63 = f by omega, if_pos hf]
theorem own_v_int {E f : Nat} (hE : E ≤ 2046) (hf : f < 2 ^ 52) : (own_v E f).toInt64.toInt = ((E * 2 ^ 52 + f : Nat) : Int) := by
  have h := own_v_nat hE hf
  show (own_v E f).toBitVec.toInt = _
  rw [BitVec.toInt_eq_toNat_cond]
  have e : (own_v E f).toBitVec.toNat = (own_v E f).toNat := rfl
  rw [e, h, if_pos (by omega)]
theorem own_v_frac {E : Nat} {f : Int64} (hE : E ≤ 2046) (h0 : 0 ≤ f.toInt) (hf : f.toInt < 2 ^ 52) : (own_v E f.toInt.toNat).toInt64 &&& (4503599627370495 : Int64) = f := by
  have h := i64_mask (own_v E f.toInt.toNat).toInt64 4503599627370495 (k := 52) (by decide) (by decide)
  rw [own_v_int hE (by omega)] at h
  exact Int64.toInt_inj.mp (by omega)
theorem own_v_be {E f : Nat} (hE : E ≤ 2046) (hf : f < 2 ^ 52) : (((own_v E f).toInt64.toUInt64 >>> ((52 : Int32) &&& 0x3f).toInt64.toUInt64).toInt64).toInt32 = Int32.ofNat E := by
  have h0 : ((52 : Int32) &&& 0x3f).toInt64.toUInt64 = 52 := by decide
  have h1 : (own_v E f).toInt64.toUInt64 = own_v E f := rfl
  have h2 : (own_v E f >>> 52).toNat = E := by
    rw [UInt64.toNat_shiftRight, own_v_nat hE hf]
    show (E * 2 ^ 52 + f) >>> 52 = E
    rw [Nat.shiftRight_eq_div_pow]; omega
  have h3 : (own_v E f >>> 52).toInt64.toInt = (E : Int) := by
    show (own_v E f >>> 52).toBitVec.toInt = _
    rw [BitVec.toInt_eq_toNat_cond, show (own_v E f >>> 52).toBitVec.toNat = (own_v E f >>> 52).toNat from rfl, h2, if_pos (by omega)]
  rw [h0, h1]
  refine Int32.toInt_inj.mp ?_
  rw [i32_of_i64 (by omega) (by omega), h3, Int32.toInt_ofNat_of_lt (by omega)]
def own_pw (k : Nat) : UInt64 := own_v (k + 967) 0
theorem own_pw_pos : ∀ k : Fin 115, ifCond.holds .lt (own_qk k.val) = false → l2d ((1 : Int64) <<< ((own_qk k.val) &&& 0x3f).toInt64) = own_pw k.val := by decide +kernel
theorem own_pw_neg : ∀ k : Fin 115, ifCond.holds .lt (own_qk k.val) = true → ddiv Jvm.FP.dconst1 (l2d ((1 : Int64) <<< ((-(own_qk k.val)) &&& 0x3f).toInt64)) = own_pw k.val := by decide +kernel
theorem own_or {f : Int64} (h0 : 0 ≤ f.toInt) (hf : f.toInt < 2 ^ 52) : ((4503599627370496 : Int64) ||| f).toInt = 2 ^ 52 + f.toInt := by
  have hn : f.toBitVec.toNat = f.toInt.toNat := by
    have h : f.toInt = f.toBitVec.toInt := rfl
    rw [BitVec.toInt_eq_toNat_cond] at h
    split at h <;> omega
  have h1 : ((4503599627370496 : Int64) ||| f).toInt = ((4503599627370496#64) ||| f.toBitVec).toInt := rfl
  have h2 : ((4503599627370496#64) ||| f.toBitVec).toNat = 2 ^ 52 + f.toInt.toNat := by
    rw [BitVec.toNat_or, hn]
    have := Nat.two_pow_add_eq_or_of_lt (i := 52) (b := f.toInt.toNat) (by omega) 1
    rw [Nat.mul_one] at this
    exact this.symm
  rw [h1, BitVec.toInt_eq_toNat_cond, h2, if_pos (by omega)]
  omega
theorem own_mul {k : Nat} {f : Int64} (hk : k < 115) (h0 : 0 ≤ f.toInt) (hf : f.toInt < 2 ^ 52) : dmul (l2d ((4503599627370496 : Int64) ||| f)) (own_pw k) = own_v (k + 1019) f.toInt.toNat := by
  have ho := own_or h0 hf
  have DA : DInt ((4503599627370496 : Int64) ||| f).toInt (l2d ((4503599627370496 : Int64) ||| f)) := l2d_int (by omega)
  have ZA := Zm_DInt DA
  have FA := DInt_fin DA
  have SA : sgn (val64 (l2d ((4503599627370496 : Int64) ||| f))) = false := by rw [DInt_sgn DA (by omega)]; simp; omega
  have FB : DFin (own_pw k) := own_v_fin (by omega) (by omega)
  have SB : sgn (val64 (own_pw k)) = false := own_v_sgn (by omega) (by omega)
  have ZB : Zm (own_pw k) = (2 ^ 52 + 0) * 2 ^ (k + 967 - 1) := own_v_Zm (by omega) (by omega) (by omega)
  have FV := own_v_fin (E := k + 1019) (f := f.toInt.toNat) (by omega) (by omega)
  have ZV := own_v_Zm (E := k + 1019) (f := f.toInt.toNat) (by omega) (by omega) (by omega)
  have key : Zm (l2d ((4503599627370496 : Int64) ||| f)) * Zm (own_pw k) = Zm (own_v (k + 1019) f.toInt.toNat) * one64 := by
    rw [ZA, ZB, ZV, show ((4503599627370496 : Int64) ||| f).toInt.natAbs = 2 ^ 52 + f.toInt.toNat by omega, Nat.add_zero, ← Nat.pow_add, show 52 + (k + 967 - 1) = k + 1019 - 1 by omega]
    rw [Nat.mul_right_comm]
  refine eq_of_Zm (dmul_ne_nan FA FB) FV.ne_nan ?_ (Nat.le_antisymm (dmul_le FA FB FV.ne_nan (Nat.le_of_eq key)) (dmul_ge FA FB (Nat.le_of_eq key.symm))) ?_
  · rw [dmul_sgn FA FB, SA, SB, own_v_sgn (by omega) (by omega)]; rfl
  · rw [ZV]; exact Nat.mul_ne_zero (by omega) (Nat.pos_iff_ne_zero.mp (Nat.two_pow_pos _))
theorem own_sub {f : Int64} (h0 : 1 ≤ f.toInt) (hf : f.toInt < 2 ^ 52) : dmul (l2d f) 1 = own_v 0 f.toInt.toNat := by
  have DA : DInt f.toInt (l2d f) := l2d_int (by omega)
  have ZA := Zm_DInt DA
  have FA := DInt_fin DA
  have SA : sgn (val64 (l2d f)) = false := by rw [DInt_sgn DA (by omega)]; simp; omega
  have FB : DFin 1 := ⟨false, 1, -1074, by decide +kernel⟩
  have SB : sgn (val64 1) = false := by decide +kernel
  have ZB : Zm 1 = 1 := by unfold Zm; decide +kernel
  have FV := own_v_fin (E := 0) (f := f.toInt.toNat) (by omega) (by omega)
  have ZV := own_v_Zm0 (f := f.toInt.toNat) (by omega)
  have key : Zm (l2d f) * Zm 1 = Zm (own_v 0 f.toInt.toNat) * one64 := by
    rw [ZA, ZB, ZV, show f.toInt.natAbs = f.toInt.toNat by omega, Nat.mul_one]
  refine eq_of_Zm (dmul_ne_nan FA FB) FV.ne_nan ?_ (Nat.le_antisymm (dmul_le FA FB FV.ne_nan (Nat.le_of_eq key)) (dmul_ge FA FB (Nat.le_of_eq key.symm))) ?_
  · rw [dmul_sgn FA FB, SA, SB, own_v_sgn (by omega) (by omega)]; rfl
  · rw [ZV]; omega
theorem own_q (p : Int32) : ∃ k : Nat, k < 115 ∧ ((p &&& (127 : Int32)) - ((p &&& (127 : Int32)) / (115 : Int32)) * (115 : Int32)) - (56 : Int32) = own_qk k := by
  obtain ⟨h1, h2⟩ := irem_range (x := p &&& 127) (n := 115) (and_bounds p (by decide)).1 (by decide)
  obtain ⟨k, hk, e⟩ := i32_of_lt (n := 115) h1 h2
  exact ⟨k, hk, by rw [e]; rfl⟩
def own_fr (p0 : Int32) (q1 : Int64) : Int64 := cond (ifCond.holds .eq (((p0.toUInt32 >>> ((9 : Int32) &&& 31).toUInt32).toInt32) &&& (1 : Int32))) (q1 &&& (4503599627370495 : Int64)) (0 : Int64)
theorem own_fr_range (p0 : Int32) (q1 : Int64) : 0 ≤ (own_fr p0 q1).toInt ∧ (own_fr p0 q1).toInt < 2 ^ 52 := by
  unfold own_fr
  have h := i64_mask q1 4503599627370495 (k := 52) (by decide) (by decide)
  cases ifCond.holds .eq (((p0.toUInt32 >>> ((9 : Int32) &&& 31).toUInt32).toInt32) &&& (1 : Int32))
  · show 0 ≤ (0 : Int64).toInt ∧ (0 : Int64).toInt < 2 ^ 52
    decide
  · show 0 ≤ (q1 &&& (4503599627370495 : Int64)).toInt ∧ (q1 &&& (4503599627370495 : Int64)).toInt < 2 ^ 52
    omega
theorem own_cmp0 {f : Int64} (h : f = 0) : ifCond.holds .ne (if f > (0 : Int64) then 1 else if f = (0 : Int64) then 0 else -1) = false := by subst h; decide
theorem own_cmp1 {f : Int64} (h : ¬ f = 0) : ifCond.holds .ne (if f > (0 : Int64) then 1 else if f = (0 : Int64) then 0 else -1) = true := by
  by_cases h1 : f > 0
  · rw [if_pos h1]; decide
  · rw [if_neg h1, if_neg h]; decide
theorem own_be_ne : ∀ k : Fin 115, ifCond.holds .ne (own_bk k.val) = true ∧ if_icmp.holds .le (own_bk k.val) (1 : Int32) = false := by decide +kernel
end Law
theorem OwnLaw_be {k : Nat} {f : Int64} (hk : k < 115) (hf : f.toInt < 2 ^ 52) : (((own_v (k + 1019) f.toInt.toNat).toInt64.toUInt64 >>> ((52 : Int32) &&& 0x3f).toInt64.toUInt64).toInt64).toInt32 = own_bk k := own_v_be (by omega) (by omega)
theorem own_rm0 (l : Launch) (Z : State) (a0 : Array Value) (hw : ∀ d ∈ tables_1, d.before a0 Z = true) (ws : List Jvm.Cond) (p0 : Int32) (q1 : Int64) (h0 : Heap) (n0 : Nat) (Z0 : n0 ≤ h0.size) :
    MetFree l x (head1 (Jvm.Cond.code x code maxLocals ret :: ws) room_1) (fun a U => a = #[(.int p0), (.long q1)] ∧ Z.Warmed39 U.vm ∧ U.heap = h0) (fun _ _ _ _ _ => True) (fun _ U o U' => ∃ v L, o = .returned v ∧ QL n0 v U'.heap L ∧ FrameEnd U o U' L 0 0) := by
  obtain ⟨f0, f1⟩ := own_fr_range p0 q1
  have b95 : if_icmp.holds .ne (own_f10 (-1074 : Int32)) (-324 : Int32) = false := by decide
  by_cases hsel : ifCond.holds .ne (((p0.toUInt32 >>> ((7 : Int32) &&& 31).toUInt32).toInt32) &&& (3 : Int32)) = true
  · obtain ⟨k, hk, hq⟩ := own_q p0
    obtain ⟨d14, be1⟩ := own_be_ne ⟨k, hk⟩
    have hm := own_mul hk f0 f1
    have hbe : own_bk k = (((own_v (k + 1019) (own_fr p0 q1).toInt.toNat).toInt64.toUInt64 >>> ((52 : Int32) &&& 0x3f).toInt64.toUInt64).toInt64).toInt32 := (OwnLaw_be hk f1).symm
    have hfrac := own_v_frac (E := k + 1019) (by omega) f0 f1
    have nn : NoNaN64 (FP.dmul (FP.l2d ((4503599627370496 : Int64) ||| own_fr p0 q1)) (own_pw k)) := by
      show NoNaN64 (Jvm.FP.Core.dmul _ _)
      rw [hm]; exact OwnF.noNaN (own_v_fin (by omega) (by omega)).ne_nan
    by_cases hz : own_fr p0 q1 = 0
    · have e0 := own_cmp0 (hfrac.trans hz)
      have b160 := own_cmp0 hz
      rw [hbe] at be1
      rcases own_all0 ⟨k, hk⟩ with ⟨b118, b182, b195, b202, b215, b228⟩ | ⟨b118, b182, b239, b244, b250, b260⟩ | ⟨b118, b182, b239, b273, b300, b316⟩ | ⟨b118, b182, b239, b273, b300, b316⟩
      · exact rmA0 l Z a0 hw ws p0 q1 (own_fr p0 q1) (own_qk k) (own_pw k) (own_v (k + 1019) (own_fr p0 q1).toInt.toNat) (own_bk k) (own_k0 k) (own_tk k) h0 n0 Z0 rfl hsel hq.symm b118 (own_pw_pos ⟨k, hk⟩ b118).symm nn hm.symm hbe d14 e0 be1 rfl b160 rfl b182 b195 b202 b215 b228
      · exact rmB0 l Z a0 hw ws p0 q1 (own_fr p0 q1) (own_qk k) (own_pw k) (own_v (k + 1019) (own_fr p0 q1).toInt.toNat) (own_bk k) (own_k0 k) (own_tk k) h0 n0 Z0 rfl hsel hq.symm b118 (own_pw_pos ⟨k, hk⟩ b118).symm nn hm.symm hbe d14 e0 be1 rfl b160 rfl b182 b239 b244 b250 b260
      · have hpw := own_pw_neg ⟨k, hk⟩ b118
        exact rmC0n l Z a0 hw ws p0 q1 (own_fr p0 q1) (own_qk k) (own_pw k) (own_v (k + 1019) (own_fr p0 q1).toInt.toNat) (own_bk k) (own_k0 k) (own_tk k) h0 n0 Z0 rfl hsel hq.symm b118 (by show NoNaN64 (Jvm.FP.Core.ddiv _ _); rw [hpw]; exact OwnF.noNaN (own_v_fin (by omega) (by omega)).ne_nan) hpw.symm nn hm.symm hbe d14 e0 be1 rfl b160 rfl b182 b239 b273 b300 b316
      · exact rmC0p l Z a0 hw ws p0 q1 (own_fr p0 q1) (own_qk k) (own_pw k) (own_v (k + 1019) (own_fr p0 q1).toInt.toNat) (own_bk k) (own_k0 k) (own_tk k) h0 n0 Z0 rfl hsel hq.symm b118 (own_pw_pos ⟨k, hk⟩ b118).symm nn hm.symm hbe d14 e0 be1 rfl b160 rfl b182 b239 b273 b300 b316
    · have e0 := own_cmp1 (f := (own_v (k + 1019) (own_fr p0 q1).toInt.toNat).toInt64 &&& (4503599627370495 : Int64)) (by rw [hfrac]; exact hz)
      have b160 := own_cmp1 hz
      rcases own_all1 ⟨k, hk⟩ with ⟨b118, b182, b195, b202, b215, b228⟩ | ⟨b118, b182, b239, b244, b250, b260⟩ | ⟨b118, b182, b239, b273, b300, b316⟩
      · exact rmA1 l Z a0 hw ws p0 q1 (own_fr p0 q1) (own_qk k) (own_pw k) (own_v (k + 1019) (own_fr p0 q1).toInt.toNat) (own_bk k) (own_k1 k) (own_tk k) h0 n0 Z0 rfl hsel hq.symm b118 (own_pw_pos ⟨k, hk⟩ b118).symm nn hm.symm hbe d14 e0 rfl b160 rfl b182 b195 b202 b215 b228
      · exact rmB1 l Z a0 hw ws p0 q1 (own_fr p0 q1) (own_qk k) (own_pw k) (own_v (k + 1019) (own_fr p0 q1).toInt.toNat) (own_bk k) (own_k1 k) (own_tk k) h0 n0 Z0 rfl hsel hq.symm b118 (own_pw_pos ⟨k, hk⟩ b118).symm nn hm.symm hbe d14 e0 rfl b160 rfl b182 b239 b244 b250 b260
      · have hpw := own_pw_neg ⟨k, hk⟩ b118
        exact rmC1n l Z a0 hw ws p0 q1 (own_fr p0 q1) (own_qk k) (own_pw k) (own_v (k + 1019) (own_fr p0 q1).toInt.toNat) (own_bk k) (own_k1 k) (own_tk k) h0 n0 Z0 rfl hsel hq.symm b118 (by show NoNaN64 (Jvm.FP.Core.ddiv _ _); rw [hpw]; exact OwnF.noNaN (own_v_fin (by omega) (by omega)).ne_nan) hpw.symm nn hm.symm hbe d14 e0 rfl b160 rfl b182 b239 b273 b300 b316
  · have hsel' : ifCond.holds .ne (((p0.toUInt32 >>> ((7 : Int32) &&& 31).toUInt32).toInt32) &&& (3 : Int32)) = false := by simpa using hsel
    have d14 : ifCond.holds .ne (0 : Int32) = false := by decide
    by_cases hz : own_fr p0 q1 = 0
    · have hs := own_sub (f := 1) (by decide) (by decide)
      exact rmS0 l Z a0 hw ws p0 q1 (own_fr p0 q1) 1 0 h0 n0 Z0 rfl hsel' (own_cmp0 hz) (by decide +kernel) (by show NoNaN64 (Jvm.FP.Core.dmul _ _); rw [hs]; exact OwnF.noNaN (own_v_fin (by omega) (by decide)).ne_nan) (by rw [show FP.dmul (FP.l2d 1) 1 = _ from hs]; exact (own_v_be (E := 0) (Nat.zero_le _) (by decide)).symm) d14 b95
    · have hp : 1 ≤ (own_fr p0 q1).toInt := by
        have : (own_fr p0 q1).toInt ≠ 0 := fun e => hz (Int64.toInt_inj.mp (e.trans (by decide)))
        omega
      have hs := own_sub hp f1
      exact rmS1 l Z a0 hw ws p0 q1 (own_fr p0 q1) 1 0 h0 n0 Z0 rfl hsel' (own_cmp1 hz) (by decide +kernel) (by show NoNaN64 (Jvm.FP.Core.dmul _ _); rw [hs]; exact OwnF.noNaN (own_v_fin (by omega) (by omega)).ne_nan) (by rw [show FP.dmul (FP.l2d (own_fr p0 q1)) 1 = _ from hs]; exact (own_v_be (E := 0) (Nat.zero_le _) (by omega)).symm) d14 b95

set_option maxRecDepth 65536 in
set_option maxHeartbeats 40000000 in
theorem comes_1 {Post : Tables → Env → Array Value → State → Outcome → State → Prop} (hpost : ∀ tb e args s v u, (limb_1_1.after args s (.returned v) u = true ∧ limb_1_2.after args s (.returned v) u = true ∧ True) → FrameEnd s (.returned v) u (Jvm.fieldLocs frame_1_writes args s ++ Jvm.arrayLocs frame_1_arrays args s ++ Jvm.staticLocs frame_1_statics s) 0 0 → Post tb e args s (.returned v) u) :
    ArmFor flags0 classFile x code maxLocals ret World_1 tables_1 room_1 Calls_1 rest_1 Pre_1 Post := by
  intro l hfl _ _ p e ha hc hk s m args below hf hA hF happ hP
  obtain ⟨hcalls, hrest, hpre⟩ := hP
  obtain ⟨-, -, -, hnamed, -, -, -, hat⟩ := (Spec.applies_iff hf).mp happ
  obtain ⟨hg, hn⟩ := and_e (Cond.before_iff.mp (show (Jvm.Cond.and given_1 narrow_1).before args s = true from hpre))
  obtain ⟨hcnt, g0⟩ := and_e hg
  obtain ⟨k0, g1⟩ := and_e g0
  obtain ⟨w0, w1, rfl⟩ : ∃ w0 w1 : Value, args = #[w0, w1] := by
    have hs : args.size = 2 := by simpa [Cond.value, given_1] using hcnt
    obtain ⟨L⟩ := args
    match L, hs with
    | [w0, w1], _ => exact ⟨w0, w1, rfl⟩
  have hw := fun d (hd : d ∈ tables_1) => atoms_spec (ws := Jvm.Cond.code x code maxLocals ret :: tables_1) hat d (List.mem_cons_of_mem _ hd)
  have hfit : Fit s := fun {y c} hc i hi => by
    obtain ⟨ha, rfl⟩ := Array.getElem?_eq_some_iff.mp hc
    have q := List.all_eq_true.mp ((Array.all_eq_true_iff_forall_mem.mp hF) _ (Array.getElem_mem ha)) i (List.mem_range.mpr hi)
    simpa [Array.getElem?_eq_getElem hi] using q
  obtain ⟨i0, ei0⟩ := is_v k0
  obtain rfl : w0 = (.int i0) := Option.some.inj ei0
  obtain ⟨i1, ei1⟩ := isL_v g1
  obtain rfl : w1 = (.long i1) := Option.some.inj ei1
  obtain ⟨n, o, h1, h2, h3, _, L, rfl, ⟨rfl, N⟩, hq⟩ := own_rm0 l s _ hw tables_1 i0 i1 s.heap s.heap.size (Nat.le_refl _) p e ha hc hk s m _ below hf ((Spec.applies_iff_loose hf).mp happ).1 ⟨rfl, State.Warmed39.refl s, rfl⟩ trivial
  refine ⟨n, _, h1, h2, h3, hpost _ _ _ _ _ _ ⟨Cond.after_iff.mpr rfl, Cond.after_iff.mpr (eq_i res_at (Term.int_eval (1)) rfl), trivial⟩ ⟨hq.1, hq.2.1, (hq.2.2.sift fun y hy => Or.inr (N y hy)).mono (by decide) (by decide)⟩⟩
theorem main_1_1 : Claimed_1_1 := comes_1 fun _ _ _ _ _ _ h hF => ⟨h.1, hF⟩
theorem main_1_2 : Claimed_1_2 := comes_1 fun _ _ _ _ _ _ h hF => ⟨h.2.1, hF⟩
end Jvm.Pilot.@@N@@
namespace Jvm.Pilot.@@N@@
open Jvm Jvm.ClassFile Sem Op Lib Jvm.Free Jvm.Stand Jvm.Pilot.@@N@@.Jvm.D
/-! MADE BY PROGRAM (witnessworld.py) out of the Statement's table words and the real class files: 14 classes; the members and pool entries that the words name. The judged class is class 1, her method 1. -/
namespace start1
open Jvm.ClassFile
def u (s : String) : CpInfo := .utf8 (stringToUtf16 s)
/-- a pool by its gaps: so many unusable entries, then the entry; so many at the end -/
def gap : Nat → List CpInfo → List CpInfo
  | 0, r => r
  | n + 1, r => .unusable :: gap n r
def poolList (es : List (Nat × CpInfo)) (last : Nat) : List CpInfo := es.foldr (fun e r => gap e.1 (e.2 :: r)) (gap last [])
def pool (es : List (Nat × CpInfo)) (last : Nat) : Array CpInfo := ⟨poolList es last⟩
def fileOf (pool : Array CpInfo) (this : Nat) (attrs : Array Attribute := #[]) (ms : Array MethodInfo := #[]) (fl : Nat := 33) (sup : Nat := 0) (ifs : Array Nat := #[]) (fds : Array FieldInfo := #[]) : ClassFile where
  minorVersion := 0
  majorVersion := 65
  constantPool := pool
  accessFlags := fl
  thisClass := this
  superClass := sup
  interfaces := ifs
  fields := fds
  methods := ms
  attributes := attrs
def plain (name : String) (sup : Option ClassId) : Class where
  name := name
  kind := .ordinary
  loader := none
  accessFlags := 33
  super := sup
  interfaces := #[]
  cf := none
  fields := #[]
  methods := #[]
  instanceTypes := #[]
  staticTypes := #[]
  resolved := #[]
  callSites := []
  init := .initialized
  statics := none
  mirror := none

def pool0 : Array CpInfo := pool [(5, u "<init>"), (0, u "()V"), (1, .class_ 10), (1, u "java/lang/Object")] 113

def k0m0 : Method := { name := "<init>", desc := "()V", sig := { parameters := [], returnType := none }, accessFlags := 1, code := none }
/-- java/lang/Object -/
def k0 : Class := { plain "java/lang/Object" none with
  accessFlags := 33
  interfaces := #[]
  cf := some (fileOf pool0 8 #[] #[{ accessFlags := 1, nameIndex := 5, descriptorIndex := 6, attributes := #[] }] 33 0 #[] #[])
  fields := #[]
  methods := #[k0m0]
  instanceTypes := #[]
  staticTypes := #[]
  resolved := Array.replicate 124 none
  statics := none }

def pool1 : Array CpInfo := pool [(2, .class_ 4), (1, u "java/lang/Object"), (0, u "<init>"), (0, u "()V"), (0, .long 4503599627370495), (1, .double 4327959241903046656), (1, .double 4697254411347427328), (1, .methodref 14 15), (0, .class_ 16), (0, .nameAndType 17 18), (0, u "com/example/sundry/sundry/ShortestDecimal"), (0, u "unit"), (0, u "(D)I"), (0, .long 4503599627370496), (1, .long 3), (1, .long 4), (1, .methodref 26 27), (0, .class_ 28), (0, .nameAndType 29 30), (0, u "com/example/sundry/sundry/ShortestDecimalUnitPinLaw"), (0, u "pow10"), (0, u "(I)J"), (0, .long 10), (1, .long 100), (1, .long 10000), (1, .long 100000000), (1, .long 10000000000000000), (3, u "law"), (0, u "(IJ)Z")] 3

def k1m0 : Method := { name := "<init>", desc := "()V", sig := { parameters := [], returnType := none }, accessFlags := 1, code := none }
def k1c1 : Code := { maxStack := 6, maxLocals := 17, code := code, exceptionTable := #[], attributes := #[] }
def k1m1 : Method := { name := "law", desc := "(IJ)Z", sig := { parameters := [.int, .long], returnType := some .boolean }, accessFlags := 9, code := some k1c1 }
def k1c2 : Code := { maxStack := 4, maxLocals := 3, code := method_3_code, exceptionTable := #[], attributes := #[] }
def k1m2 : Method := { name := "pow10", desc := "(I)J", sig := { parameters := [.int], returnType := some .long }, accessFlags := 10, code := some k1c2 }
/-- com/example/sundry/sundry/ShortestDecimalUnitPinLaw -/
def k1 : Class := { plain "com/example/sundry/sundry/ShortestDecimalUnitPinLaw" (some 0) with
  accessFlags := 49
  interfaces := #[]
  cf := some (fileOf pool1 26 #[] #[{ accessFlags := 1, nameIndex := 5, descriptorIndex := 6, attributes := #[] }, { accessFlags := 9, nameIndex := 43, descriptorIndex := 44, attributes := #[] }, { accessFlags := 10, nameIndex := 29, descriptorIndex := 30, attributes := #[] }] 49 2 #[] #[])
  fields := #[]
  methods := #[k1m0, k1m1, k1m2]
  instanceTypes := #[]
  staticTypes := #[]
  resolved := Array.replicate 48 none
  statics := none }

def pool2 : Array CpInfo := pool [(1, .class_ 2), (0, u "com/example/sundry/sundry/ShortestDecimal"), (3, .class_ 8), (1, u "java/lang/Object"), (0, u "<init>"), (0, u "()V"), (3, .methodref 15 16), (0, .class_ 17), (0, .nameAndType 18 19), (0, u "java/lang/Double"), (0, u "doubleToRawLongBits"), (0, u "(D)J"), (0, .long 4503599627370495), (7, .methodref 1 29), (0, .nameAndType 30 31), (0, u "closerBelow"), (0, u "(J)Z"), (0, .methodref 1 33), (0, .nameAndType 34 35), (0, u "unit"), (0, u "(IZ)I"), (0, .methodref 1 37), (0, .nameAndType 38 39), (0, u "floorLog10ThreeQuartersPow2"), (0, u "(I)I"), (0, .methodref 1 41), (0, .nameAndType 42 39), (0, u "floorLog10Pow2"), (5, u "SCALE_HIGH"), (0, u "[J"), (2, u "SCALE_LOW"), (39, .long 661971961083), (1, .long 274743187320), (16, u "MIN_Q"), (0, u "I"), (2, u "HIDDEN_BIT"), (0, u "J"), (0, u "FRACTION_MASK"), (0, u "LOW_63_BITS"), (0, u "MIN_K"), (1, u "MAX_K"), (5, u "(D)I")] 3

def k2m0 : Method := { name := "<init>", desc := "()V", sig := { parameters := [], returnType := none }, accessFlags := 2, code := none }
def k2c1 : Code := { maxStack := 3, maxLocals := 5, code := prog_9_method_3_code, exceptionTable := #[], attributes := #[] }
def k2m1 : Method := { name := "unit", desc := "(D)I", sig := { parameters := [.double], returnType := some .int }, accessFlags := 8, code := some k2c1 }
def k2c2 : Code := { maxStack := 4, maxLocals := 2, code := prog_9_method_4_code, exceptionTable := #[], attributes := #[] }
def k2m2 : Method := { name := "closerBelow", desc := "(J)Z", sig := { parameters := [.long], returnType := some .boolean }, accessFlags := 10, code := some k2c2 }
def k2c3 : Code := { maxStack := 1, maxLocals := 2, code := prog_9_method_5_code, exceptionTable := #[], attributes := #[] }
def k2m3 : Method := { name := "unit", desc := "(IZ)I", sig := { parameters := [.int, .boolean], returnType := some .int }, accessFlags := 10, code := some k2c3 }
def k2c4 : Code := { maxStack := 4, maxLocals := 1, code := prog_9_method_9_code, exceptionTable := #[], attributes := #[] }
def k2m4 : Method := { name := "floorLog10Pow2", desc := "(I)I", sig := { parameters := [.int], returnType := some .int }, accessFlags := 10, code := some k2c4 }
def k2c5 : Code := { maxStack := 4, maxLocals := 1, code := prog_9_method_10_code, exceptionTable := #[], attributes := #[] }
def k2m5 : Method := { name := "floorLog10ThreeQuartersPow2", desc := "(I)I", sig := { parameters := [.int], returnType := some .int }, accessFlags := 10, code := some k2c5 }
/-- com/example/sundry/sundry/ShortestDecimal -/
def k2 : Class := { plain "com/example/sundry/sundry/ShortestDecimal" (some 0) with
  accessFlags := 48
  interfaces := #[]
  cf := some (fileOf pool2 1 #[] #[{ accessFlags := 2, nameIndex := 9, descriptorIndex := 10, attributes := #[] }, { accessFlags := 8, nameIndex := 34, descriptorIndex := 127, attributes := #[] }, { accessFlags := 10, nameIndex := 30, descriptorIndex := 31, attributes := #[] }, { accessFlags := 10, nameIndex := 34, descriptorIndex := 35, attributes := #[] }, { accessFlags := 10, nameIndex := 42, descriptorIndex := 39, attributes := #[] }, { accessFlags := 10, nameIndex := 38, descriptorIndex := 39, attributes := #[] }] 48 6 #[] #[{ accessFlags := 26, nameIndex := 111, descriptorIndex := 112, attributes := #[] }, { accessFlags := 26, nameIndex := 115, descriptorIndex := 116, attributes := #[] }, { accessFlags := 26, nameIndex := 117, descriptorIndex := 116, attributes := #[] }, { accessFlags := 26, nameIndex := 118, descriptorIndex := 116, attributes := #[] }, { accessFlags := 26, nameIndex := 119, descriptorIndex := 112, attributes := #[] }, { accessFlags := 26, nameIndex := 121, descriptorIndex := 112, attributes := #[] }, { accessFlags := 26, nameIndex := 48, descriptorIndex := 49, attributes := #[] }, { accessFlags := 26, nameIndex := 52, descriptorIndex := 49, attributes := #[] }])
  fields := #[{ name := "MIN_Q", type := .int, accessFlags := 26, slot := 0, constantValue := 0 }, { name := "HIDDEN_BIT", type := .long, accessFlags := 26, slot := 1, constantValue := 0 }, { name := "FRACTION_MASK", type := .long, accessFlags := 26, slot := 2, constantValue := 0 }, { name := "LOW_63_BITS", type := .long, accessFlags := 26, slot := 3, constantValue := 0 }, { name := "MIN_K", type := .int, accessFlags := 26, slot := 4, constantValue := 0 }, { name := "MAX_K", type := .int, accessFlags := 26, slot := 5, constantValue := 0 }, { name := "SCALE_HIGH", type := (.array .long), accessFlags := 26, slot := 6, constantValue := 0 }, { name := "SCALE_LOW", type := (.array .long), accessFlags := 26, slot := 7, constantValue := 0 }]
  methods := #[k2m0, k2m1, k2m2, k2m3, k2m4, k2m5]
  instanceTypes := #[]
  staticTypes := #[.int, .long, .long, .long, .int, .int, (.array .long), (.array .long)]
  resolved := Array.replicate 131 none
  statics := none }

def pool3 : Array CpInfo := pool [(1, .class_ 2), (0, u "java/io/Serializable"), (0, .class_ 4), (0, u "java/lang/Object")] 2

/-- java/io/Serializable -/
def k3 : Class := { plain "java/io/Serializable" (some 0) with
  accessFlags := 1537
  interfaces := #[]
  cf := some (fileOf pool3 1 #[] #[] 1537 3 #[] #[])
  fields := #[]
  methods := #[]
  instanceTypes := #[]
  staticTypes := #[]
  resolved := Array.replicate 7 none
  statics := none }

def pool4 : Array CpInfo := pool [(2, .class_ 4), (1, u "java/lang/Object"), (0, u "<init>"), (0, u "()V"), (1, .class_ 10), (1, u "java/lang/Number"), (2, .class_ 14), (0, u "java/io/Serializable"), (0, u "serialVersionUID"), (0, u "J")] 20

def k4m0 : Method := { name := "<init>", desc := "()V", sig := { parameters := [], returnType := none }, accessFlags := 1, code := none }
/-- java/lang/Number -/
def k4 : Class := { plain "java/lang/Number" (some 0) with
  accessFlags := 1057
  interfaces := #[3]
  cf := some (fileOf pool4 8 #[] #[{ accessFlags := 1, nameIndex := 5, descriptorIndex := 6, attributes := #[] }] 1057 2 #[13] #[{ accessFlags := 26, nameIndex := 15, descriptorIndex := 16, attributes := #[] }])
  fields := #[{ name := "serialVersionUID", type := .long, accessFlags := 26, slot := 0, constantValue := 0 }]
  methods := #[k4m0]
  instanceTypes := #[]
  staticTypes := #[.long]
  resolved := Array.replicate 37 none
  statics := none }

def pool5 : Array CpInfo := pool [(1, .class_ 2), (0, u "java/lang/Comparable"), (0, .class_ 4), (0, u "java/lang/Object")] 7

/-- java/lang/Comparable -/
def k5 : Class := { plain "java/lang/Comparable" (some 0) with
  accessFlags := 1537
  interfaces := #[]
  cf := some (fileOf pool5 1 #[] #[] 1537 3 #[] #[])
  fields := #[]
  methods := #[]
  instanceTypes := #[]
  staticTypes := #[]
  resolved := Array.replicate 12 none
  statics := none }

def pool6 : Array CpInfo := pool [(1, .class_ 2), (0, u "java/lang/constant/Constable"), (0, .class_ 4), (0, u "java/lang/Object")] 6

/-- java/lang/constant/Constable -/
def k6 : Class := { plain "java/lang/constant/Constable" (some 0) with
  accessFlags := 1537
  interfaces := #[]
  cf := some (fileOf pool6 1 #[] #[] 1537 3 #[] #[])
  fields := #[]
  methods := #[]
  instanceTypes := #[]
  staticTypes := #[]
  resolved := Array.replicate 11 none
  statics := none }

def pool7 : Array CpInfo := pool [(1, .class_ 2), (0, u "java/lang/constant/ConstantDesc"), (0, .class_ 4), (0, u "java/lang/Object")] 32

/-- java/lang/constant/ConstantDesc -/
def k7 : Class := { plain "java/lang/constant/ConstantDesc" (some 0) with
  accessFlags := 1537
  interfaces := #[]
  cf := some (fileOf pool7 1 #[] #[] 1537 3 #[] #[])
  fields := #[]
  methods := #[]
  instanceTypes := #[]
  staticTypes := #[]
  resolved := Array.replicate 37 none
  statics := none }

def pool8 : Array CpInfo := pool [(1, .class_ 2), (0, u "java/lang/Double"), (46, u "(D)J"), (64, .class_ 116), (1, u "java/lang/Number"), (3, u "value"), (0, u "D"), (14, u "doubleToRawLongBits"), (36, u "TYPE"), (0, u "Ljava/lang/Class;"), (0, .class_ 176), (0, u "java/lang/Comparable"), (0, .class_ 178), (0, u "java/lang/constant/Constable"), (0, .class_ 180), (0, u "java/lang/constant/ConstantDesc"), (0, u "POSITIVE_INFINITY"), (3, u "NEGATIVE_INFINITY"), (2, u "NaN"), (2, u "MAX_VALUE"), (0, u "MIN_NORMAL"), (0, u "MIN_VALUE"), (2, u "SIZE"), (0, u "I"), (1, u "PRECISION"), (1, u "MAX_EXPONENT"), (1, u "MIN_EXPONENT"), (1, u "BYTES"), (3, u "serialVersionUID"), (0, u "J")] 79

def k8m0 : Method := { name := "doubleToRawLongBits", desc := "(D)J", sig := { parameters := [.double], returnType := some .long }, accessFlags := 265, code := none }
/-- java/lang/Double -/
def k8 : Class := { plain "java/lang/Double" (some 4) with
  accessFlags := 49
  interfaces := #[5, 6, 7]
  cf := some (fileOf pool8 1 #[] #[{ accessFlags := 265, nameIndex := 136, descriptorIndex := 49, attributes := #[] }] 49 114 #[175, 177, 179] #[{ accessFlags := 25, nameIndex := 181, descriptorIndex := 121, attributes := #[] }, { accessFlags := 25, nameIndex := 185, descriptorIndex := 121, attributes := #[] }, { accessFlags := 25, nameIndex := 188, descriptorIndex := 121, attributes := #[] }, { accessFlags := 25, nameIndex := 191, descriptorIndex := 121, attributes := #[] }, { accessFlags := 25, nameIndex := 192, descriptorIndex := 121, attributes := #[] }, { accessFlags := 25, nameIndex := 193, descriptorIndex := 121, attributes := #[] }, { accessFlags := 25, nameIndex := 196, descriptorIndex := 197, attributes := #[] }, { accessFlags := 25, nameIndex := 199, descriptorIndex := 197, attributes := #[] }, { accessFlags := 25, nameIndex := 201, descriptorIndex := 197, attributes := #[] }, { accessFlags := 25, nameIndex := 203, descriptorIndex := 197, attributes := #[] }, { accessFlags := 25, nameIndex := 205, descriptorIndex := 197, attributes := #[] }, { accessFlags := 25, nameIndex := 173, descriptorIndex := 174, attributes := #[] }, { accessFlags := 18, nameIndex := 120, descriptorIndex := 121, attributes := #[] }, { accessFlags := 26, nameIndex := 209, descriptorIndex := 210, attributes := #[] }])
  fields := #[{ name := "POSITIVE_INFINITY", type := .double, accessFlags := 25, slot := 0, constantValue := 0 }, { name := "NEGATIVE_INFINITY", type := .double, accessFlags := 25, slot := 1, constantValue := 0 }, { name := "NaN", type := .double, accessFlags := 25, slot := 2, constantValue := 0 }, { name := "MAX_VALUE", type := .double, accessFlags := 25, slot := 3, constantValue := 0 }, { name := "MIN_NORMAL", type := .double, accessFlags := 25, slot := 4, constantValue := 0 }, { name := "MIN_VALUE", type := .double, accessFlags := 25, slot := 5, constantValue := 0 }, { name := "SIZE", type := .int, accessFlags := 25, slot := 6, constantValue := 0 }, { name := "PRECISION", type := .int, accessFlags := 25, slot := 7, constantValue := 0 }, { name := "MAX_EXPONENT", type := .int, accessFlags := 25, slot := 8, constantValue := 0 }, { name := "MIN_EXPONENT", type := .int, accessFlags := 25, slot := 9, constantValue := 0 }, { name := "BYTES", type := .int, accessFlags := 25, slot := 10, constantValue := 0 }, { name := "TYPE", type := (.object "java/lang/Class"), accessFlags := 25, slot := 11, constantValue := 0 }, { name := "value", type := .double, accessFlags := 18, slot := 0, constantValue := 0 }, { name := "serialVersionUID", type := .long, accessFlags := 26, slot := 12, constantValue := 0 }]
  methods := #[k8m0]
  instanceTypes := #[.double]
  staticTypes := #[.double, .double, .double, .double, .double, .double, .int, .int, .int, .int, .int, (.object "java/lang/Class"), .long]
  resolved := Array.replicate 290 none
  statics := none }

def pool9 : Array CpInfo := pool [(1, u "java/lang/Cloneable"), (0, .class_ 1), (0, u "java/lang/Object"), (0, .class_ 3)] 3

/-- java/lang/Cloneable -/
def k9 : Class := { plain "java/lang/Cloneable" (some 0) with
  accessFlags := 1537
  interfaces := #[]
  cf := some (fileOf pool9 2 #[] #[] 1537 4 #[] #[])
  fields := #[]
  methods := #[]
  instanceTypes := #[]
  staticTypes := #[]
  resolved := Array.replicate 8 none
  statics := none }

/-- the primitive byte -/
def k10 : Class := { plain "byte" none with kind := .primitive 'B', accessFlags := 0x411 }
/-- [B -/
def k11 : Class := { plain "[B" (some 0) with kind := .array 10 .byte, interfaces := #[9, 3], accessFlags := 1041 }

/-- the primitive int -/
def k12 : Class := { plain "int" none with kind := .primitive 'I', accessFlags := 0x411 }
/-- [I -/
def k13 : Class := { plain "[I" (some 0) with kind := .array 12 .int, interfaces := #[9, 3], accessFlags := 1041 }

def heap : Heap := #[]
def classes : Array Class := #[k0, k1, k2, k3, k4, k5, k6, k7, k8, k9, k10, k11, k12, k13]
def interned : List (Array UInt16 × Addr) := []
def slotsUsed : Nat := 0
def theMethod : MethodId := ⟨1, 1⟩
def args0 : Array Value := #[.int 5, .long 3]
def aboutOver (below : List Frame) : State where
  vm := { classes := classes, interned := interned.toArray }
  heap := heap
  slotsUsed := slotsUsed
  threads := #[{ frames := .invoking theMethod args0 :: below }]
def below0 : List Frame := [.native { method := ⟨0, 0⟩, args := #[] }]
def about1 : State := aboutOver below0
def p0 : Program := .bare "" "" ""
def e0 : Env := launch0.env 0 0 0
theorem w_frames : about1.frames = Frame.invoking theMethod args0 :: below0 := rfl
set_option maxRecDepth 65536 in
theorem w_args : argsFit about1.vm theMethod args0 = true := by decide +kernel
set_option maxRecDepth 65536 in
theorem w_heap : heapFits about1 = true := by decide +kernel
set_option maxRecDepth 65536 in
theorem w_runnable : about1.curStatus? = some .runnable := by decide +kernel
set_option maxRecDepth 65536 in
theorem w_alone : about1.alone = true := by decide +kernel
set_option maxRecDepth 65536 in
theorem w_named : about1.methodNamed? x = some theMethod := by decide +kernel
set_option maxRecDepth 65536 in
theorem w_hears : about1.hears theMethod below0 = true := by decide +kernel
set_option maxRecDepth 65536 in
theorem w_ripe : about1.ripe theMethod args0 below0 = true := by decide +kernel
theorem w_running : about1.status = .running := rfl
set_option maxRecDepth 65536 in
theorem w_room : about1.hasRoom e0.platform room_1 = true :=
  launch0.hasRoom_least _ room_1 (by decide +kernel) (by decide +kernel) (by decide +kernel) (by decide +kernel) (by decide +kernel) (by decide +kernel)
theorem allAtoms_all (ts : List Jvm.Cond) (a : Array Jvm.Value) (st : Jvm.State) : (allAtoms ts).before a st = ts.all (fun c => c.before a st) := by
  induction ts with
  | nil => rfl
  | cons c t ih =>
    show (Jvm.Cond.and c (allAtoms t)).before a st = _
    rw [Jvm.Cond.before_and, ih, List.all_cons]
def words1 : List Jvm.Cond := Jvm.Cond.code x code maxLocals ret :: tables_1
/-- a 'code' word, met by the world's own term for the bytes: nothing is compared byte by byte -/
theorem code_word {y : MethodName} {bytes : ByteArray} {mx : Nat} {rt : Option FieldType} {a : Array Value} {s : State} {m : MethodId} {meth : Method} {c : Code} (h1 : s.methodNamed? y = some m) (h2 : s.vm.method? m = some meth) (h3 : meth.code = some c) (h4 : c.code = bytes)
    (h5 : (c.maxLocals == mx && c.exceptionTable.isEmpty && decide (c.maxStack ≤ mostOperands) && decide (meth.sig.returnType = rt) && !meth.locks && decide (parseMethodDescriptor y.desc = some meth.sig)) = true) : (Jvm.Cond.code y bytes mx rt).before a s = true := by
  simp only [Bool.and_eq_true, beq_iff_eq, Bool.not_eq_true', decide_eq_true_eq] at h5
  obtain ⟨⟨⟨⟨⟨g1, g2⟩, g3⟩, g4⟩, g5⟩, g6⟩ := h5
  simp [Cond.before, Cond.holds, Cond.value, h1, h2, h3, h4, g1, g2, g3, g4, g5, g6]
def isCode : Jvm.Cond → Bool
  | .code _ _ _ _ => true
  | _ => false
theorem all_split {L : List Jvm.Cond} {P : Jvm.Cond → Bool} (h1 : L.all (fun c => isCode c || P c) = true) (h2 : ∀ c ∈ L.filter isCode, P c = true) : L.all P = true := by
  refine List.all_eq_true.mpr fun c hc => ?_
  have h := List.all_eq_true.mp h1 c hc
  rcases Bool.eq_false_or_eq_true (isCode c) with hi | hi
  · exact h2 c (List.mem_filter.mpr ⟨hc, hi⟩)
  · simpa [hi] using h
set_option maxRecDepth 65536 in
theorem w_c0 : (Jvm.Cond.code x code maxLocals ret).before args0 about1 = true := code_word (m := ⟨1, 1⟩) (meth := k1m1) (c := k1c1) (by decide +kernel) rfl rfl rfl (by decide +kernel)
set_option maxRecDepth 65536 in
theorem w_c1 : (Jvm.Cond.code ({ cls := "com/example/sundry/sundry/ShortestDecimal", name := "unit", desc := "(D)I" } : Jvm.MethodName) prog_9_method_3_code (5 : Nat) (Option.some Jvm.ClassFile.FieldType.int)).before args0 about1 = true := code_word (m := ⟨2, 1⟩) (meth := k2m1) (c := k2c1) (by decide +kernel) rfl rfl rfl (by decide +kernel)
set_option maxRecDepth 65536 in
theorem w_c2 : (Jvm.Cond.code ({ cls := "com/example/sundry/sundry/ShortestDecimal", name := "unit", desc := "(IZ)I" } : Jvm.MethodName) prog_9_method_5_code (2 : Nat) (Option.some Jvm.ClassFile.FieldType.int)).before args0 about1 = true := code_word (m := ⟨2, 3⟩) (meth := k2m3) (c := k2c3) (by decide +kernel) rfl rfl rfl (by decide +kernel)
set_option maxRecDepth 65536 in
theorem w_c3 : (Jvm.Cond.code ({ cls := "com/example/sundry/sundry/ShortestDecimal", name := "floorLog10Pow2", desc := "(I)I" } : Jvm.MethodName) prog_9_method_9_code (1 : Nat) (Option.some Jvm.ClassFile.FieldType.int)).before args0 about1 = true := code_word (m := ⟨2, 4⟩) (meth := k2m4) (c := k2c4) (by decide +kernel) rfl rfl rfl (by decide +kernel)
set_option maxRecDepth 65536 in
theorem w_c4 : (Jvm.Cond.code ({ cls := "com/example/sundry/sundry/ShortestDecimal", name := "closerBelow", desc := "(J)Z" } : Jvm.MethodName) prog_9_method_4_code (2 : Nat) (Option.some Jvm.ClassFile.FieldType.boolean)).before args0 about1 = true := code_word (m := ⟨2, 2⟩) (meth := k2m2) (c := k2c2) (by decide +kernel) rfl rfl rfl (by decide +kernel)
set_option maxRecDepth 65536 in
theorem w_c5 : (Jvm.Cond.code ({ cls := "com/example/sundry/sundry/ShortestDecimalUnitPinLaw", name := "pow10", desc := "(I)J" } : Jvm.MethodName) method_3_code (3 : Nat) (Option.some Jvm.ClassFile.FieldType.long)).before args0 about1 = true := code_word (m := ⟨1, 2⟩) (meth := k1m2) (c := k1c2) (by decide +kernel) rfl rfl rfl (by decide +kernel)
set_option maxRecDepth 65536 in
theorem w_c6 : (Jvm.Cond.code ({ cls := "com/example/sundry/sundry/ShortestDecimal", name := "floorLog10ThreeQuartersPow2", desc := "(I)I" } : Jvm.MethodName) prog_9_method_10_code (1 : Nat) (Option.some Jvm.ClassFile.FieldType.int)).before args0 about1 = true := code_word (m := ⟨2, 5⟩) (meth := k2m5) (c := k2c5) (by decide +kernel) rfl rfl rfl (by decide +kernel)
def codes1 : List Jvm.Cond := [Jvm.Cond.code x code maxLocals ret, Jvm.Cond.code ({ cls := "com/example/sundry/sundry/ShortestDecimal", name := "unit", desc := "(D)I" } : Jvm.MethodName) prog_9_method_3_code (5 : Nat) (Option.some Jvm.ClassFile.FieldType.int), Jvm.Cond.code ({ cls := "com/example/sundry/sundry/ShortestDecimal", name := "unit", desc := "(IZ)I" } : Jvm.MethodName) prog_9_method_5_code (2 : Nat) (Option.some Jvm.ClassFile.FieldType.int), Jvm.Cond.code ({ cls := "com/example/sundry/sundry/ShortestDecimal", name := "floorLog10Pow2", desc := "(I)I" } : Jvm.MethodName) prog_9_method_9_code (1 : Nat) (Option.some Jvm.ClassFile.FieldType.int), Jvm.Cond.code ({ cls := "com/example/sundry/sundry/ShortestDecimal", name := "closerBelow", desc := "(J)Z" } : Jvm.MethodName) prog_9_method_4_code (2 : Nat) (Option.some Jvm.ClassFile.FieldType.boolean), Jvm.Cond.code ({ cls := "com/example/sundry/sundry/ShortestDecimalUnitPinLaw", name := "pow10", desc := "(I)J" } : Jvm.MethodName) method_3_code (3 : Nat) (Option.some Jvm.ClassFile.FieldType.long), Jvm.Cond.code ({ cls := "com/example/sundry/sundry/ShortestDecimal", name := "floorLog10ThreeQuartersPow2", desc := "(I)I" } : Jvm.MethodName) prog_9_method_10_code (1 : Nat) (Option.some Jvm.ClassFile.FieldType.int)]
set_option maxRecDepth 65536 in
theorem codes_eq : words1.filter isCode = codes1 := rfl
theorem w_codes : ∀ c ∈ words1.filter isCode, c.before args0 about1 = true := by
  rw [codes_eq]
  intro c hc
  simp only [codes1, List.mem_cons, List.not_mem_nil, or_false] at hc
  rcases hc with rfl | rfl | rfl | rfl | rfl | rfl | rfl
  · exact w_c0
  · exact w_c1
  · exact w_c2
  · exact w_c3
  · exact w_c4
  · exact w_c5
  · exact w_c6
set_option maxRecDepth 65536 in
theorem w_t1 : (words1.take 24).all (fun c => isCode c || c.before args0 about1) = true := by decide +kernel
set_option maxRecDepth 65536 in
theorem w_t2 : (words1.drop 24).all (fun c => isCode c || c.before args0 about1) = true := by decide +kernel
theorem w_tables : (allAtoms (Jvm.Cond.code x code maxLocals ret :: tables_1)).before args0 about1 = true := by
  rw [allAtoms_all]
  show words1.all (fun c => c.before args0 about1) = true
  refine all_split ?_ w_codes
  rw [← List.take_append_drop 24 words1, List.all_append, w_t1, w_t2]
  rfl
set_option maxRecDepth 65536 in
theorem w_case : (Jvm.Cond.and given_1 narrow_1).before args0 about1 = true := by decide +kernel
theorem w_applies : (headSpec (Jvm.Cond.code x code maxLocals ret :: tables_1) room_1).applies x e0.platform about1 = true :=
  (Spec.applies_iff w_frames).mpr ⟨w_running, w_runnable, w_alone, w_named, w_hears, w_ripe, w_room, w_tables⟩
theorem atStart : AtStart classFile x code maxLocals ret World_1 tables_1 room_1 Calls_1 rest_1 Pre_1 launch0 p0 e0 about1 theMethod args0 below0 :=
  ⟨lists_1, trivial, launch0.admits_env _ _ _, launch0.least_env, fairChoices_fair.cas, fairChoices_fair.clock, w_frames, w_args, w_heap, w_applies, trivial, trivial, w_case⟩
end start1
theorem witness_1 : WitnessClaimed_1 := ⟨start1.p0, start1.e0, start1.about1, start1.theMethod, start1.args0, start1.below0, start1.atStart⟩
end Jvm.Pilot.@@N@@
