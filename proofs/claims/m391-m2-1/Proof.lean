import JvmDerived
import JvmDerived.Pilot.@@N@@Statement
import JvmDerived.Pilot.@@N@@Code
set_option linter.unusedVariables false
set_option linter.unusedSimpArgs false
@@BLOCK:NumsL.lean.txt@@
namespace Jvm.OwnF
open Sem ClassFile Op Lib Jvm.Stand Jvm.Free Jvm.LawKit Jvm.RoadKit Jvm.Free.Fl
section Ret
variable {p : Program} {l : Launch} {e : Env} {R : Room} {s : State} {m : MethodId} {args : Array Value} {below : List Frame} {meth : Method} {c : Code} {T : State} {locs : List Loc} {cells slots : Nat}
theorem retD (X : Stand p l e R s m args below meth c T locs cells slots) (hx : p.tables.exec = Jvm.exec) {pc : Nat} {Ls : Array Slot} {z : UInt64} {rest : List Value} (hret : meth.sig.returnType = some .double) (hd : decode c.code pc = .ok (.dreturn, 1)) {fs : List Frame}
    (hl : ∀ (f : JFrame) (acts : List Action), f.method = m → f.locked = none → f.entered = [] → (doReturn e (T.setTop f) acts (some (.double z))).1 = T.setFrames fs) : Steps p.tables e below (T.setTop (mkF m pc Ls (.double z :: rest))) (T.setFrames fs) :=
  retOut X hx hret rfl (Or.inr (Or.inr (Or.inl ⟨rfl, rfl, z, rfl⟩))) hd hl
theorem retJ (X : Stand p l e R s m args below meth c T locs cells slots) (hx : p.tables.exec = Jvm.exec) {pc : Nat} {Ls : Array Slot} {z : Int64} {rest : List Value} (hret : meth.sig.returnType = some .long) (hd : decode c.code pc = .ok (.lreturn, 1)) {fs : List Frame}
    (hl : ∀ (f : JFrame) (acts : List Action), f.method = m → f.locked = none → f.entered = [] → (doReturn e (T.setTop f) acts (some (.long z))).1 = T.setFrames fs) : Steps p.tables e below (T.setTop (mkF m pc Ls (.long z :: rest))) (T.setFrames fs) :=
  retOut X hx hret rfl (Or.inr (Or.inl ⟨rfl, rfl, z, rfl⟩)) hd hl
theorem retI (X : Stand p l e R s m args below meth c T locs cells slots) (hx : p.tables.exec = Jvm.exec) {pc : Nat} {Ls : Array Slot} {z : Int32} {rest : List Value} (hret : meth.sig.returnType = some .int) (hd : decode c.code pc = .ok (.ireturn, 1)) {fs : List Frame}
    (hl : ∀ (f : JFrame) (acts : List Action), f.method = m → f.locked = none → f.entered = [] → (doReturn e (T.setTop f) acts (some (.int z))).1 = T.setFrames fs) : Steps p.tables e below (T.setTop (mkF m pc Ls (.int z :: rest))) (T.setFrames fs) :=
  retOut X hx hret rfl (Or.inl ⟨rfl, Or.inl rfl, z, rfl⟩) hd hl
theorem retA (X : Stand p l e R s m args below meth c T locs cells slots) (hx : p.tables.exec = Jvm.exec) {pc : Nat} {Ls : Array Slot} {w : Value} {t : FieldType} {rest : List Value} (hret : meth.sig.returnType = some t) (ht : t.isReference = true) (hw : w.isRef = true) (hd : decode c.code pc = .ok (.areturn, 1)) {fs : List Frame}
    (hl : ∀ (f : JFrame) (acts : List Action), f.method = m → f.locked = none → f.entered = [] → (doReturn e (T.setTop f) acts (some w)).1 = T.setFrames fs) : Steps p.tables e below (T.setTop (mkF m pc Ls (w :: rest))) (T.setFrames fs) :=
  retOut X hx hret (by rcases ref_cases hw with rfl | ⟨a, rfl⟩ <;> cases t <;> first | rfl | (cases ht; done)) (Or.inr (Or.inr (Or.inr (Or.inr ⟨rfl, ht, hw⟩)))) hd hl
end Ret
end Jvm.OwnF
namespace Jvm.OwnF
open Jvm.FP.Core
/-- a double's magnitude, in units of 2^-1074 -/
def Zm (a : UInt64) : Nat := zmag b64 (val64 a)
/-- a double's value, in units of 2^-1074 -/
def Zv (a : UInt64) : Int := zval b64 (val64 a)
theorem one64_pow : one64 = 2 ^ 1074 := rfl
theorem fin_form {a : UInt64} (h : DFin a) : ∃ s c q, val64 a = .fin s c q ∧ b64.qmin ≤ q ∧ Zm a = c * 2 ^ (q + 1074).toNat ∧ sgn (val64 a) = s := by
  obtain ⟨s, c, q, e⟩ := h
  have f := val64_fits a
  rw [e] at f
  refine ⟨s, c, q, e, f.2.1, ?_, by rw [e]; rfl⟩
  unfold Zm
  rw [e]
  show c * 2 ^ (q - b64.qmin).toNat = _
  rw [qmin_b64, show q - (-1074) = q + 1074 by omega]
theorem ddiv_form {a b : UInt64} (ha : DFin a) (hb : DFin b) (hz : Zm b ≠ 0) :
    val64 (ddiv a b) = roundRatio b64 (sgn (val64 a) != sgn (val64 b)) (Zm a) (Zm b) 0 := by
  obtain ⟨s, c, q, ea, hq, za, sa⟩ := fin_form ha
  obtain ⟨t, d, r, eb, hr, zb, sb⟩ := fin_form hb
  rw [qmin_b64] at hq hr
  have hd : d ≠ 0 := fun h => hz (by rw [zb, h, Nat.zero_mul])
  rw [val64_ddiv, sa, sb, za, zb, ea, eb]
  show (if d = 0 then _ else roundRatio b64 (s != t) c d (q - r)) = _
  rw [if_neg hd]
  refine roundRatio_congr (Nat.pos_of_ne_zero hd) (Nat.mul_pos (Nat.pos_of_ne_zero hd) (Nat.two_pow_pos _)) ?_
  have e1 : (q - r - 0).toNat + (r + 1074).toNat = (q + 1074).toNat + (0 - (q - r)).toNat := by omega
  calc c * (d * 2 ^ (r + 1074).toNat) * 2 ^ (q - r - 0).toNat = c * d * (2 ^ ((q - r - 0).toNat + (r + 1074).toNat)) := by
        rw [Nat.pow_add]; simp only [Nat.mul_assoc, Nat.mul_comm, Nat.mul_left_comm]
    _ = c * d * (2 ^ ((q + 1074).toNat + (0 - (q - r)).toNat)) := by rw [e1]
    _ = c * 2 ^ (q + 1074).toNat * d * 2 ^ (0 - (q - r)).toNat := by
        rw [Nat.pow_add]; simp only [Nat.mul_assoc, Nat.mul_comm, Nat.mul_left_comm]
theorem inU (A : Nat) : inUnits A 0 (-1074) = A * one64 := rfl
theorem ddiv_ne_nan {a b : UInt64} (ha : DFin a) (hb : DFin b) (hz : Zm b ≠ 0) : val64 (ddiv a b) ≠ .nan := by
  rw [ddiv_form ha hb hz]; exact roundRatio_ne_nan _ _ _ _ _
theorem ddiv_sgn {a b : UInt64} (ha : DFin a) (hb : DFin b) (hz : Zm b ≠ 0) : sgn (val64 (ddiv a b)) = (sgn (val64 a) != sgn (val64 b)) := by
  rw [ddiv_form ha hb hz]; exact sgn_roundRatio _ _ _ _ _
theorem ddiv_le {a b v : UInt64} (ha : DFin a) (hb : DFin b) (hz : Zm b ≠ 0) (hv : val64 v ≠ .nan) (h : Zm a * one64 ≤ Zm v * Zm b) : Zm (ddiv a b) ≤ Zm v := by
  unfold Zm
  rw [ddiv_form ha hb hz]
  refine zmag_roundRatio_le good_b64 (Nat.pos_of_ne_zero hz) (val64_fits v) hv (e0 := -1074) (by decide) (by decide) ?_
  rw [inU, show (b64.qmin - -1074).toNat = 0 by decide, Nat.pow_zero, Nat.mul_one]
  exact h
theorem ddiv_ge {a b v : UInt64} (ha : DFin a) (hb : DFin b) (hz : Zm b ≠ 0) (h : Zm v * Zm b ≤ Zm a * one64) : Zm v ≤ Zm (ddiv a b) := by
  show _ ≤ zmag b64 _
  rw [ddiv_form ha hb hz]
  refine zmag_roundRatio_ge good_b64 (Nat.pos_of_ne_zero hz) (val64_fits v) (e0 := -1074) (by decide) (by decide) ?_
  rw [inU, show (b64.qmin - -1074).toNat = 0 by decide, Nat.pow_zero, Nat.mul_one]
  exact h
theorem fin_iff_Zm {a : UInt64} (h : val64 a ≠ .nan) : DFin a ↔ Zm a < Zm 9218868437227405312 := by
  have hi : val64 9218868437227405312 = .inf false := by decide +kernel
  constructor
  · intro hf
    have := hf.zval_lt
    unfold Zm
    rw [hi]
    exact this
  · intro hl
    cases e : val64 a with
    | nan => exact absurd e h
    | inf s => unfold Zm at hl; rw [hi, e] at hl; exact absurd hl (Nat.lt_irrefl _)
    | fin s c q => exact ⟨s, c, q, e⟩
theorem fin_of_le {a v : UInt64} (h : val64 a ≠ .nan) (hv : DFin v) (hl : Zm a ≤ Zm v) : DFin a :=
  (fin_iff_Zm h).mpr (Nat.lt_of_le_of_lt hl ((fin_iff_Zm hv.ne_nan).mp hv))
theorem Zv_pos {a : UInt64} (hs : sgn (val64 a) = false) : Zv a = (Zm a : Int) := by
  unfold Zv Zm zval signed
  rw [hs]; simp
theorem Zv_neg {a : UInt64} (hs : sgn (val64 a) = true) : Zv a = -(Zm a : Int) := by
  unfold Zv Zm zval signed
  rw [hs]; simp
theorem cmp_Zv {a b : UInt64} (ha : val64 a ≠ .nan) (hb : val64 b ≠ .nan) : dcmp a b = some (compare (Zv a) (Zv b)) := dcmp_zval ha hb
theorem Zm_DInt {i : Int} {a : UInt64} (h : DInt i a) : Zm a = i.natAbs * one64 := by
  have h1 := DInt_zval h
  have h2 : (zval b64 (val64 a)).natAbs = Zm a := by unfold zval Zm; exact natAbs_signed _ _
  rw [← h2, h1, Int.natAbs_mul]; rfl
theorem DInt_fin {i : Int} {a : UInt64} (h : DInt i a) : DFin a := by
  unfold DInt at h
  cases e : val64 a with
  | nan => rw [e] at h; exact h.elim
  | inf s => rw [e] at h; exact h.elim
  | fin s c q => exact ⟨s, c, q, e⟩
theorem DInt_sgn {i : Int} {a : UInt64} (h : DInt i a) (hi : i ≠ 0) : sgn (val64 a) = decide (i < 0) := by
  obtain ⟨s, c, q, e⟩ := DInt_fin h
  unfold DInt at h
  rw [e] at h ⊢
  exact whole_sign h hi
/-- equal magnitudes, equal signs, nonzero: the same double -/
theorem eq_of_Zm {a b : UInt64} (ha : val64 a ≠ .nan) (hb : val64 b ≠ .nan) (hs : sgn (val64 a) = sgn (val64 b)) (hm : Zm a = Zm b) (hz : Zm b ≠ 0) : a = b := by
  refine eq_bits (fun hzz => hz ?_) ?_
  · obtain ⟨s, q, e⟩ := hzz
    unfold Zm; rw [e]; exact Nat.zero_mul _
  · rw [cmp_Zv ha hb]
    have : Zv a = Zv b := by unfold Zv zval; rw [hs]; show signed _ (Zm a) = signed _ (Zm b); rw [hm]
    rw [this, compare_self_int]
theorem pos_gt_zero {a : UInt64} (ha : val64 a ≠ .nan) (hs : sgn (val64 a) = false) (hm : Zm a ≠ 0) : dcmp a 0 = some .gt := by
  rw [cmp_Zv ha (by rw [val64_zero]; nofun), Zv_pos hs, show Zv 0 = 0 from zval64_zero, Option.some.injEq, compare_gt_iff]
  omega
theorem cmp_pos {a b : UInt64} (ha : val64 a ≠ .nan) (hb : val64 b ≠ .nan) (hsa : sgn (val64 a) = false) (hsb : sgn (val64 b) = false) : dcmp a b = some (compare (Zm a : Int) (Zm b : Int)) := by
  rw [cmp_Zv ha hb, Zv_pos hsa, Zv_pos hsb]
theorem le_pos {a b : UInt64} (ha : val64 a ≠ .nan) (hb : val64 b ≠ .nan) (hsa : sgn (val64 a) = false) (hsb : sgn (val64 b) = false) (h : Zm a ≤ Zm b) : dcmp a b = some .lt ∨ dcmp a b = some .eq := by
  rw [cmp_pos ha hb hsa hsb, Option.some.injEq, Option.some.injEq, compare_lt_iff, compare_eq_iff]
  omega
theorem lt_pos {a b : UInt64} (ha : val64 a ≠ .nan) (hb : val64 b ≠ .nan) (hsa : sgn (val64 a) = false) (hsb : sgn (val64 b) = false) (h : Zm a < Zm b) : dcmp a b = some .lt := by
  rw [cmp_pos ha hb hsa hsb, Option.some.injEq, compare_lt_iff]
  omega
theorem dadd_le {a b v : UInt64} (ha : DFin a) (hb : DFin b) (hv : val64 v ≠ .nan) (h : Zv a + Zv b ≤ Zv v) : Zv (dadd a b) ≤ Zv v := by
  unfold Zv; rw [val64_dadd]; exact sum_le good_b64 ha hb (val64_fits a) (val64_fits b) (val64_fits v) hv h
theorem dadd_ge {a b v : UInt64} (ha : DFin a) (hb : DFin b) (hv : val64 v ≠ .nan) (h : Zv v ≤ Zv a + Zv b) : Zv v ≤ Zv (dadd a b) := by
  unfold Zv; rw [val64_dadd]; exact sum_ge good_b64 ha hb (val64_fits a) (val64_fits b) (val64_fits v) hv h
theorem fin_negate {a : UInt64} (h : DFin a) : ∃ s c q, negate (val64 a) = .fin s c q := by
  obtain ⟨s, c, q, e⟩ := h; rw [e]; exact ⟨_, _, _, rfl⟩
theorem dsub_le {a b v : UInt64} (ha : DFin a) (hb : DFin b) (hv : val64 v ≠ .nan) (h : Zv a - Zv b ≤ Zv v) : Zv (dsub a b) ≤ Zv v := by
  unfold Zv; rw [val64_dsub]
  refine sum_le good_b64 ha (fin_negate hb) (val64_fits a) (negate_fits (val64_fits b)) (val64_fits v) hv ?_
  rw [zval_negate]; unfold Zv at h; omega
theorem dsub_ge {a b v : UInt64} (ha : DFin a) (hb : DFin b) (hv : val64 v ≠ .nan) (h : Zv v ≤ Zv a - Zv b) : Zv v ≤ Zv (dsub a b) := by
  unfold Zv; rw [val64_dsub]
  refine sum_ge good_b64 ha (fin_negate hb) (val64_fits a) (negate_fits (val64_fits b)) (val64_fits v) hv ?_
  rw [zval_negate]; unfold Zv at h; omega
theorem dadd_ne_nan {a b : UInt64} (ha : DFin a) (hb : DFin b) : val64 (dadd a b) ≠ .nan := (notNaN_iff _).mp (dadd_out ha.notNaN hb)
theorem dsub_ne_nan {a b : UInt64} (ha : DFin a) (hb : DFin b) : val64 (dsub a b) ≠ .nan := (notNaN_iff _).mp (dsub_out ha.notNaN hb)
theorem dmul_ne_nan {a b : UInt64} (ha : DFin a) (hb : DFin b) : val64 (dmul a b) ≠ .nan := (notNaN_iff _).mp (dmul_out ha hb)
theorem dmul_form {a b : UInt64} (ha : DFin a) (hb : DFin b) : val64 (dmul a b) = roundRatio b64 (sgn (val64 a) != sgn (val64 b)) (Zm a * Zm b) 1 (-2148) := by
  obtain ⟨s, c, q, ea, hq, za, sa⟩ := fin_form ha
  obtain ⟨t, d, r, eb, hr, zb, sb⟩ := fin_form hb
  rw [qmin_b64] at hq hr
  rw [val64_dmul, sa, sb, za, zb, ea, eb]
  show roundRatio b64 (s != t) (c * d) 1 (q + r) = _
  refine roundRatio_congr (by decide) (by decide) ?_
  rw [show (-2148 - (q + r)).toNat = 0 by omega, show (q + r - -2148).toNat = (q + 1074).toNat + (r + 1074).toNat by omega, Nat.pow_add]
  simp only [Nat.mul_assoc, Nat.mul_comm, Nat.mul_left_comm, Nat.pow_zero, Nat.mul_one, Nat.one_mul]
theorem dmul_sgn {a b : UInt64} (ha : DFin a) (hb : DFin b) : sgn (val64 (dmul a b)) = (sgn (val64 a) != sgn (val64 b)) := by
  rw [dmul_form ha hb]; exact sgn_roundRatio _ _ _ _ _
theorem inU2 (A : Nat) : inUnits A (-2148) (-2148) = A := by unfold inUnits; rw [Int.sub_self]; exact Nat.mul_one _
theorem dmul_le {a b v : UInt64} (ha : DFin a) (hb : DFin b) (hv : val64 v ≠ .nan) (h : Zm a * Zm b ≤ Zm v * one64) : Zm (dmul a b) ≤ Zm v := by
  unfold Zm
  rw [dmul_form ha hb]
  refine zmag_roundRatio_le good_b64 (by decide) (val64_fits v) hv (e0 := -2148) (by decide) (by decide) ?_
  rw [inU2, Nat.mul_one, show (b64.qmin - -2148).toNat = 1074 by decide]
  exact h
theorem dmul_ge {a b v : UInt64} (ha : DFin a) (hb : DFin b) (h : Zm v * one64 ≤ Zm a * Zm b) : Zm v ≤ Zm (dmul a b) := by
  show _ ≤ zmag b64 _
  rw [dmul_form ha hb]
  refine zmag_roundRatio_ge good_b64 (by decide) (val64_fits v) (e0 := -2148) (by decide) (by decide) ?_
  rw [inU2, Nat.mul_one, show (b64.qmin - -2148).toNat = 1074 by decide]
  exact h
theorem noNaN {a : UInt64} (h : val64 a ≠ .nan) : Jvm.Free.Fl.NoNaN64 a := Jvm.Free.Fl.val64_no.mpr h
/-- powers of two up to 2^62, as a shift leaves them -/
theorem pow_l2d : ∀ k : Fin 63, val64 (l2d ((1 : Int64) <<< ((Int32.ofNat k.val) &&& 0x3f).toInt64)) = .fin false (2 ^ 52) ((k.val : Int) - 52) := by decide +kernel
theorem i32_of_lt {x : Int32} {n : Nat} (h0 : 0 ≤ x.toInt) (h : x.toInt < n) : ∃ k : Nat, k < n ∧ x = Int32.ofNat k := by
  refine ⟨x.toInt.toNat, by omega, ?_⟩
  apply Int32.toInt_inj.mp
  have := x.toInt_lt
  rw [Int32.toInt_ofNat_of_lt (by omega)]
  omega
theorem shl_l2d {x : Int32} (h0 : 0 ≤ x.toInt) (h : x.toInt < 63) : ∃ k : Nat, k < 63 ∧ x.toInt = k ∧ DFin (l2d ((1 : Int64) <<< (x &&& 0x3f).toInt64)) ∧ sgn (val64 (l2d ((1 : Int64) <<< (x &&& 0x3f).toInt64))) = false ∧ Zm (l2d ((1 : Int64) <<< (x &&& 0x3f).toInt64)) = 2 ^ k * one64 := by
  obtain ⟨k, hk, rfl⟩ := i32_of_lt (n := 63) h0 (by omega)
  have hp := pow_l2d ⟨k, hk⟩
  have hv : (Int32.ofNat k).toInt = k := Int32.toInt_ofNat_of_lt (by omega)
  refine ⟨k, hk, hv, ⟨_, _, _, hp⟩, by rw [hp]; rfl, ?_⟩
  unfold Zm
  rw [hp]
  show 2 ^ 52 * 2 ^ ((k : Int) - 52 - b64.qmin).toNat = _
  rw [qmin_b64, one64_pow, ← Nat.pow_add, ← Nat.pow_add]
  congr 1
  omega
theorem irem_range {x n : Int32} (hx : 0 ≤ x.toInt) (hn : 0 < n.toInt) : 0 ≤ (x - x / n * n).toInt ∧ (x - x / n * n).toInt < n.toInt := by
  have h1 : x - x / n * n = x % n := irem_eq_mod x n
  rw [h1, Int32.toInt_mod]
  exact ⟨Int.tmod_nonneg _ hx, by have := Int.tmod_lt_of_pos x.toInt hn; omega⟩
theorem and_bounds (x : Int32) {m : Int32} (hm : 0 ≤ m.toInt) : 0 ≤ (x &&& m).toInt ∧ (x &&& m).toInt ≤ m.toInt := by
  have h1 : (x &&& m).toInt = (x.toBitVec &&& m.toBitVec).toInt := rfl
  have h2 : m.toInt = m.toBitVec.toInt := rfl
  rw [h2, BitVec.toInt_eq_toNat_cond] at hm
  rw [h1, h2, BitVec.toInt_eq_toNat_cond, BitVec.toInt_eq_toNat_cond, BitVec.toNat_and]
  have h3 := Nat.and_le_right (n := x.toBitVec.toNat) (m := m.toBitVec.toNat)
  have h4 := m.toBitVec.isLt
  split at hm
  · rw [if_pos (by omega), if_pos (by omega)]; omega
  · omega
theorem and_range {x : Int32} : 0 ≤ (x &&& 2147483647).toInt := (and_bounds x (by decide)).1
theorem Zm_one : Zm 4607182418800017408 = one64 := by unfold Zm; decide +kernel
theorem fin_one : DFin 4607182418800017408 := ⟨false, 2 ^ 52, -52, by decide +kernel⟩
theorem sgn_one : sgn (val64 4607182418800017408) = false := by decide +kernel
theorem pow_split (m n : Nat) (h : m + n = 1074) : 2 ^ m * 2 ^ n = one64 := by rw [← Nat.pow_add, h]; rfl
theorem i2d_fin' (x : Int32) : DFin (i2d x) := DInt_fin (i2d_int x)
theorem i2d_Zm (x : Int32) : Zm (i2d x) = x.toInt.natAbs * one64 := Zm_DInt (i2d_int x)
theorem i2d_sgn {x : Int32} (h : 0 < x.toInt) : sgn (val64 (i2d x)) = false := by rw [DInt_sgn (i2d_int x) (by omega)]; simp; omega
theorem Zm_ne {a : UInt64} {n : Nat} (h : Zm a = n * one64) (hn : n ≠ 0) : Zm a ≠ 0 := by
  rw [h]; exact Nat.mul_ne_zero hn (by have := one64_pos; omega)
theorem if_l_gt {cd : Jvm.ClassFile.Cond} {a b : UInt64} {r : Bool} (h : Jvm.FP.dcmp a b = some .gt) (hr : Jvm.Op.ifCond.holds cd 1 = r) : Jvm.Op.ifCond.holds cd (Jvm.FP.cmpInt (-1) (Jvm.FP.dcmp a b)) = r := by rw [h]; exact hr
theorem if_l_eq {cd : Jvm.ClassFile.Cond} {a b : UInt64} {r : Bool} (h : Jvm.FP.dcmp a b = some .eq) (hr : Jvm.Op.ifCond.holds cd 0 = r) : Jvm.Op.ifCond.holds cd (Jvm.FP.cmpInt (-1) (Jvm.FP.dcmp a b)) = r := by rw [h]; exact hr
theorem if_l_lt {cd : Jvm.ClassFile.Cond} {a b : UInt64} {r : Bool} (h : Jvm.FP.dcmp a b = some .lt) (hr : Jvm.Op.ifCond.holds cd (-1) = r) : Jvm.Op.ifCond.holds cd (Jvm.FP.cmpInt (-1) (Jvm.FP.dcmp a b)) = r := by rw [h]; exact hr
theorem if_g_gt {cd : Jvm.ClassFile.Cond} {a b : UInt64} {r : Bool} (h : Jvm.FP.dcmp a b = some .gt) (hr : Jvm.Op.ifCond.holds cd 1 = r) : Jvm.Op.ifCond.holds cd (Jvm.FP.cmpInt 1 (Jvm.FP.dcmp a b)) = r := by rw [h]; exact hr
theorem if_g_eq {cd : Jvm.ClassFile.Cond} {a b : UInt64} {r : Bool} (h : Jvm.FP.dcmp a b = some .eq) (hr : Jvm.Op.ifCond.holds cd 0 = r) : Jvm.Op.ifCond.holds cd (Jvm.FP.cmpInt 1 (Jvm.FP.dcmp a b)) = r := by rw [h]; exact hr
theorem if_g_lt {cd : Jvm.ClassFile.Cond} {a b : UInt64} {r : Bool} (h : Jvm.FP.dcmp a b = some .lt) (hr : Jvm.Op.ifCond.holds cd (-1) = r) : Jvm.Op.ifCond.holds cd (Jvm.FP.cmpInt 1 (Jvm.FP.dcmp a b)) = r := by rw [h]; exact hr
theorem cmpl_gt {a b : UInt64} (h : Jvm.FP.dcmp a b = some .gt) : Jvm.FP.cmpInt (-1) (Jvm.FP.dcmp a b) = 1 := by rw [h]; rfl
theorem cmpg_gt {a b : UInt64} (h : Jvm.FP.dcmp a b = some .gt) : Jvm.FP.cmpInt 1 (Jvm.FP.dcmp a b) = 1 := by rw [h]; rfl
theorem cmpl_lt {a b : UInt64} (h : Jvm.FP.dcmp a b = some .lt) : Jvm.FP.cmpInt (-1) (Jvm.FP.dcmp a b) = -1 := by rw [h]; rfl
theorem cmpg_lt {a b : UInt64} (h : Jvm.FP.dcmp a b = some .lt) : Jvm.FP.cmpInt 1 (Jvm.FP.dcmp a b) = -1 := by rw [h]; rfl
theorem cmpl_eq {a b : UInt64} (h : Jvm.FP.dcmp a b = some .eq) : Jvm.FP.cmpInt (-1) (Jvm.FP.dcmp a b) = 0 := by rw [h]; rfl
theorem cmpg_eq {a b : UInt64} (h : Jvm.FP.dcmp a b = some .eq) : Jvm.FP.cmpInt 1 (Jvm.FP.dcmp a b) = 0 := by rw [h]; rfl
end Jvm.OwnF
namespace Jvm.Pilot.@@N@@
open Jvm Jvm.ClassFile Sem Op Lib Jvm.Free Jvm.Free.Fl Jvm.Stand Jvm.LawKit Jvm.RoadKit Bundle Jvm.Pilot.@@N@@.Jvm.D
def QP (r : Option Value) (h0 : Heap) (n0 : Nat) (v : Option Value) (h : Heap) (L : List Loc) : Prop := v = r ∧ Fr n0 L ∧ h = h0
def QL (n0 : Nat) (v : Option Value) (h : Heap) (L : List Loc) : Prop := v = some (.int 1) ∧ Fr n0 L
theorem d2_0 : decode jdk_29_method_66_code 0 = .ok (.lload_n 0, 1) := by decide +kernel
theorem d2_1 : decode jdk_29_method_66_code 1 = .ok (.lload_n 2, 1) := by decide +kernel
theorem d2_2 : decode jdk_29_method_66_code 2 = .ok (.lcmp, 1) := by decide +kernel
theorem d2_3 : decode jdk_29_method_66_code 3 = .ok (.ifCond .lt 7, 3) := by decide +kernel
theorem d2_10 : decode jdk_29_method_66_code 10 = .ok (.lload_n 2, 1) := by decide +kernel
theorem d2_11 : decode jdk_29_method_66_code 11 = .ok (.lreturn, 1) := by decide +kernel
theorem ef_rmMt (m : MethodId) (x0 : Int64) (x1 : Int64) : entryFrame m #[(.long x0), (.long x1)] 4 = mkF m 0 #[.val (.long x0), .second, .val (.long x1), .second] [] := by first | (simp [entryFrame, mkF, argsToLocals, Value.category]; done) | rfl
set_option maxRecDepth 65536 in
set_option maxHeartbeats 40000000 in
theorem rmMt (l : Launch) (Z : State) (a0 : Array Value) (hw : ∀ d ∈ tables_1, d.before a0 Z = true) (ws : List Jvm.Cond)  (q0 : Int64) (q1 : Int64) (h0 : Heap) (n0 : Nat) (Z0 : n0 ≤ h0.size) 
    (b3 : ifCond.holds .lt (if q0 > q1 then 1 else if q0 = q1 then 0 else -1) = true) :
    MetFree l (⟨"java/lang/Math", "max", "(JJ)J"⟩ : MethodName) (head1 (Jvm.Cond.code (⟨"java/lang/Math", "max", "(JJ)J"⟩ : MethodName) jdk_29_method_66_code 4 (some .long) :: ws) ({ frames := 0, cells := 0, slots := 0, locals := 0 } : Room)) (fun a U => a = #[(.long q0), (.long q1)] ∧ Z.Warmed39 U.vm ∧ U.heap = h0) (fun _ _ _ _ _ => True) (fun _ U o U' => ∃ v L, o = .returned v ∧ QP (some (.long q1)) h0 n0 v U'.heap L ∧ FrameEnd U o U' L ({ frames := 0, cells := 0, slots := 0, locals := 0 } : Room).cells ({ frames := 0, cells := 0, slots := 0, locals := 0 } : Room).slots) := by
  refine MetFree.of_bodySF (by decide +kernel) hisR ?_
  intro p e s m args below meth c s₁ Bd hml0 hP hK
  obtain ⟨rfl, hZ, hh⟩ := hP
  have hx := Bd.exec
  have hby := Bd.bytes
  have hml : c.maxLocals = 4 := hml0
  have hown : s.vm.findClass "java/lang/Math" = some m.cls := findClass_of_methodNamed Bd.named
  have hnm := (name_of_methodNamed Bd.named Bd.method).1
  have X0 : Stand p l e ({ frames := 0, cells := 0, slots := 0, locals := 0 } : Room) s m #[(.long q0), (.long q1)] below meth c s₁ [] 0 0 := Stand.of_body Bd
  have e0 : s₁.heap = h0 := by rw [← hh, Bd.state]; rfl
  have N0 := Fr.nil n0
  have pre0 : ∀ t, Steps p.tables e below (s₁.setTop (mkF m 0 #[.val (.long q0), .second, .val (.long q1), .second] [])) t → Steps p.tables e below (s₁.setTop (entryFrame m #[(.long q0), (.long q1)] 4)) t := fun t k => castTop (ef_rmMt m q0 q1) k
  obtain ⟨fs, hr, hrun, hended, hW, hsame⟩ := X0.leave (v := some (.long q1)) (fun h => by rw [Bd.returns] at h; cases h)
  refine ⟨_, _, pre0 _ ?_, hrun, hended, _, _, rfl, ?_, ⟨_, rfl⟩, hW, hsame.mono (Nat.le_of_ble_eq_true rfl) (Nat.le_of_ble_eq_true rfl)⟩
  · show Steps p.tables e below (s₁.setTop (mkF m 0 #[.val (.long q0), .second, .val (.long q1), .second] [])) _
    refine XS.lloadN X0.here hx rfl (hb hby d2_0) rfl ?_
    show Steps p.tables e below (s₁.setTop (mkF m 1 #[.val (.long q0), .second, .val (.long q1), .second] [(.long q0)])) _
    refine XS.lloadN X0.here hx rfl (hb hby d2_1) rfl ?_
    show Steps p.tables e below (s₁.setTop (mkF m 2 #[.val (.long q0), .second, .val (.long q1), .second] [(.long q1), (.long q0)])) _
    refine XS.lcmp X0.here hx rfl (hb hby d2_2) rfl ?_
    show Steps p.tables e below (s₁.setTop (mkF m 3 #[.val (.long q0), .second, .val (.long q1), .second] [(.int (if q0 > q1 then 1 else if q0 = q1 then 0 else -1))])) _
    refine XS.ifYes X0.here hx rfl (pc0 := 3) (pc' := 10) rfl (hb hby d2_3) rfl b3 (by decide) (by decide) ?_
    show Steps p.tables e below (s₁.setTop (mkF m 10 #[.val (.long q0), .second, .val (.long q1), .second] [])) _
    refine XS.lloadN X0.here hx rfl (hb hby d2_10) rfl ?_
    show Steps p.tables e below (s₁.setTop (mkF m 11 #[.val (.long q0), .second, .val (.long q1), .second] [(.long q1)])) _
    exact OwnF.retJ X0 hx Bd.returns (hb hby d2_11) hr
  · show QP (some (.long q1)) h0 n0 _ s₁.heap _
    rw [e0]
    exact ⟨rfl, N0, rfl⟩
theorem d2_6 : decode jdk_29_method_66_code 6 = .ok (.lload_n 0, 1) := by decide +kernel
theorem d2_7 : decode jdk_29_method_66_code 7 = .ok (.goto 4, 3) := by decide +kernel
theorem ef_rmMf (m : MethodId) (x0 : Int64) (x1 : Int64) : entryFrame m #[(.long x0), (.long x1)] 4 = mkF m 0 #[.val (.long x0), .second, .val (.long x1), .second] [] := by first | (simp [entryFrame, mkF, argsToLocals, Value.category]; done) | rfl
set_option maxRecDepth 65536 in
set_option maxHeartbeats 40000000 in
theorem rmMf (l : Launch) (Z : State) (a0 : Array Value) (hw : ∀ d ∈ tables_1, d.before a0 Z = true) (ws : List Jvm.Cond)  (q0 : Int64) (q1 : Int64) (h0 : Heap) (n0 : Nat) (Z0 : n0 ≤ h0.size) 
    (b3 : ifCond.holds .lt (if q0 > q1 then 1 else if q0 = q1 then 0 else -1) = false) :
    MetFree l (⟨"java/lang/Math", "max", "(JJ)J"⟩ : MethodName) (head1 (Jvm.Cond.code (⟨"java/lang/Math", "max", "(JJ)J"⟩ : MethodName) jdk_29_method_66_code 4 (some .long) :: ws) ({ frames := 0, cells := 0, slots := 0, locals := 0 } : Room)) (fun a U => a = #[(.long q0), (.long q1)] ∧ Z.Warmed39 U.vm ∧ U.heap = h0) (fun _ _ _ _ _ => True) (fun _ U o U' => ∃ v L, o = .returned v ∧ QP (some (.long q0)) h0 n0 v U'.heap L ∧ FrameEnd U o U' L ({ frames := 0, cells := 0, slots := 0, locals := 0 } : Room).cells ({ frames := 0, cells := 0, slots := 0, locals := 0 } : Room).slots) := by
  refine MetFree.of_bodySF (by decide +kernel) hisR ?_
  intro p e s m args below meth c s₁ Bd hml0 hP hK
  obtain ⟨rfl, hZ, hh⟩ := hP
  have hx := Bd.exec
  have hby := Bd.bytes
  have hml : c.maxLocals = 4 := hml0
  have hown : s.vm.findClass "java/lang/Math" = some m.cls := findClass_of_methodNamed Bd.named
  have hnm := (name_of_methodNamed Bd.named Bd.method).1
  have X0 : Stand p l e ({ frames := 0, cells := 0, slots := 0, locals := 0 } : Room) s m #[(.long q0), (.long q1)] below meth c s₁ [] 0 0 := Stand.of_body Bd
  have e0 : s₁.heap = h0 := by rw [← hh, Bd.state]; rfl
  have N0 := Fr.nil n0
  have pre0 : ∀ t, Steps p.tables e below (s₁.setTop (mkF m 0 #[.val (.long q0), .second, .val (.long q1), .second] [])) t → Steps p.tables e below (s₁.setTop (entryFrame m #[(.long q0), (.long q1)] 4)) t := fun t k => castTop (ef_rmMf m q0 q1) k
  obtain ⟨fs, hr, hrun, hended, hW, hsame⟩ := X0.leave (v := some (.long q0)) (fun h => by rw [Bd.returns] at h; cases h)
  refine ⟨_, _, pre0 _ ?_, hrun, hended, _, _, rfl, ?_, ⟨_, rfl⟩, hW, hsame.mono (Nat.le_of_ble_eq_true rfl) (Nat.le_of_ble_eq_true rfl)⟩
  · show Steps p.tables e below (s₁.setTop (mkF m 0 #[.val (.long q0), .second, .val (.long q1), .second] [])) _
    refine XS.lloadN X0.here hx rfl (hb hby d2_0) rfl ?_
    show Steps p.tables e below (s₁.setTop (mkF m 1 #[.val (.long q0), .second, .val (.long q1), .second] [(.long q0)])) _
    refine XS.lloadN X0.here hx rfl (hb hby d2_1) rfl ?_
    show Steps p.tables e below (s₁.setTop (mkF m 2 #[.val (.long q0), .second, .val (.long q1), .second] [(.long q1), (.long q0)])) _
    refine XS.lcmp X0.here hx rfl (hb hby d2_2) rfl ?_
    show Steps p.tables e below (s₁.setTop (mkF m 3 #[.val (.long q0), .second, .val (.long q1), .second] [(.int (if q0 > q1 then 1 else if q0 = q1 then 0 else -1))])) _
    refine XS.ifNo X0.here hx rfl (hb hby d2_3) rfl b3 ?_
    show Steps p.tables e below (s₁.setTop (mkF m 6 #[.val (.long q0), .second, .val (.long q1), .second] [])) _
    refine XS.lloadN X0.here hx rfl (hb hby d2_6) rfl ?_
    show Steps p.tables e below (s₁.setTop (mkF m 7 #[.val (.long q0), .second, .val (.long q1), .second] [(.long q0)])) _
    refine XS.goto X0.here hx rfl (pc0 := 7) (pc' := 11) rfl (hb hby d2_7) (by decide) (by decide) ?_
    show Steps p.tables e below (s₁.setTop (mkF m 11 #[.val (.long q0), .second, .val (.long q1), .second] [(.long q0)])) _
    exact OwnF.retJ X0 hx Bd.returns (hb hby d2_11) hr
  · show QP (some (.long q0)) h0 n0 _ s₁.heap _
    rw [e0]
    exact ⟨rfl, N0, rfl⟩
def own_max (a b : Int64) : Int64 := if a < b then b else a
theorem own_lcmp_lt {a b : Int64} (h : a < b) : ifCond.holds .lt (if a > b then 1 else if a = b then 0 else -1) = true := by
  have h1 : ¬ a > b := by rw [gt_iff_lt]; intro h2; rw [Int64.lt_iff_toInt_lt] at h h2; omega
  have h2 : ¬ a = b := fun e => by rw [e, Int64.lt_iff_toInt_lt] at h; omega
  rw [if_neg h1, if_neg h2]; decide
theorem own_lcmp_ge {a b : Int64} (h : ¬ a < b) : ifCond.holds .lt (if a > b then 1 else if a = b then 0 else -1) = false := by
  by_cases h1 : a > b
  · rw [if_pos h1]; decide
  · have h2 : a = b := by
      rw [gt_iff_lt, Int64.lt_iff_toInt_lt] at h1
      rw [Int64.lt_iff_toInt_lt] at h
      exact Int64.toInt_inj.mp (by omega)
    rw [if_neg h1, if_pos h2]; decide
theorem rmM (l : Launch) (Z : State) (a0 : Array Value) (hw : ∀ d ∈ tables_1, d.before a0 Z = true) (ws : List Jvm.Cond) (q0 q1 : Int64) (h0 : Heap) (n0 : Nat) (Z0 : n0 ≤ h0.size) :
    MetFree l (⟨"java/lang/Math", "max", "(JJ)J"⟩ : MethodName) (head1 (Jvm.Cond.code (⟨"java/lang/Math", "max", "(JJ)J"⟩ : MethodName) jdk_29_method_66_code 4 (some .long) :: ws) ({ frames := 0, cells := 0, slots := 0, locals := 0 } : Room)) (fun a U => a = #[(.long q0), (.long q1)] ∧ Z.Warmed39 U.vm ∧ U.heap = h0) (fun _ _ _ _ _ => True) (fun _ U o U' => ∃ v L, o = .returned v ∧ QP (some (.long (own_max q0 q1))) h0 n0 v U'.heap L ∧ FrameEnd U o U' L ({ frames := 0, cells := 0, slots := 0, locals := 0 } : Room).cells ({ frames := 0, cells := 0, slots := 0, locals := 0 } : Room).slots) := by
  unfold own_max
  by_cases h : q0 < q1
  · rw [if_pos h]; exact rmMt l Z a0 hw ws q0 q1 h0 n0 Z0 (own_lcmp_lt h)
  · rw [if_neg h]; exact rmMf l Z a0 hw ws q0 q1 h0 n0 Z0 (own_lcmp_ge h)
theorem d1_0 : decode prog_17_method_3_code 0 = .ok (.lconst 0, 1) := by decide +kernel
theorem d1_1 : decode prog_17_method_3_code 1 = .ok (.lload_n 2, 1) := by decide +kernel
theorem d1_2 : decode prog_17_method_3_code 2 = .ok (.lload_n 0, 1) := by decide +kernel
theorem d1_3 : decode prog_17_method_3_code 3 = .ok (.lsub, 1) := by decide +kernel
theorem pd_0 : parseMethodDescriptor "(JJ)J" = some ⟨[.long, .long], some .long⟩ := by decide +kernel
theorem d1_4 : decode prog_17_method_3_code 4 = .ok (.invokestatic 27, 3) := by decide +kernel
theorem d1_7 : decode prog_17_method_3_code 7 = .ok (.l2d, 1) := by decide +kernel
theorem d1_8 : decode prog_17_method_3_code 8 = .ok (.ldc2_w 33, 3) := by decide +kernel
theorem d1_11 : decode prog_17_method_3_code 11 = .ok (.ddiv, 1) := by decide +kernel
theorem d1_12 : decode prog_17_method_3_code 12 = .ok (.dreturn, 1) := by decide +kernel
def own_mb (q0 q1 : Int64) : UInt64 := (FP.ddiv (FP.l2d (own_max (0 : Int64) (q1 - q0))) (4696837146684686336 : UInt64))
theorem pn_0 : plainName "com/example/counterweight/counterweight/Outcome" = true := by first | (simp [plainName, overriddenIn]; done) | decide +kernel
theorem ef_rmB (m : MethodId) (x0 : Int64) (x1 : Int64) : entryFrame m #[(.long x0), (.long x1)] 4 = mkF m 0 #[.val (.long x0), .second, .val (.long x1), .second] [] := by first | (simp [entryFrame, mkF, argsToLocals, Value.category]; done) | rfl
set_option maxRecDepth 65536 in
set_option maxHeartbeats 40000000 in
theorem rmB (l : Launch) (Z : State) (a0 : Array Value) (hw : ∀ d ∈ tables_1, d.before a0 Z = true) (ws : List Jvm.Cond)  (q0 : Int64) (q1 : Int64) (h0 : Heap) (n0 : Nat) (Z0 : n0 ≤ h0.size) 
    (n11 : NoNaN64 (FP.ddiv (FP.l2d (own_max (0 : Int64) (q1 - q0))) (4696837146684686336 : UInt64))) :
    MetFree l (⟨"com/example/counterweight/counterweight/Outcome", "millisBetween", "(JJ)D"⟩ : MethodName) (head1 (Jvm.Cond.code (⟨"com/example/counterweight/counterweight/Outcome", "millisBetween", "(JJ)D"⟩ : MethodName) prog_17_method_3_code 4 (some .double) :: ws) ({ frames := 1, cells := 0, slots := 0, locals := 15 } : Room)) (fun a U => a = #[(.long q0), (.long q1)] ∧ Z.Warmed39 U.vm ∧ U.heap = h0) (fun _ _ _ _ _ => True) (fun _ U o U' => ∃ v L, o = .returned v ∧ QP (some (.double (own_mb q0 q1))) h0 n0 v U'.heap L ∧ FrameEnd U o U' L ({ frames := 1, cells := 0, slots := 0, locals := 15 } : Room).cells ({ frames := 1, cells := 0, slots := 0, locals := 15 } : Room).slots) := by
  refine MetFree.of_bodySF (plainFor_of_name pn_0) hisR ?_
  intro p e s m args below meth c s₁ Bd hml0 hP hK
  obtain ⟨rfl, hZ, hh⟩ := hP
  have hx := Bd.exec
  have hby := Bd.bytes
  have hml : c.maxLocals = 4 := hml0
  have hown : s.vm.findClass "com/example/counterweight/counterweight/Outcome" = some m.cls := findClass_of_methodNamed Bd.named
  have hnm := (name_of_methodNamed Bd.named Bd.method).1
  have X0 : Stand p l e ({ frames := 1, cells := 0, slots := 0, locals := 15 } : Room) s m #[(.long q0), (.long q1)] below meth c s₁ [] 0 0 := Stand.of_body Bd
  have e0 : s₁.heap = h0 := by rw [← hh, Bd.state]; rfl
  have N0 := Fr.nil n0
  have pre0 : ∀ t, Steps p.tables e below (s₁.setTop (mkF m 0 #[.val (.long q0), .second, .val (.long q1), .second] [])) t → Steps p.tables e below (s₁.setTop (entryFrame m #[(.long q0), (.long q1)] 4)) t := fun t k => castTop (ef_rmB m q0 q1) k
  obtain ⟨_, _, ⟨T1, L1, k1, n1⟩, -, X1, ⟨Lc1, hQ1, l1, y1, z1⟩, st1⟩ := Jvm.LawKit.callS X0 hx (y := (⟨"java/lang/Math", "max", "(JJ)J"⟩ : MethodName)) hown (mvT hZ (hw _ (List.mem_of_getElem? (i := 4) rfl))) (mvT hZ (hw _ (List.mem_of_getElem? (i := 5) rfl))) (mvT hZ (hw _ (List.mem_of_getElem? (i := 6) rfl))) (mvT hZ (hw _ (List.mem_of_getElem? (i := 7) rfl))) (by decide) (backOf (W := 0) (rmM l Z a0 hw [] (0 : Int64) (q1 - q0) h0 n0 Z0) hZ (hw _ (List.mem_of_getElem? (i := 7) rfl)) (hw _ (List.mem_of_getElem? (i := 6) rfl)) (by decide) (by decide)) (g := (mkF m 4 #[.val (.long q0), .second, .val (.long q1), .second] [(.long (q1 - q0)), (.long (0 : Int64))])) rfl (by rw [hml]; rfl) (argsL := [(.long (0 : Int64)), (.long (q1 - q0))]) (rest := []) (lenOf pd_0 rfl) rfl (by show 2 * 0 + _ ≤ _; exact Nat.le_of_eq rfl) (hb hby d1_4) (fun _ _ => ⟨rfl, e0, (by decide : 0 + 0 ≤ _), (by decide : 0 + 0 ≤ _)⟩)
  dsimp only [Pt.U, Pt.locs, Pt.cells, Pt.slots] at X1 l1 y1 z1 st1 hQ1
  subst l1 y1 z1
  obtain ⟨rfl, N1a, e1⟩ := hQ1
  have N1 := Fr.app N0 N1a
  obtain ⟨fs, hr, hrun, hended, hW, hsame⟩ := X1.leave (v := some (.double (FP.ddiv (FP.l2d (own_max (0 : Int64) (q1 - q0))) (4696837146684686336 : UInt64)))) (fun h => by rw [Bd.returns] at h; cases h)
  refine ⟨_, _, pre0 _ ?_, hrun, hended, _, _, rfl, ?_, ⟨_, rfl⟩, hW, hsame.mono (Nat.le_of_ble_eq_true rfl) (Nat.le_of_ble_eq_true rfl)⟩
  · show Steps p.tables e below (s₁.setTop (mkF m 0 #[.val (.long q0), .second, .val (.long q1), .second] [])) _
    refine XS.lconst X0.here hx rfl (hb hby d1_0) ?_
    show Steps p.tables e below (s₁.setTop (mkF m 1 #[.val (.long q0), .second, .val (.long q1), .second] [(.long (0 : Int64))])) _
    refine XS.lloadN X0.here hx rfl (hb hby d1_1) rfl ?_
    show Steps p.tables e below (s₁.setTop (mkF m 2 #[.val (.long q0), .second, .val (.long q1), .second] [(.long q1), (.long (0 : Int64))])) _
    refine XS.lloadN X0.here hx rfl (hb hby d1_2) rfl ?_
    show Steps p.tables e below (s₁.setTop (mkF m 3 #[.val (.long q0), .second, .val (.long q1), .second] [(.long q0), (.long q1), (.long (0 : Int64))])) _
    refine XS.lsub X0.here hx rfl (hb hby d1_3) rfl ?_
    show Steps p.tables e below (s₁.setTop (mkF m 4 #[.val (.long q0), .second, .val (.long q1), .second] [(.long (q1 - q0)), (.long (0 : Int64))])) _
    refine st1 _ ?_
    show Steps p.tables e below (T1.setTop (mkF m 7 #[.val (.long q0), .second, .val (.long q1), .second] [(.long (own_max (0 : Int64) (q1 - q0)))])) _
    refine XS.l2dS X1.here hx rfl (hb hby d1_7) rfl rfl ?_
    show Steps p.tables e below (T1.setTop (mkF m 8 #[.val (.long q0), .second, .val (.long q1), .second] [(.double (FP.l2d (own_max (0 : Int64) (q1 - q0))))])) _
    refine X1.ldc2DoubleC hx hown (mvT hZ (hw _ (List.mem_of_getElem? (i := 8) rfl))) (g := (mkF m 8 #[.val (.long q0), .second, .val (.long q1), .second] [(.double (FP.l2d (own_max (0 : Int64) (q1 - q0))))])) rfl (hb hby d1_8) _ ?_
    show Steps p.tables e below (T1.setTop (mkF m 11 #[.val (.long q0), .second, .val (.long q1), .second] [(.double (4696837146684686336 : UInt64)), (.double (FP.l2d (own_max (0 : Int64) (q1 - q0))))])) _
    refine XS.ddivS X1.here hx rfl (hb hby d1_11) rfl n11 rfl ?_
    show Steps p.tables e below (T1.setTop (mkF m 12 #[.val (.long q0), .second, .val (.long q1), .second] [(.double (FP.ddiv (FP.l2d (own_max (0 : Int64) (q1 - q0))) (4696837146684686336 : UInt64)))])) _
    exact OwnF.retD X1 hx Bd.returns (hb hby d1_12) hr
  · show QP (some (.double (own_mb q0 q1))) h0 n0 _ T1.heap _
    rw [e1]
    exact ⟨rfl, N1, rfl⟩
section Law
open Jvm.FP.Core Jvm.OwnF Jvm.Kit
theorem own_mZ : Zm 4696837146684686336 = 1000000 * one64 := by unfold Zm; decide +kernel
theorem own_mF : DFin 4696837146684686336 := ⟨false, 8589934592000000, -33, by decide +kernel⟩
theorem own_mS : sgn (val64 4696837146684686336) = false := by decide +kernel
theorem own_mz : Zm (4696837146684686336 : UInt64) ≠ 0 := Zm_ne own_mZ (by decide)
theorem own_nn (d : Int64) : val64 (ddiv (l2d d) 4696837146684686336) ≠ .nan := ddiv_ne_nan (Jvm.FP.Core.l2d_fin d) own_mF own_mz
theorem own_nb (q0 q1 : Int64) : NoNaN64 (FP.ddiv (FP.l2d (own_max (0 : Int64) (q1 - q0))) (4696837146684686336 : UInt64)) := noNaN (own_nn _)
theorem own_n64 (q0 q1 : Int64) : NoNaN64 (FP.ddiv (FP.l2d (q1 - q0)) (4696837146684686336 : UInt64)) := noNaN (own_nn _)
theorem own_max_nonneg (d : Int64) : 0 ≤ (own_max 0 d).toInt := by
  unfold own_max
  by_cases h : (0 : Int64) < d
  · rw [if_pos h]; rw [Int64.lt_iff_toInt_lt] at h; rw [Int64.toInt_zero] at h; omega
  · rw [if_neg h, Int64.toInt_zero]; exact Int.le_refl _
theorem own_max_pos {d : Int64} (h : d > 0) : own_max 0 d = d := if_pos h
theorem own_max_npos {d : Int64} (h : ¬ d > 0) : own_max 0 d = 0 := if_neg h
theorem own_l2d_sgn {d : Int64} (h : 0 ≤ d.toInt) : sgn (val64 (l2d d)) = false := by
  obtain ⟨c, q, e⟩ := l2d_shape d
  rw [e]
  show decide (d.toInt < 0) = false
  simp; omega
theorem own_b16 (q0 q1 : Int64) : ifCond.holds .ge (FP.cmpInt (-1) (FP.dcmp (own_mb q0 q1) FP.dconst0)) = true := by
  have hs : sgn (val64 (own_mb q0 q1)) = false := by
    have := ddiv_sgn (Jvm.FP.Core.l2d_fin (own_max 0 (q1 - q0))) own_mF own_mz
    rw [own_l2d_sgn (own_max_nonneg _), own_mS] at this
    exact this
  have h := cmp_Zv (own_nn (own_max 0 (q1 - q0))) (b := 0) (by rw [val64_zero]; nofun)
  rw [show Zv 0 = 0 from zval64_zero] at h
  have hz := Zv_pos hs
  rcases Nat.eq_zero_or_pos (Zm (own_mb q0 q1)) with h0 | h0
  · have he : FP.dcmp (own_mb q0 q1) FP.dconst0 = some .eq := by
      refine h.trans ?_
      rw [Option.some.injEq, compare_eq_iff]
      show Zv (own_mb q0 q1) = 0
      omega
    exact if_l_eq he (by decide)
  · have he : FP.dcmp (own_mb q0 q1) FP.dconst0 = some .gt := by
      refine h.trans ?_
      rw [Option.some.injEq, compare_gt_iff]
      show 0 < Zv (own_mb q0 q1)
      omega
    exact if_l_gt he (by decide)
theorem own_b35 (q0 q1 q2 : Int64) : ifCond.holds .eq (FP.cmpInt (-1) (FP.dcmp (own_mb q0 q1) (own_mb (q0 + q2) (q1 + q2)))) = true := by
  have h : own_mb (q0 + q2) (q1 + q2) = own_mb q0 q1 := by
    unfold own_mb
    rw [show q1 + q2 - (q0 + q2) = q1 - q0 by grind]
  rw [h]; exact if_l_eq (dcmp_self (own_nn _)) (by decide)
theorem own_b44t {d : Int64} (h : d > 0) : ifCond.holds .gt (if d > (0 : Int64) then 1 else if d = (0 : Int64) then 0 else -1) = true := by rw [if_pos h]; decide
theorem own_b44f {d : Int64} (h : ¬ d > 0) : ifCond.holds .gt (if d > (0 : Int64) then 1 else if d = (0 : Int64) then 0 else -1) = false := by
  rw [if_neg h]
  by_cases h1 : d = 0
  · rw [if_pos h1]; decide
  · rw [if_neg h1]; decide
theorem own_b51 {q0 q1 : Int64} (h : ¬ q1 - q0 > 0) : ifCond.holds .eq (FP.cmpInt (-1) (FP.dcmp (own_mb q0 q1) FP.dconst0)) = true := by
  unfold own_mb
  rw [own_max_npos h]
  decide +kernel
theorem own_b66 {q0 q1 : Int64} (h : q1 - q0 > 0) : ifCond.holds .eq (FP.cmpInt (-1) (FP.dcmp (own_mb q0 q1) (FP.ddiv (FP.l2d (q1 - q0)) (4696837146684686336 : UInt64)))) = true := by
  unfold own_mb
  rw [own_max_pos h]; exact if_l_eq (dcmp_self (own_nn _)) (by decide)
theorem own_b95 (q0 q2 : Int64) : ifCond.holds .ne (FP.cmpInt (-1) (FP.dcmp (own_mb q0 (q0 + ((q2 &&& (1048575 : Int64)) * (1000000 : Int64)))) (FP.l2d (q2 &&& (1048575 : Int64))))) = false := by
  have hm := i64_mask q2 1048575 (k := 20) (by decide) (by decide)
  have hb : 0 ≤ (q2 &&& 1048575).toInt ∧ (q2 &&& 1048575).toInt < 1048576 := by omega
  generalize q2 &&& 1048575 = n at hb
  have h6 : (1000000 : Int64).toInt = 1000000 := by decide
  have hy : (n * 1000000).toInt = n.toInt * 1000000 := by
    rw [i64_mul (by rw [h6]; omega) (by rw [h6]; omega), h6]
  have hmb : own_mb q0 (q0 + n * 1000000) = ddiv (l2d (n * 1000000)) 4696837146684686336 := by
    unfold own_mb
    rw [show q0 + n * 1000000 - q0 = n * 1000000 by grind]
    by_cases h : n * 1000000 > 0
    · rw [own_max_pos h]
    · rw [own_max_npos h]
      have : n * 1000000 = 0 := by
        rw [gt_iff_lt, Int64.lt_iff_toInt_lt, Int64.toInt_zero] at h
        exact Int64.toInt_inj.mp (by rw [Int64.toInt_zero]; omega)
      rw [this]
  rw [hmb]
  by_cases h0 : n.toInt = 0
  · have hn : n = 0 := Int64.toInt_inj.mp (by rw [h0]; rfl)
    rw [hn]; decide +kernel
  · have DN : DInt n.toInt (l2d n) := l2d_int (by omega)
    have DY : DInt (n * 1000000).toInt (l2d (n * 1000000)) := l2d_int (by omega)
    have ZN := Zm_DInt DN
    have ZY := Zm_DInt DY
    rw [hy] at ZY
    have FY := Jvm.FP.Core.l2d_fin (n * 1000000)
    have FN := Jvm.FP.Core.l2d_fin n
    have SN := own_l2d_sgn hb.1
    have SQ : sgn (val64 (ddiv (l2d (n * 1000000)) 4696837146684686336)) = false := by
      have := ddiv_sgn FY own_mF own_mz
      rw [own_l2d_sgn (d := n * 1000000) (by omega), own_mS] at this
      exact this
    have key : Zm (l2d (n * 1000000)) * one64 = Zm (l2d n) * Zm (4696837146684686336 : UInt64) := by
      rw [ZY, ZN, own_mZ, Int.natAbs_mul]
      show n.toInt.natAbs * 1000000 * one64 * one64 = n.toInt.natAbs * one64 * (1000000 * one64)
      simp only [Nat.mul_assoc, Nat.mul_left_comm]
    have hz : Zm (ddiv (l2d (n * 1000000)) 4696837146684686336) = Zm (l2d n) :=
      Nat.le_antisymm (ddiv_le FY own_mF own_mz FN.ne_nan (Nat.le_of_eq key)) (ddiv_ge FY own_mF own_mz (Nat.le_of_eq key.symm))
    have he : FP.dcmp (ddiv (l2d (n * 1000000)) 4696837146684686336) (FP.l2d n) = some .eq := by
      refine (cmp_pos (own_nn _) FN.ne_nan SQ SN).trans ?_
      rw [hz, compare_self_int]
    exact if_l_eq he (by decide)
end Law

theorem pd_1 : parseMethodDescriptor "(JJ)D" = some ⟨[.long, .long], some .double⟩ := by decide +kernel
theorem pn_1 : plainName "com/example/counterweight/counterweight/OutcomeMillisBetweenPinLaw" = true := by first | (simp [plainName, overriddenIn]; done) | decide +kernel
theorem ef_rm0a (m : MethodId) (x0 : Int64) (x1 : Int64) (x2 : Int64) : entryFrame m #[(.long x0), (.long x1), (.long x2)] maxLocals = mkF m 0 #[.val (.long x0), .second, .val (.long x1), .second, .val (.long x2), .second, .unset, .unset, .unset, .unset, .unset, .unset] [] := by first | (simp [entryFrame, mkF, argsToLocals, Value.category, maxLocals]; done) | rfl
set_option maxRecDepth 65536 in
set_option maxHeartbeats 40000000 in
theorem rm0a (l : Launch) (Z : State) (a0 : Array Value) (hw : ∀ d ∈ tables_1, d.before a0 Z = true) (ws : List Jvm.Cond)  (q0 : Int64) (q1 : Int64) (q2 : Int64) (h0 : Heap) (n0 : Nat) (Z0 : n0 ≤ h0.size) 
    (b16 : ifCond.holds .ge (FP.cmpInt (-1) (FP.dcmp (own_mb q0 q1) FP.dconst0)) = true)
    (b35 : ifCond.holds .eq (FP.cmpInt (-1) (FP.dcmp (own_mb q0 q1) (own_mb (q0 + q2) (q1 + q2)))) = true)
    (b44 : ifCond.holds .gt (if (q1 - q0) > (0 : Int64) then 1 else if (q1 - q0) = (0 : Int64) then 0 else -1) = false)
    (b51 : ifCond.holds .eq (FP.cmpInt (-1) (FP.dcmp (own_mb q0 q1) FP.dconst0)) = true)
    (b95 : ifCond.holds .ne (FP.cmpInt (-1) (FP.dcmp (own_mb q0 (q0 + ((q2 &&& (1048575 : Int64)) * (1000000 : Int64)))) (FP.l2d (q2 &&& (1048575 : Int64))))) = false) :
    MetFree l x (head1 (Jvm.Cond.code x code maxLocals ret :: ws) room_1) (fun a U => a = #[(.long q0), (.long q1), (.long q2)] ∧ Z.Warmed39 U.vm ∧ U.heap = h0) (fun _ _ _ _ _ => True) (fun _ U o U' => ∃ v L, o = .returned v ∧ QL n0 v U'.heap L ∧ FrameEnd U o U' L 0 0) := by
  refine MetFree.of_bodySF (plainFor_of_name pn_1) hisR ?_
  intro p e s m args below meth c s₁ Bd hml0 hP hK
  obtain ⟨rfl, hZ, hh⟩ := hP
  have hx := Bd.exec
  have hby := Bd.bytes
  have hml : c.maxLocals = 12 := hml0
  have hown : s.vm.findClass "com/example/counterweight/counterweight/OutcomeMillisBetweenPinLaw" = some m.cls := findClass_of_methodNamed Bd.named
  have hnm := (name_of_methodNamed Bd.named Bd.method).1
  have X0 : Stand p l e room_1 s m #[(.long q0), (.long q1), (.long q2)] below meth c s₁ [] 0 0 := Stand.of_body Bd
  have e0 : s₁.heap = h0 := by rw [← hh, Bd.state]; rfl
  have N0 := Fr.nil n0
  have pre0 : ∀ t, Steps p.tables e below (s₁.setTop (mkF m 0 #[.val (.long q0), .second, .val (.long q1), .second, .val (.long q2), .second, .unset, .unset, .unset, .unset, .unset, .unset] [])) t → Steps p.tables e below (s₁.setTop (entryFrame m #[(.long q0), (.long q1), (.long q2)] maxLocals)) t := fun t k => castTop (ef_rm0a m q0 q1 q2) k
  obtain ⟨_, _, ⟨T1, L1, k1, n1⟩, -, X1, ⟨Lc1, hQ1, l1, y1, z1⟩, st1⟩ := Jvm.LawKit.callS X0 hx (y := (⟨"com/example/counterweight/counterweight/Outcome", "millisBetween", "(JJ)D"⟩ : MethodName)) hown (mvT hZ (hw _ (List.mem_of_getElem? (i := 0) rfl))) (mvT hZ (hw _ (List.mem_of_getElem? (i := 1) rfl))) (mvT hZ (hw _ (List.mem_of_getElem? (i := 2) rfl))) (mvT hZ (hw _ (List.mem_of_getElem? (i := 3) rfl))) (by decide) (backOf (W := 0) (rmB l Z a0 hw [] q0 q1 h0 n0 Z0 (own_nb q0 q1)) hZ (hw _ (List.mem_of_getElem? (i := 3) rfl)) (hw _ (List.mem_of_getElem? (i := 2) rfl)) (by decide) (by decide)) (g := (mkF m 7 #[.val (.long q0), .second, .val (.long q1), .second, .val (.long q2), .second, .val (.long (q1 - q0)), .second, .unset, .unset, .unset, .unset] [(.long q1), (.long q0)])) rfl (by rw [hml]; rfl) (argsL := [(.long q0), (.long q1)]) (rest := []) (lenOf pd_1 rfl) rfl (by show 2 * 0 + _ ≤ _; exact Nat.le_of_eq rfl) (hb hby at_7) (fun _ _ => ⟨rfl, e0, (by decide : 0 + 0 ≤ _), (by decide : 0 + 0 ≤ _)⟩)
  dsimp only [Pt.U, Pt.locs, Pt.cells, Pt.slots] at X1 l1 y1 z1 st1 hQ1
  subst l1 y1 z1
  obtain ⟨rfl, N1a, e1⟩ := hQ1
  have N1 := Fr.app N0 N1a
  obtain ⟨_, _, ⟨T2, L2, k2, n2⟩, -, X2, ⟨Lc2, hQ2, l2, y2, z2⟩, st2⟩ := Jvm.LawKit.callS X1 hx (y := (⟨"com/example/counterweight/counterweight/Outcome", "millisBetween", "(JJ)D"⟩ : MethodName)) hown (mvT hZ (hw _ (List.mem_of_getElem? (i := 0) rfl))) (mvT hZ (hw _ (List.mem_of_getElem? (i := 1) rfl))) (mvT hZ (hw _ (List.mem_of_getElem? (i := 2) rfl))) (mvT hZ (hw _ (List.mem_of_getElem? (i := 3) rfl))) (by decide) (backOf (W := 2) (rmB l Z a0 hw [] (q0 + q2) (q1 + q2) h0 n0 Z0 (own_nb (q0 + q2) (q1 + q2))) hZ (hw _ (List.mem_of_getElem? (i := 3) rfl)) (hw _ (List.mem_of_getElem? (i := 2) rfl)) (by decide) (by decide)) (g := (mkF m 31 #[.val (.long q0), .second, .val (.long q1), .second, .val (.long q2), .second, .val (.long (q1 - q0)), .second, .val (.double (own_mb q0 q1)), .second, .unset, .unset] [(.long (q1 + q2)), (.long (q0 + q2)), (.double (own_mb q0 q1))])) rfl (by rw [hml]; rfl) (argsL := [(.long (q0 + q2)), (.long (q1 + q2))]) (rest := [(.double (own_mb q0 q1))]) (lenOf pd_1 rfl) rfl (by show 2 * 0 + _ ≤ _; exact Nat.le_of_eq rfl) (hb hby at_31) (fun _ _ => ⟨rfl, e1, (by decide : 0 + 0 ≤ _), (by decide : 0 + 0 ≤ _)⟩)
  dsimp only [Pt.U, Pt.locs, Pt.cells, Pt.slots] at X2 l2 y2 z2 st2 hQ2
  subst l2 y2 z2
  obtain ⟨rfl, N2a, e2⟩ := hQ2
  have N2 := Fr.app N1 N2a
  obtain ⟨_, _, ⟨T3, L3, k3, n3⟩, -, X3, ⟨Lc3, hQ3, l3, y3, z3⟩, st3⟩ := Jvm.LawKit.callS X2 hx (y := (⟨"com/example/counterweight/counterweight/Outcome", "millisBetween", "(JJ)D"⟩ : MethodName)) hown (mvT hZ (hw _ (List.mem_of_getElem? (i := 0) rfl))) (mvT hZ (hw _ (List.mem_of_getElem? (i := 1) rfl))) (mvT hZ (hw _ (List.mem_of_getElem? (i := 2) rfl))) (mvT hZ (hw _ (List.mem_of_getElem? (i := 3) rfl))) (by decide) (backOf (W := 0) (rmB l Z a0 hw [] q0 (q0 + ((q2 &&& (1048575 : Int64)) * (1000000 : Int64))) h0 n0 Z0 (own_nb q0 (q0 + ((q2 &&& (1048575 : Int64)) * (1000000 : Int64))))) hZ (hw _ (List.mem_of_getElem? (i := 3) rfl)) (hw _ (List.mem_of_getElem? (i := 2) rfl)) (by decide) (by decide)) (g := (mkF m 88 #[.val (.long q0), .second, .val (.long q1), .second, .val (.long q2), .second, .val (.long (q1 - q0)), .second, .val (.double (own_mb q0 q1)), .second, .val (.long (q2 &&& (1048575 : Int64))), .second] [(.long (q0 + ((q2 &&& (1048575 : Int64)) * (1000000 : Int64)))), (.long q0)])) rfl (by rw [hml]; rfl) (argsL := [(.long q0), (.long (q0 + ((q2 &&& (1048575 : Int64)) * (1000000 : Int64))))]) (rest := []) (lenOf pd_1 rfl) rfl (by show 2 * 0 + _ ≤ _; exact Nat.le_of_eq rfl) (hb hby at_88) (fun _ _ => ⟨rfl, e2, (by decide : 0 + 0 ≤ _), (by decide : 0 + 0 ≤ _)⟩)
  dsimp only [Pt.U, Pt.locs, Pt.cells, Pt.slots] at X3 l3 y3 z3 st3 hQ3
  subst l3 y3 z3
  obtain ⟨rfl, N3a, e3⟩ := hQ3
  have N3 := Fr.app N2 N3a
  obtain ⟨fs, hr, hrun, hended, hW, hsame⟩ := X3.leave (v := some (.int (1 : Int32))) (fun h => by rw [Bd.returns] at h; cases h)
  refine ⟨_, _, pre0 _ ?_, hrun, hended, _, _, rfl, ?_, ⟨_, rfl⟩, hW, hsame.mono (Nat.le_of_ble_eq_true rfl) (Nat.le_of_ble_eq_true rfl)⟩
  · show Steps p.tables e below (s₁.setTop (mkF m 0 #[.val (.long q0), .second, .val (.long q1), .second, .val (.long q2), .second, .unset, .unset, .unset, .unset, .unset, .unset] [])) _
    refine XS.lloadN X0.here hx rfl (hb hby at_0) rfl ?_
    show Steps p.tables e below (s₁.setTop (mkF m 1 #[.val (.long q0), .second, .val (.long q1), .second, .val (.long q2), .second, .unset, .unset, .unset, .unset, .unset, .unset] [(.long q1)])) _
    refine XS.lloadN X0.here hx rfl (hb hby at_1) rfl ?_
    show Steps p.tables e below (s₁.setTop (mkF m 2 #[.val (.long q0), .second, .val (.long q1), .second, .val (.long q2), .second, .unset, .unset, .unset, .unset, .unset, .unset] [(.long q0), (.long q1)])) _
    refine XS.lsub X0.here hx rfl (hb hby at_2) rfl ?_
    show Steps p.tables e below (s₁.setTop (mkF m 3 #[.val (.long q0), .second, .val (.long q1), .second, .val (.long q2), .second, .unset, .unset, .unset, .unset, .unset, .unset] [(.long (q1 - q0))])) _
    refine XS.lstore X0.here hx rfl (hb hby at_3) rfl (l' := #[.val (.long q0), .second, .val (.long q1), .second, .val (.long q2), .second, .val (.long (q1 - q0)), .second, .unset, .unset, .unset, .unset]) rfl ?_
    show Steps p.tables e below (s₁.setTop (mkF m 5 #[.val (.long q0), .second, .val (.long q1), .second, .val (.long q2), .second, .val (.long (q1 - q0)), .second, .unset, .unset, .unset, .unset] [])) _
    refine XS.lloadN X0.here hx rfl (hb hby at_5) rfl ?_
    show Steps p.tables e below (s₁.setTop (mkF m 6 #[.val (.long q0), .second, .val (.long q1), .second, .val (.long q2), .second, .val (.long (q1 - q0)), .second, .unset, .unset, .unset, .unset] [(.long q0)])) _
    refine XS.lloadN X0.here hx rfl (hb hby at_6) rfl ?_
    show Steps p.tables e below (s₁.setTop (mkF m 7 #[.val (.long q0), .second, .val (.long q1), .second, .val (.long q2), .second, .val (.long (q1 - q0)), .second, .unset, .unset, .unset, .unset] [(.long q1), (.long q0)])) _
    refine st1 _ ?_
    show Steps p.tables e below (T1.setTop (mkF m 10 #[.val (.long q0), .second, .val (.long q1), .second, .val (.long q2), .second, .val (.long (q1 - q0)), .second, .unset, .unset, .unset, .unset] [(.double (own_mb q0 q1))])) _
    refine XS.dstore X1.here hx rfl (hb hby at_10) rfl (l' := #[.val (.long q0), .second, .val (.long q1), .second, .val (.long q2), .second, .val (.long (q1 - q0)), .second, .val (.double (own_mb q0 q1)), .second, .unset, .unset]) rfl ?_
    show Steps p.tables e below (T1.setTop (mkF m 12 #[.val (.long q0), .second, .val (.long q1), .second, .val (.long q2), .second, .val (.long (q1 - q0)), .second, .val (.double (own_mb q0 q1)), .second, .unset, .unset] [])) _
    refine XS.dload X1.here hx rfl (hb hby at_12) rfl ?_
    show Steps p.tables e below (T1.setTop (mkF m 14 #[.val (.long q0), .second, .val (.long q1), .second, .val (.long q2), .second, .val (.long (q1 - q0)), .second, .val (.double (own_mb q0 q1)), .second, .unset, .unset] [(.double (own_mb q0 q1))])) _
    refine XS.dconst0 X1.here hx rfl (hb hby at_14) rfl ?_
    show Steps p.tables e below (T1.setTop (mkF m 15 #[.val (.long q0), .second, .val (.long q1), .second, .val (.long q2), .second, .val (.long (q1 - q0)), .second, .val (.double (own_mb q0 q1)), .second, .unset, .unset] [(.double FP.dconst0), (.double (own_mb q0 q1))])) _
    refine XS.dcmpS X1.here hx rfl (hb hby at_15) rfl (cmpV_l _) ?_
    show Steps p.tables e below (T1.setTop (mkF m 16 #[.val (.long q0), .second, .val (.long q1), .second, .val (.long q2), .second, .val (.long (q1 - q0)), .second, .val (.double (own_mb q0 q1)), .second, .unset, .unset] [(.int (FP.cmpInt (-1) (FP.dcmp (own_mb q0 q1) FP.dconst0)))])) _
    refine XS.ifYes X1.here hx rfl (pc0 := 16) (pc' := 21) rfl (hb hby at_16) rfl b16 (by decide) (by decide) ?_
    show Steps p.tables e below (T1.setTop (mkF m 21 #[.val (.long q0), .second, .val (.long q1), .second, .val (.long q2), .second, .val (.long (q1 - q0)), .second, .val (.double (own_mb q0 q1)), .second, .unset, .unset] [])) _
    refine XS.dload X1.here hx rfl (hb hby at_21) rfl ?_
    show Steps p.tables e below (T1.setTop (mkF m 23 #[.val (.long q0), .second, .val (.long q1), .second, .val (.long q2), .second, .val (.long (q1 - q0)), .second, .val (.double (own_mb q0 q1)), .second, .unset, .unset] [(.double (own_mb q0 q1))])) _
    refine XS.lloadN X1.here hx rfl (hb hby at_23) rfl ?_
    show Steps p.tables e below (T1.setTop (mkF m 24 #[.val (.long q0), .second, .val (.long q1), .second, .val (.long q2), .second, .val (.long (q1 - q0)), .second, .val (.double (own_mb q0 q1)), .second, .unset, .unset] [(.long q0), (.double (own_mb q0 q1))])) _
    refine XS.lload X1.here hx rfl (hb hby at_24) rfl ?_
    show Steps p.tables e below (T1.setTop (mkF m 26 #[.val (.long q0), .second, .val (.long q1), .second, .val (.long q2), .second, .val (.long (q1 - q0)), .second, .val (.double (own_mb q0 q1)), .second, .unset, .unset] [(.long q2), (.long q0), (.double (own_mb q0 q1))])) _
    refine XS.ladd X1.here hx rfl (hb hby at_26) rfl ?_
    show Steps p.tables e below (T1.setTop (mkF m 27 #[.val (.long q0), .second, .val (.long q1), .second, .val (.long q2), .second, .val (.long (q1 - q0)), .second, .val (.double (own_mb q0 q1)), .second, .unset, .unset] [(.long (q0 + q2)), (.double (own_mb q0 q1))])) _
    refine XS.lloadN X1.here hx rfl (hb hby at_27) rfl ?_
    show Steps p.tables e below (T1.setTop (mkF m 28 #[.val (.long q0), .second, .val (.long q1), .second, .val (.long q2), .second, .val (.long (q1 - q0)), .second, .val (.double (own_mb q0 q1)), .second, .unset, .unset] [(.long q1), (.long (q0 + q2)), (.double (own_mb q0 q1))])) _
    refine XS.lload X1.here hx rfl (hb hby at_28) rfl ?_
    show Steps p.tables e below (T1.setTop (mkF m 30 #[.val (.long q0), .second, .val (.long q1), .second, .val (.long q2), .second, .val (.long (q1 - q0)), .second, .val (.double (own_mb q0 q1)), .second, .unset, .unset] [(.long q2), (.long q1), (.long (q0 + q2)), (.double (own_mb q0 q1))])) _
    refine XS.ladd X1.here hx rfl (hb hby at_30) rfl ?_
    show Steps p.tables e below (T1.setTop (mkF m 31 #[.val (.long q0), .second, .val (.long q1), .second, .val (.long q2), .second, .val (.long (q1 - q0)), .second, .val (.double (own_mb q0 q1)), .second, .unset, .unset] [(.long (q1 + q2)), (.long (q0 + q2)), (.double (own_mb q0 q1))])) _
    refine st2 _ ?_
    show Steps p.tables e below (T2.setTop (mkF m 34 #[.val (.long q0), .second, .val (.long q1), .second, .val (.long q2), .second, .val (.long (q1 - q0)), .second, .val (.double (own_mb q0 q1)), .second, .unset, .unset] [(.double (own_mb (q0 + q2) (q1 + q2))), (.double (own_mb q0 q1))])) _
    refine XS.dcmpS X2.here hx rfl (hb hby at_34) rfl (cmpV_l _) ?_
    show Steps p.tables e below (T2.setTop (mkF m 35 #[.val (.long q0), .second, .val (.long q1), .second, .val (.long q2), .second, .val (.long (q1 - q0)), .second, .val (.double (own_mb q0 q1)), .second, .unset, .unset] [(.int (FP.cmpInt (-1) (FP.dcmp (own_mb q0 q1) (own_mb (q0 + q2) (q1 + q2)))))])) _
    refine XS.ifYes X2.here hx rfl (pc0 := 35) (pc' := 40) rfl (hb hby at_35) rfl b35 (by decide) (by decide) ?_
    show Steps p.tables e below (T2.setTop (mkF m 40 #[.val (.long q0), .second, .val (.long q1), .second, .val (.long q2), .second, .val (.long (q1 - q0)), .second, .val (.double (own_mb q0 q1)), .second, .unset, .unset] [])) _
    refine XS.lload X2.here hx rfl (hb hby at_40) rfl ?_
    show Steps p.tables e below (T2.setTop (mkF m 42 #[.val (.long q0), .second, .val (.long q1), .second, .val (.long q2), .second, .val (.long (q1 - q0)), .second, .val (.double (own_mb q0 q1)), .second, .unset, .unset] [(.long (q1 - q0))])) _
    refine XS.lconst X2.here hx rfl (hb hby at_42) ?_
    show Steps p.tables e below (T2.setTop (mkF m 43 #[.val (.long q0), .second, .val (.long q1), .second, .val (.long q2), .second, .val (.long (q1 - q0)), .second, .val (.double (own_mb q0 q1)), .second, .unset, .unset] [(.long (0 : Int64)), (.long (q1 - q0))])) _
    refine XS.lcmp X2.here hx rfl (hb hby at_43) rfl ?_
    show Steps p.tables e below (T2.setTop (mkF m 44 #[.val (.long q0), .second, .val (.long q1), .second, .val (.long q2), .second, .val (.long (q1 - q0)), .second, .val (.double (own_mb q0 q1)), .second, .unset, .unset] [(.int (if (q1 - q0) > (0 : Int64) then 1 else if (q1 - q0) = (0 : Int64) then 0 else -1))])) _
    refine XS.ifNo X2.here hx rfl (hb hby at_44) rfl b44 ?_
    show Steps p.tables e below (T2.setTop (mkF m 47 #[.val (.long q0), .second, .val (.long q1), .second, .val (.long q2), .second, .val (.long (q1 - q0)), .second, .val (.double (own_mb q0 q1)), .second, .unset, .unset] [])) _
    refine XS.dload X2.here hx rfl (hb hby at_47) rfl ?_
    show Steps p.tables e below (T2.setTop (mkF m 49 #[.val (.long q0), .second, .val (.long q1), .second, .val (.long q2), .second, .val (.long (q1 - q0)), .second, .val (.double (own_mb q0 q1)), .second, .unset, .unset] [(.double (own_mb q0 q1))])) _
    refine XS.dconst0 X2.here hx rfl (hb hby at_49) rfl ?_
    show Steps p.tables e below (T2.setTop (mkF m 50 #[.val (.long q0), .second, .val (.long q1), .second, .val (.long q2), .second, .val (.long (q1 - q0)), .second, .val (.double (own_mb q0 q1)), .second, .unset, .unset] [(.double FP.dconst0), (.double (own_mb q0 q1))])) _
    refine XS.dcmpS X2.here hx rfl (hb hby at_50) rfl (cmpV_l _) ?_
    show Steps p.tables e below (T2.setTop (mkF m 51 #[.val (.long q0), .second, .val (.long q1), .second, .val (.long q2), .second, .val (.long (q1 - q0)), .second, .val (.double (own_mb q0 q1)), .second, .unset, .unset] [(.int (FP.cmpInt (-1) (FP.dcmp (own_mb q0 q1) FP.dconst0)))])) _
    refine XS.ifYes X2.here hx rfl (pc0 := 51) (pc' := 71) rfl (hb hby at_51) rfl b51 (by decide) (by decide) ?_
    show Steps p.tables e below (T2.setTop (mkF m 71 #[.val (.long q0), .second, .val (.long q1), .second, .val (.long q2), .second, .val (.long (q1 - q0)), .second, .val (.double (own_mb q0 q1)), .second, .unset, .unset] [])) _
    refine XS.lload X2.here hx rfl (hb hby at_71) rfl ?_
    show Steps p.tables e below (T2.setTop (mkF m 73 #[.val (.long q0), .second, .val (.long q1), .second, .val (.long q2), .second, .val (.long (q1 - q0)), .second, .val (.double (own_mb q0 q1)), .second, .unset, .unset] [(.long q2)])) _
    refine X2.ldc2Long hx hown (mvT hZ (hw _ (List.mem_of_getElem? (i := 9) rfl))) (g := (mkF m 73 #[.val (.long q0), .second, .val (.long q1), .second, .val (.long q2), .second, .val (.long (q1 - q0)), .second, .val (.double (own_mb q0 q1)), .second, .unset, .unset] [(.long q2)])) rfl (hb hby at_73) _ ?_
    show Steps p.tables e below (T2.setTop (mkF m 76 #[.val (.long q0), .second, .val (.long q1), .second, .val (.long q2), .second, .val (.long (q1 - q0)), .second, .val (.double (own_mb q0 q1)), .second, .unset, .unset] [(.long (1048575 : Int64)), (.long q2)])) _
    refine XS.land X2.here hx rfl (hb hby at_76) rfl ?_
    show Steps p.tables e below (T2.setTop (mkF m 77 #[.val (.long q0), .second, .val (.long q1), .second, .val (.long q2), .second, .val (.long (q1 - q0)), .second, .val (.double (own_mb q0 q1)), .second, .unset, .unset] [(.long (q2 &&& (1048575 : Int64)))])) _
    refine XS.lstore X2.here hx rfl (hb hby at_77) rfl (l' := #[.val (.long q0), .second, .val (.long q1), .second, .val (.long q2), .second, .val (.long (q1 - q0)), .second, .val (.double (own_mb q0 q1)), .second, .val (.long (q2 &&& (1048575 : Int64))), .second]) rfl ?_
    show Steps p.tables e below (T2.setTop (mkF m 79 #[.val (.long q0), .second, .val (.long q1), .second, .val (.long q2), .second, .val (.long (q1 - q0)), .second, .val (.double (own_mb q0 q1)), .second, .val (.long (q2 &&& (1048575 : Int64))), .second] [])) _
    refine XS.lloadN X2.here hx rfl (hb hby at_79) rfl ?_
    show Steps p.tables e below (T2.setTop (mkF m 80 #[.val (.long q0), .second, .val (.long q1), .second, .val (.long q2), .second, .val (.long (q1 - q0)), .second, .val (.double (own_mb q0 q1)), .second, .val (.long (q2 &&& (1048575 : Int64))), .second] [(.long q0)])) _
    refine XS.lloadN X2.here hx rfl (hb hby at_80) rfl ?_
    show Steps p.tables e below (T2.setTop (mkF m 81 #[.val (.long q0), .second, .val (.long q1), .second, .val (.long q2), .second, .val (.long (q1 - q0)), .second, .val (.double (own_mb q0 q1)), .second, .val (.long (q2 &&& (1048575 : Int64))), .second] [(.long q0), (.long q0)])) _
    refine XS.lload X2.here hx rfl (hb hby at_81) rfl ?_
    show Steps p.tables e below (T2.setTop (mkF m 83 #[.val (.long q0), .second, .val (.long q1), .second, .val (.long q2), .second, .val (.long (q1 - q0)), .second, .val (.double (own_mb q0 q1)), .second, .val (.long (q2 &&& (1048575 : Int64))), .second] [(.long (q2 &&& (1048575 : Int64))), (.long q0), (.long q0)])) _
    refine X2.ldc2Long hx hown (mvT hZ (hw _ (List.mem_of_getElem? (i := 10) rfl))) (g := (mkF m 83 #[.val (.long q0), .second, .val (.long q1), .second, .val (.long q2), .second, .val (.long (q1 - q0)), .second, .val (.double (own_mb q0 q1)), .second, .val (.long (q2 &&& (1048575 : Int64))), .second] [(.long (q2 &&& (1048575 : Int64))), (.long q0), (.long q0)])) rfl (hb hby at_83) _ ?_
    show Steps p.tables e below (T2.setTop (mkF m 86 #[.val (.long q0), .second, .val (.long q1), .second, .val (.long q2), .second, .val (.long (q1 - q0)), .second, .val (.double (own_mb q0 q1)), .second, .val (.long (q2 &&& (1048575 : Int64))), .second] [(.long (1000000 : Int64)), (.long (q2 &&& (1048575 : Int64))), (.long q0), (.long q0)])) _
    refine XS.lmul X2.here hx rfl (hb hby at_86) rfl ?_
    show Steps p.tables e below (T2.setTop (mkF m 87 #[.val (.long q0), .second, .val (.long q1), .second, .val (.long q2), .second, .val (.long (q1 - q0)), .second, .val (.double (own_mb q0 q1)), .second, .val (.long (q2 &&& (1048575 : Int64))), .second] [(.long ((q2 &&& (1048575 : Int64)) * (1000000 : Int64))), (.long q0), (.long q0)])) _
    refine XS.ladd X2.here hx rfl (hb hby at_87) rfl ?_
    show Steps p.tables e below (T2.setTop (mkF m 88 #[.val (.long q0), .second, .val (.long q1), .second, .val (.long q2), .second, .val (.long (q1 - q0)), .second, .val (.double (own_mb q0 q1)), .second, .val (.long (q2 &&& (1048575 : Int64))), .second] [(.long (q0 + ((q2 &&& (1048575 : Int64)) * (1000000 : Int64)))), (.long q0)])) _
    refine st3 _ ?_
    show Steps p.tables e below (T3.setTop (mkF m 91 #[.val (.long q0), .second, .val (.long q1), .second, .val (.long q2), .second, .val (.long (q1 - q0)), .second, .val (.double (own_mb q0 q1)), .second, .val (.long (q2 &&& (1048575 : Int64))), .second] [(.double (own_mb q0 (q0 + ((q2 &&& (1048575 : Int64)) * (1000000 : Int64)))))])) _
    refine XS.lload X3.here hx rfl (hb hby at_91) rfl ?_
    show Steps p.tables e below (T3.setTop (mkF m 93 #[.val (.long q0), .second, .val (.long q1), .second, .val (.long q2), .second, .val (.long (q1 - q0)), .second, .val (.double (own_mb q0 q1)), .second, .val (.long (q2 &&& (1048575 : Int64))), .second] [(.long (q2 &&& (1048575 : Int64))), (.double (own_mb q0 (q0 + ((q2 &&& (1048575 : Int64)) * (1000000 : Int64)))))])) _
    refine XS.l2dS X3.here hx rfl (hb hby at_93) rfl rfl ?_
    show Steps p.tables e below (T3.setTop (mkF m 94 #[.val (.long q0), .second, .val (.long q1), .second, .val (.long q2), .second, .val (.long (q1 - q0)), .second, .val (.double (own_mb q0 q1)), .second, .val (.long (q2 &&& (1048575 : Int64))), .second] [(.double (FP.l2d (q2 &&& (1048575 : Int64)))), (.double (own_mb q0 (q0 + ((q2 &&& (1048575 : Int64)) * (1000000 : Int64)))))])) _
    refine XS.dcmpS X3.here hx rfl (hb hby at_94) rfl (cmpV_l _) ?_
    show Steps p.tables e below (T3.setTop (mkF m 95 #[.val (.long q0), .second, .val (.long q1), .second, .val (.long q2), .second, .val (.long (q1 - q0)), .second, .val (.double (own_mb q0 q1)), .second, .val (.long (q2 &&& (1048575 : Int64))), .second] [(.int (FP.cmpInt (-1) (FP.dcmp (own_mb q0 (q0 + ((q2 &&& (1048575 : Int64)) * (1000000 : Int64)))) (FP.l2d (q2 &&& (1048575 : Int64))))))])) _
    refine XS.ifNo X3.here hx rfl (hb hby at_95) rfl b95 ?_
    show Steps p.tables e below (T3.setTop (mkF m 98 #[.val (.long q0), .second, .val (.long q1), .second, .val (.long q2), .second, .val (.long (q1 - q0)), .second, .val (.double (own_mb q0 q1)), .second, .val (.long (q2 &&& (1048575 : Int64))), .second] [])) _
    refine XS.iconst X3.here hx rfl (hb hby at_98) ?_
    show Steps p.tables e below (T3.setTop (mkF m 99 #[.val (.long q0), .second, .val (.long q1), .second, .val (.long q2), .second, .val (.long (q1 - q0)), .second, .val (.double (own_mb q0 q1)), .second, .val (.long (q2 &&& (1048575 : Int64))), .second] [(.int (1 : Int32))])) _
    refine XS.goto X3.here hx rfl (pc0 := 99) (pc' := 103) rfl (hb hby at_99) (by decide) (by decide) ?_
    show Steps p.tables e below (T3.setTop (mkF m 103 #[.val (.long q0), .second, .val (.long q1), .second, .val (.long q2), .second, .val (.long (q1 - q0)), .second, .val (.double (own_mb q0 q1)), .second, .val (.long (q2 &&& (1048575 : Int64))), .second] [(.int (1 : Int32))])) _
    exact retN X3 hx (t := .boolean) Bd.returns (by simp) (hb hby at_103) hr
  · show QL n0 _ T3.heap _
    exact ⟨rfl, N3⟩
theorem ef_rm0b (m : MethodId) (x0 : Int64) (x1 : Int64) (x2 : Int64) : entryFrame m #[(.long x0), (.long x1), (.long x2)] maxLocals = mkF m 0 #[.val (.long x0), .second, .val (.long x1), .second, .val (.long x2), .second, .unset, .unset, .unset, .unset, .unset, .unset] [] := by first | (simp [entryFrame, mkF, argsToLocals, Value.category, maxLocals]; done) | rfl
set_option maxRecDepth 65536 in
set_option maxHeartbeats 40000000 in
theorem rm0b (l : Launch) (Z : State) (a0 : Array Value) (hw : ∀ d ∈ tables_1, d.before a0 Z = true) (ws : List Jvm.Cond)  (q0 : Int64) (q1 : Int64) (q2 : Int64) (h0 : Heap) (n0 : Nat) (Z0 : n0 ≤ h0.size) 
    (b16 : ifCond.holds .ge (FP.cmpInt (-1) (FP.dcmp (own_mb q0 q1) FP.dconst0)) = true)
    (b35 : ifCond.holds .eq (FP.cmpInt (-1) (FP.dcmp (own_mb q0 q1) (own_mb (q0 + q2) (q1 + q2)))) = true)
    (b44 : ifCond.holds .gt (if (q1 - q0) > (0 : Int64) then 1 else if (q1 - q0) = (0 : Int64) then 0 else -1) = true)
    (n64 : NoNaN64 (FP.ddiv (FP.l2d (q1 - q0)) (4696837146684686336 : UInt64)))
    (b66 : ifCond.holds .eq (FP.cmpInt (-1) (FP.dcmp (own_mb q0 q1) (FP.ddiv (FP.l2d (q1 - q0)) (4696837146684686336 : UInt64)))) = true)
    (b95 : ifCond.holds .ne (FP.cmpInt (-1) (FP.dcmp (own_mb q0 (q0 + ((q2 &&& (1048575 : Int64)) * (1000000 : Int64)))) (FP.l2d (q2 &&& (1048575 : Int64))))) = false) :
    MetFree l x (head1 (Jvm.Cond.code x code maxLocals ret :: ws) room_1) (fun a U => a = #[(.long q0), (.long q1), (.long q2)] ∧ Z.Warmed39 U.vm ∧ U.heap = h0) (fun _ _ _ _ _ => True) (fun _ U o U' => ∃ v L, o = .returned v ∧ QL n0 v U'.heap L ∧ FrameEnd U o U' L 0 0) := by
  refine MetFree.of_bodySF (plainFor_of_name pn_1) hisR ?_
  intro p e s m args below meth c s₁ Bd hml0 hP hK
  obtain ⟨rfl, hZ, hh⟩ := hP
  have hx := Bd.exec
  have hby := Bd.bytes
  have hml : c.maxLocals = 12 := hml0
  have hown : s.vm.findClass "com/example/counterweight/counterweight/OutcomeMillisBetweenPinLaw" = some m.cls := findClass_of_methodNamed Bd.named
  have hnm := (name_of_methodNamed Bd.named Bd.method).1
  have X0 : Stand p l e room_1 s m #[(.long q0), (.long q1), (.long q2)] below meth c s₁ [] 0 0 := Stand.of_body Bd
  have e0 : s₁.heap = h0 := by rw [← hh, Bd.state]; rfl
  have N0 := Fr.nil n0
  have pre0 : ∀ t, Steps p.tables e below (s₁.setTop (mkF m 0 #[.val (.long q0), .second, .val (.long q1), .second, .val (.long q2), .second, .unset, .unset, .unset, .unset, .unset, .unset] [])) t → Steps p.tables e below (s₁.setTop (entryFrame m #[(.long q0), (.long q1), (.long q2)] maxLocals)) t := fun t k => castTop (ef_rm0b m q0 q1 q2) k
  obtain ⟨_, _, ⟨T1, L1, k1, n1⟩, -, X1, ⟨Lc1, hQ1, l1, y1, z1⟩, st1⟩ := Jvm.LawKit.callS X0 hx (y := (⟨"com/example/counterweight/counterweight/Outcome", "millisBetween", "(JJ)D"⟩ : MethodName)) hown (mvT hZ (hw _ (List.mem_of_getElem? (i := 0) rfl))) (mvT hZ (hw _ (List.mem_of_getElem? (i := 1) rfl))) (mvT hZ (hw _ (List.mem_of_getElem? (i := 2) rfl))) (mvT hZ (hw _ (List.mem_of_getElem? (i := 3) rfl))) (by decide) (backOf (W := 0) (rmB l Z a0 hw [] q0 q1 h0 n0 Z0 (own_nb q0 q1)) hZ (hw _ (List.mem_of_getElem? (i := 3) rfl)) (hw _ (List.mem_of_getElem? (i := 2) rfl)) (by decide) (by decide)) (g := (mkF m 7 #[.val (.long q0), .second, .val (.long q1), .second, .val (.long q2), .second, .val (.long (q1 - q0)), .second, .unset, .unset, .unset, .unset] [(.long q1), (.long q0)])) rfl (by rw [hml]; rfl) (argsL := [(.long q0), (.long q1)]) (rest := []) (lenOf pd_1 rfl) rfl (by show 2 * 0 + _ ≤ _; exact Nat.le_of_eq rfl) (hb hby at_7) (fun _ _ => ⟨rfl, e0, (by decide : 0 + 0 ≤ _), (by decide : 0 + 0 ≤ _)⟩)
  dsimp only [Pt.U, Pt.locs, Pt.cells, Pt.slots] at X1 l1 y1 z1 st1 hQ1
  subst l1 y1 z1
  obtain ⟨rfl, N1a, e1⟩ := hQ1
  have N1 := Fr.app N0 N1a
  obtain ⟨_, _, ⟨T2, L2, k2, n2⟩, -, X2, ⟨Lc2, hQ2, l2, y2, z2⟩, st2⟩ := Jvm.LawKit.callS X1 hx (y := (⟨"com/example/counterweight/counterweight/Outcome", "millisBetween", "(JJ)D"⟩ : MethodName)) hown (mvT hZ (hw _ (List.mem_of_getElem? (i := 0) rfl))) (mvT hZ (hw _ (List.mem_of_getElem? (i := 1) rfl))) (mvT hZ (hw _ (List.mem_of_getElem? (i := 2) rfl))) (mvT hZ (hw _ (List.mem_of_getElem? (i := 3) rfl))) (by decide) (backOf (W := 2) (rmB l Z a0 hw [] (q0 + q2) (q1 + q2) h0 n0 Z0 (own_nb (q0 + q2) (q1 + q2))) hZ (hw _ (List.mem_of_getElem? (i := 3) rfl)) (hw _ (List.mem_of_getElem? (i := 2) rfl)) (by decide) (by decide)) (g := (mkF m 31 #[.val (.long q0), .second, .val (.long q1), .second, .val (.long q2), .second, .val (.long (q1 - q0)), .second, .val (.double (own_mb q0 q1)), .second, .unset, .unset] [(.long (q1 + q2)), (.long (q0 + q2)), (.double (own_mb q0 q1))])) rfl (by rw [hml]; rfl) (argsL := [(.long (q0 + q2)), (.long (q1 + q2))]) (rest := [(.double (own_mb q0 q1))]) (lenOf pd_1 rfl) rfl (by show 2 * 0 + _ ≤ _; exact Nat.le_of_eq rfl) (hb hby at_31) (fun _ _ => ⟨rfl, e1, (by decide : 0 + 0 ≤ _), (by decide : 0 + 0 ≤ _)⟩)
  dsimp only [Pt.U, Pt.locs, Pt.cells, Pt.slots] at X2 l2 y2 z2 st2 hQ2
  subst l2 y2 z2
  obtain ⟨rfl, N2a, e2⟩ := hQ2
  have N2 := Fr.app N1 N2a
  obtain ⟨_, _, ⟨T3, L3, k3, n3⟩, -, X3, ⟨Lc3, hQ3, l3, y3, z3⟩, st3⟩ := Jvm.LawKit.callS X2 hx (y := (⟨"com/example/counterweight/counterweight/Outcome", "millisBetween", "(JJ)D"⟩ : MethodName)) hown (mvT hZ (hw _ (List.mem_of_getElem? (i := 0) rfl))) (mvT hZ (hw _ (List.mem_of_getElem? (i := 1) rfl))) (mvT hZ (hw _ (List.mem_of_getElem? (i := 2) rfl))) (mvT hZ (hw _ (List.mem_of_getElem? (i := 3) rfl))) (by decide) (backOf (W := 0) (rmB l Z a0 hw [] q0 (q0 + ((q2 &&& (1048575 : Int64)) * (1000000 : Int64))) h0 n0 Z0 (own_nb q0 (q0 + ((q2 &&& (1048575 : Int64)) * (1000000 : Int64))))) hZ (hw _ (List.mem_of_getElem? (i := 3) rfl)) (hw _ (List.mem_of_getElem? (i := 2) rfl)) (by decide) (by decide)) (g := (mkF m 88 #[.val (.long q0), .second, .val (.long q1), .second, .val (.long q2), .second, .val (.long (q1 - q0)), .second, .val (.double (own_mb q0 q1)), .second, .val (.long (q2 &&& (1048575 : Int64))), .second] [(.long (q0 + ((q2 &&& (1048575 : Int64)) * (1000000 : Int64)))), (.long q0)])) rfl (by rw [hml]; rfl) (argsL := [(.long q0), (.long (q0 + ((q2 &&& (1048575 : Int64)) * (1000000 : Int64))))]) (rest := []) (lenOf pd_1 rfl) rfl (by show 2 * 0 + _ ≤ _; exact Nat.le_of_eq rfl) (hb hby at_88) (fun _ _ => ⟨rfl, e2, (by decide : 0 + 0 ≤ _), (by decide : 0 + 0 ≤ _)⟩)
  dsimp only [Pt.U, Pt.locs, Pt.cells, Pt.slots] at X3 l3 y3 z3 st3 hQ3
  subst l3 y3 z3
  obtain ⟨rfl, N3a, e3⟩ := hQ3
  have N3 := Fr.app N2 N3a
  obtain ⟨fs, hr, hrun, hended, hW, hsame⟩ := X3.leave (v := some (.int (1 : Int32))) (fun h => by rw [Bd.returns] at h; cases h)
  refine ⟨_, _, pre0 _ ?_, hrun, hended, _, _, rfl, ?_, ⟨_, rfl⟩, hW, hsame.mono (Nat.le_of_ble_eq_true rfl) (Nat.le_of_ble_eq_true rfl)⟩
  · show Steps p.tables e below (s₁.setTop (mkF m 0 #[.val (.long q0), .second, .val (.long q1), .second, .val (.long q2), .second, .unset, .unset, .unset, .unset, .unset, .unset] [])) _
    refine XS.lloadN X0.here hx rfl (hb hby at_0) rfl ?_
    show Steps p.tables e below (s₁.setTop (mkF m 1 #[.val (.long q0), .second, .val (.long q1), .second, .val (.long q2), .second, .unset, .unset, .unset, .unset, .unset, .unset] [(.long q1)])) _
    refine XS.lloadN X0.here hx rfl (hb hby at_1) rfl ?_
    show Steps p.tables e below (s₁.setTop (mkF m 2 #[.val (.long q0), .second, .val (.long q1), .second, .val (.long q2), .second, .unset, .unset, .unset, .unset, .unset, .unset] [(.long q0), (.long q1)])) _
    refine XS.lsub X0.here hx rfl (hb hby at_2) rfl ?_
    show Steps p.tables e below (s₁.setTop (mkF m 3 #[.val (.long q0), .second, .val (.long q1), .second, .val (.long q2), .second, .unset, .unset, .unset, .unset, .unset, .unset] [(.long (q1 - q0))])) _
    refine XS.lstore X0.here hx rfl (hb hby at_3) rfl (l' := #[.val (.long q0), .second, .val (.long q1), .second, .val (.long q2), .second, .val (.long (q1 - q0)), .second, .unset, .unset, .unset, .unset]) rfl ?_
    show Steps p.tables e below (s₁.setTop (mkF m 5 #[.val (.long q0), .second, .val (.long q1), .second, .val (.long q2), .second, .val (.long (q1 - q0)), .second, .unset, .unset, .unset, .unset] [])) _
    refine XS.lloadN X0.here hx rfl (hb hby at_5) rfl ?_
    show Steps p.tables e below (s₁.setTop (mkF m 6 #[.val (.long q0), .second, .val (.long q1), .second, .val (.long q2), .second, .val (.long (q1 - q0)), .second, .unset, .unset, .unset, .unset] [(.long q0)])) _
    refine XS.lloadN X0.here hx rfl (hb hby at_6) rfl ?_
    show Steps p.tables e below (s₁.setTop (mkF m 7 #[.val (.long q0), .second, .val (.long q1), .second, .val (.long q2), .second, .val (.long (q1 - q0)), .second, .unset, .unset, .unset, .unset] [(.long q1), (.long q0)])) _
    refine st1 _ ?_
    show Steps p.tables e below (T1.setTop (mkF m 10 #[.val (.long q0), .second, .val (.long q1), .second, .val (.long q2), .second, .val (.long (q1 - q0)), .second, .unset, .unset, .unset, .unset] [(.double (own_mb q0 q1))])) _
    refine XS.dstore X1.here hx rfl (hb hby at_10) rfl (l' := #[.val (.long q0), .second, .val (.long q1), .second, .val (.long q2), .second, .val (.long (q1 - q0)), .second, .val (.double (own_mb q0 q1)), .second, .unset, .unset]) rfl ?_
    show Steps p.tables e below (T1.setTop (mkF m 12 #[.val (.long q0), .second, .val (.long q1), .second, .val (.long q2), .second, .val (.long (q1 - q0)), .second, .val (.double (own_mb q0 q1)), .second, .unset, .unset] [])) _
    refine XS.dload X1.here hx rfl (hb hby at_12) rfl ?_
    show Steps p.tables e below (T1.setTop (mkF m 14 #[.val (.long q0), .second, .val (.long q1), .second, .val (.long q2), .second, .val (.long (q1 - q0)), .second, .val (.double (own_mb q0 q1)), .second, .unset, .unset] [(.double (own_mb q0 q1))])) _
    refine XS.dconst0 X1.here hx rfl (hb hby at_14) rfl ?_
    show Steps p.tables e below (T1.setTop (mkF m 15 #[.val (.long q0), .second, .val (.long q1), .second, .val (.long q2), .second, .val (.long (q1 - q0)), .second, .val (.double (own_mb q0 q1)), .second, .unset, .unset] [(.double FP.dconst0), (.double (own_mb q0 q1))])) _
    refine XS.dcmpS X1.here hx rfl (hb hby at_15) rfl (cmpV_l _) ?_
    show Steps p.tables e below (T1.setTop (mkF m 16 #[.val (.long q0), .second, .val (.long q1), .second, .val (.long q2), .second, .val (.long (q1 - q0)), .second, .val (.double (own_mb q0 q1)), .second, .unset, .unset] [(.int (FP.cmpInt (-1) (FP.dcmp (own_mb q0 q1) FP.dconst0)))])) _
    refine XS.ifYes X1.here hx rfl (pc0 := 16) (pc' := 21) rfl (hb hby at_16) rfl b16 (by decide) (by decide) ?_
    show Steps p.tables e below (T1.setTop (mkF m 21 #[.val (.long q0), .second, .val (.long q1), .second, .val (.long q2), .second, .val (.long (q1 - q0)), .second, .val (.double (own_mb q0 q1)), .second, .unset, .unset] [])) _
    refine XS.dload X1.here hx rfl (hb hby at_21) rfl ?_
    show Steps p.tables e below (T1.setTop (mkF m 23 #[.val (.long q0), .second, .val (.long q1), .second, .val (.long q2), .second, .val (.long (q1 - q0)), .second, .val (.double (own_mb q0 q1)), .second, .unset, .unset] [(.double (own_mb q0 q1))])) _
    refine XS.lloadN X1.here hx rfl (hb hby at_23) rfl ?_
    show Steps p.tables e below (T1.setTop (mkF m 24 #[.val (.long q0), .second, .val (.long q1), .second, .val (.long q2), .second, .val (.long (q1 - q0)), .second, .val (.double (own_mb q0 q1)), .second, .unset, .unset] [(.long q0), (.double (own_mb q0 q1))])) _
    refine XS.lload X1.here hx rfl (hb hby at_24) rfl ?_
    show Steps p.tables e below (T1.setTop (mkF m 26 #[.val (.long q0), .second, .val (.long q1), .second, .val (.long q2), .second, .val (.long (q1 - q0)), .second, .val (.double (own_mb q0 q1)), .second, .unset, .unset] [(.long q2), (.long q0), (.double (own_mb q0 q1))])) _
    refine XS.ladd X1.here hx rfl (hb hby at_26) rfl ?_
    show Steps p.tables e below (T1.setTop (mkF m 27 #[.val (.long q0), .second, .val (.long q1), .second, .val (.long q2), .second, .val (.long (q1 - q0)), .second, .val (.double (own_mb q0 q1)), .second, .unset, .unset] [(.long (q0 + q2)), (.double (own_mb q0 q1))])) _
    refine XS.lloadN X1.here hx rfl (hb hby at_27) rfl ?_
    show Steps p.tables e below (T1.setTop (mkF m 28 #[.val (.long q0), .second, .val (.long q1), .second, .val (.long q2), .second, .val (.long (q1 - q0)), .second, .val (.double (own_mb q0 q1)), .second, .unset, .unset] [(.long q1), (.long (q0 + q2)), (.double (own_mb q0 q1))])) _
    refine XS.lload X1.here hx rfl (hb hby at_28) rfl ?_
    show Steps p.tables e below (T1.setTop (mkF m 30 #[.val (.long q0), .second, .val (.long q1), .second, .val (.long q2), .second, .val (.long (q1 - q0)), .second, .val (.double (own_mb q0 q1)), .second, .unset, .unset] [(.long q2), (.long q1), (.long (q0 + q2)), (.double (own_mb q0 q1))])) _
    refine XS.ladd X1.here hx rfl (hb hby at_30) rfl ?_
    show Steps p.tables e below (T1.setTop (mkF m 31 #[.val (.long q0), .second, .val (.long q1), .second, .val (.long q2), .second, .val (.long (q1 - q0)), .second, .val (.double (own_mb q0 q1)), .second, .unset, .unset] [(.long (q1 + q2)), (.long (q0 + q2)), (.double (own_mb q0 q1))])) _
    refine st2 _ ?_
    show Steps p.tables e below (T2.setTop (mkF m 34 #[.val (.long q0), .second, .val (.long q1), .second, .val (.long q2), .second, .val (.long (q1 - q0)), .second, .val (.double (own_mb q0 q1)), .second, .unset, .unset] [(.double (own_mb (q0 + q2) (q1 + q2))), (.double (own_mb q0 q1))])) _
    refine XS.dcmpS X2.here hx rfl (hb hby at_34) rfl (cmpV_l _) ?_
    show Steps p.tables e below (T2.setTop (mkF m 35 #[.val (.long q0), .second, .val (.long q1), .second, .val (.long q2), .second, .val (.long (q1 - q0)), .second, .val (.double (own_mb q0 q1)), .second, .unset, .unset] [(.int (FP.cmpInt (-1) (FP.dcmp (own_mb q0 q1) (own_mb (q0 + q2) (q1 + q2)))))])) _
    refine XS.ifYes X2.here hx rfl (pc0 := 35) (pc' := 40) rfl (hb hby at_35) rfl b35 (by decide) (by decide) ?_
    show Steps p.tables e below (T2.setTop (mkF m 40 #[.val (.long q0), .second, .val (.long q1), .second, .val (.long q2), .second, .val (.long (q1 - q0)), .second, .val (.double (own_mb q0 q1)), .second, .unset, .unset] [])) _
    refine XS.lload X2.here hx rfl (hb hby at_40) rfl ?_
    show Steps p.tables e below (T2.setTop (mkF m 42 #[.val (.long q0), .second, .val (.long q1), .second, .val (.long q2), .second, .val (.long (q1 - q0)), .second, .val (.double (own_mb q0 q1)), .second, .unset, .unset] [(.long (q1 - q0))])) _
    refine XS.lconst X2.here hx rfl (hb hby at_42) ?_
    show Steps p.tables e below (T2.setTop (mkF m 43 #[.val (.long q0), .second, .val (.long q1), .second, .val (.long q2), .second, .val (.long (q1 - q0)), .second, .val (.double (own_mb q0 q1)), .second, .unset, .unset] [(.long (0 : Int64)), (.long (q1 - q0))])) _
    refine XS.lcmp X2.here hx rfl (hb hby at_43) rfl ?_
    show Steps p.tables e below (T2.setTop (mkF m 44 #[.val (.long q0), .second, .val (.long q1), .second, .val (.long q2), .second, .val (.long (q1 - q0)), .second, .val (.double (own_mb q0 q1)), .second, .unset, .unset] [(.int (if (q1 - q0) > (0 : Int64) then 1 else if (q1 - q0) = (0 : Int64) then 0 else -1))])) _
    refine XS.ifYes X2.here hx rfl (pc0 := 44) (pc' := 56) rfl (hb hby at_44) rfl b44 (by decide) (by decide) ?_
    show Steps p.tables e below (T2.setTop (mkF m 56 #[.val (.long q0), .second, .val (.long q1), .second, .val (.long q2), .second, .val (.long (q1 - q0)), .second, .val (.double (own_mb q0 q1)), .second, .unset, .unset] [])) _
    refine XS.dload X2.here hx rfl (hb hby at_56) rfl ?_
    show Steps p.tables e below (T2.setTop (mkF m 58 #[.val (.long q0), .second, .val (.long q1), .second, .val (.long q2), .second, .val (.long (q1 - q0)), .second, .val (.double (own_mb q0 q1)), .second, .unset, .unset] [(.double (own_mb q0 q1))])) _
    refine XS.lload X2.here hx rfl (hb hby at_58) rfl ?_
    show Steps p.tables e below (T2.setTop (mkF m 60 #[.val (.long q0), .second, .val (.long q1), .second, .val (.long q2), .second, .val (.long (q1 - q0)), .second, .val (.double (own_mb q0 q1)), .second, .unset, .unset] [(.long (q1 - q0)), (.double (own_mb q0 q1))])) _
    refine XS.l2dS X2.here hx rfl (hb hby at_60) rfl rfl ?_
    show Steps p.tables e below (T2.setTop (mkF m 61 #[.val (.long q0), .second, .val (.long q1), .second, .val (.long q2), .second, .val (.long (q1 - q0)), .second, .val (.double (own_mb q0 q1)), .second, .unset, .unset] [(.double (FP.l2d (q1 - q0))), (.double (own_mb q0 q1))])) _
    refine X2.ldc2DoubleC hx hown (mvT hZ (hw _ (List.mem_of_getElem? (i := 11) rfl))) (g := (mkF m 61 #[.val (.long q0), .second, .val (.long q1), .second, .val (.long q2), .second, .val (.long (q1 - q0)), .second, .val (.double (own_mb q0 q1)), .second, .unset, .unset] [(.double (FP.l2d (q1 - q0))), (.double (own_mb q0 q1))])) rfl (hb hby at_61) _ ?_
    show Steps p.tables e below (T2.setTop (mkF m 64 #[.val (.long q0), .second, .val (.long q1), .second, .val (.long q2), .second, .val (.long (q1 - q0)), .second, .val (.double (own_mb q0 q1)), .second, .unset, .unset] [(.double (4696837146684686336 : UInt64)), (.double (FP.l2d (q1 - q0))), (.double (own_mb q0 q1))])) _
    refine XS.ddivS X2.here hx rfl (hb hby at_64) rfl n64 rfl ?_
    show Steps p.tables e below (T2.setTop (mkF m 65 #[.val (.long q0), .second, .val (.long q1), .second, .val (.long q2), .second, .val (.long (q1 - q0)), .second, .val (.double (own_mb q0 q1)), .second, .unset, .unset] [(.double (FP.ddiv (FP.l2d (q1 - q0)) (4696837146684686336 : UInt64))), (.double (own_mb q0 q1))])) _
    refine XS.dcmpS X2.here hx rfl (hb hby at_65) rfl (cmpV_l _) ?_
    show Steps p.tables e below (T2.setTop (mkF m 66 #[.val (.long q0), .second, .val (.long q1), .second, .val (.long q2), .second, .val (.long (q1 - q0)), .second, .val (.double (own_mb q0 q1)), .second, .unset, .unset] [(.int (FP.cmpInt (-1) (FP.dcmp (own_mb q0 q1) (FP.ddiv (FP.l2d (q1 - q0)) (4696837146684686336 : UInt64)))))])) _
    refine XS.ifYes X2.here hx rfl (pc0 := 66) (pc' := 71) rfl (hb hby at_66) rfl b66 (by decide) (by decide) ?_
    show Steps p.tables e below (T2.setTop (mkF m 71 #[.val (.long q0), .second, .val (.long q1), .second, .val (.long q2), .second, .val (.long (q1 - q0)), .second, .val (.double (own_mb q0 q1)), .second, .unset, .unset] [])) _
    refine XS.lload X2.here hx rfl (hb hby at_71) rfl ?_
    show Steps p.tables e below (T2.setTop (mkF m 73 #[.val (.long q0), .second, .val (.long q1), .second, .val (.long q2), .second, .val (.long (q1 - q0)), .second, .val (.double (own_mb q0 q1)), .second, .unset, .unset] [(.long q2)])) _
    refine X2.ldc2Long hx hown (mvT hZ (hw _ (List.mem_of_getElem? (i := 9) rfl))) (g := (mkF m 73 #[.val (.long q0), .second, .val (.long q1), .second, .val (.long q2), .second, .val (.long (q1 - q0)), .second, .val (.double (own_mb q0 q1)), .second, .unset, .unset] [(.long q2)])) rfl (hb hby at_73) _ ?_
    show Steps p.tables e below (T2.setTop (mkF m 76 #[.val (.long q0), .second, .val (.long q1), .second, .val (.long q2), .second, .val (.long (q1 - q0)), .second, .val (.double (own_mb q0 q1)), .second, .unset, .unset] [(.long (1048575 : Int64)), (.long q2)])) _
    refine XS.land X2.here hx rfl (hb hby at_76) rfl ?_
    show Steps p.tables e below (T2.setTop (mkF m 77 #[.val (.long q0), .second, .val (.long q1), .second, .val (.long q2), .second, .val (.long (q1 - q0)), .second, .val (.double (own_mb q0 q1)), .second, .unset, .unset] [(.long (q2 &&& (1048575 : Int64)))])) _
    refine XS.lstore X2.here hx rfl (hb hby at_77) rfl (l' := #[.val (.long q0), .second, .val (.long q1), .second, .val (.long q2), .second, .val (.long (q1 - q0)), .second, .val (.double (own_mb q0 q1)), .second, .val (.long (q2 &&& (1048575 : Int64))), .second]) rfl ?_
    show Steps p.tables e below (T2.setTop (mkF m 79 #[.val (.long q0), .second, .val (.long q1), .second, .val (.long q2), .second, .val (.long (q1 - q0)), .second, .val (.double (own_mb q0 q1)), .second, .val (.long (q2 &&& (1048575 : Int64))), .second] [])) _
    refine XS.lloadN X2.here hx rfl (hb hby at_79) rfl ?_
    show Steps p.tables e below (T2.setTop (mkF m 80 #[.val (.long q0), .second, .val (.long q1), .second, .val (.long q2), .second, .val (.long (q1 - q0)), .second, .val (.double (own_mb q0 q1)), .second, .val (.long (q2 &&& (1048575 : Int64))), .second] [(.long q0)])) _
    refine XS.lloadN X2.here hx rfl (hb hby at_80) rfl ?_
    show Steps p.tables e below (T2.setTop (mkF m 81 #[.val (.long q0), .second, .val (.long q1), .second, .val (.long q2), .second, .val (.long (q1 - q0)), .second, .val (.double (own_mb q0 q1)), .second, .val (.long (q2 &&& (1048575 : Int64))), .second] [(.long q0), (.long q0)])) _
    refine XS.lload X2.here hx rfl (hb hby at_81) rfl ?_
    show Steps p.tables e below (T2.setTop (mkF m 83 #[.val (.long q0), .second, .val (.long q1), .second, .val (.long q2), .second, .val (.long (q1 - q0)), .second, .val (.double (own_mb q0 q1)), .second, .val (.long (q2 &&& (1048575 : Int64))), .second] [(.long (q2 &&& (1048575 : Int64))), (.long q0), (.long q0)])) _
    refine X2.ldc2Long hx hown (mvT hZ (hw _ (List.mem_of_getElem? (i := 10) rfl))) (g := (mkF m 83 #[.val (.long q0), .second, .val (.long q1), .second, .val (.long q2), .second, .val (.long (q1 - q0)), .second, .val (.double (own_mb q0 q1)), .second, .val (.long (q2 &&& (1048575 : Int64))), .second] [(.long (q2 &&& (1048575 : Int64))), (.long q0), (.long q0)])) rfl (hb hby at_83) _ ?_
    show Steps p.tables e below (T2.setTop (mkF m 86 #[.val (.long q0), .second, .val (.long q1), .second, .val (.long q2), .second, .val (.long (q1 - q0)), .second, .val (.double (own_mb q0 q1)), .second, .val (.long (q2 &&& (1048575 : Int64))), .second] [(.long (1000000 : Int64)), (.long (q2 &&& (1048575 : Int64))), (.long q0), (.long q0)])) _
    refine XS.lmul X2.here hx rfl (hb hby at_86) rfl ?_
    show Steps p.tables e below (T2.setTop (mkF m 87 #[.val (.long q0), .second, .val (.long q1), .second, .val (.long q2), .second, .val (.long (q1 - q0)), .second, .val (.double (own_mb q0 q1)), .second, .val (.long (q2 &&& (1048575 : Int64))), .second] [(.long ((q2 &&& (1048575 : Int64)) * (1000000 : Int64))), (.long q0), (.long q0)])) _
    refine XS.ladd X2.here hx rfl (hb hby at_87) rfl ?_
    show Steps p.tables e below (T2.setTop (mkF m 88 #[.val (.long q0), .second, .val (.long q1), .second, .val (.long q2), .second, .val (.long (q1 - q0)), .second, .val (.double (own_mb q0 q1)), .second, .val (.long (q2 &&& (1048575 : Int64))), .second] [(.long (q0 + ((q2 &&& (1048575 : Int64)) * (1000000 : Int64)))), (.long q0)])) _
    refine st3 _ ?_
    show Steps p.tables e below (T3.setTop (mkF m 91 #[.val (.long q0), .second, .val (.long q1), .second, .val (.long q2), .second, .val (.long (q1 - q0)), .second, .val (.double (own_mb q0 q1)), .second, .val (.long (q2 &&& (1048575 : Int64))), .second] [(.double (own_mb q0 (q0 + ((q2 &&& (1048575 : Int64)) * (1000000 : Int64)))))])) _
    refine XS.lload X3.here hx rfl (hb hby at_91) rfl ?_
    show Steps p.tables e below (T3.setTop (mkF m 93 #[.val (.long q0), .second, .val (.long q1), .second, .val (.long q2), .second, .val (.long (q1 - q0)), .second, .val (.double (own_mb q0 q1)), .second, .val (.long (q2 &&& (1048575 : Int64))), .second] [(.long (q2 &&& (1048575 : Int64))), (.double (own_mb q0 (q0 + ((q2 &&& (1048575 : Int64)) * (1000000 : Int64)))))])) _
    refine XS.l2dS X3.here hx rfl (hb hby at_93) rfl rfl ?_
    show Steps p.tables e below (T3.setTop (mkF m 94 #[.val (.long q0), .second, .val (.long q1), .second, .val (.long q2), .second, .val (.long (q1 - q0)), .second, .val (.double (own_mb q0 q1)), .second, .val (.long (q2 &&& (1048575 : Int64))), .second] [(.double (FP.l2d (q2 &&& (1048575 : Int64)))), (.double (own_mb q0 (q0 + ((q2 &&& (1048575 : Int64)) * (1000000 : Int64)))))])) _
    refine XS.dcmpS X3.here hx rfl (hb hby at_94) rfl (cmpV_l _) ?_
    show Steps p.tables e below (T3.setTop (mkF m 95 #[.val (.long q0), .second, .val (.long q1), .second, .val (.long q2), .second, .val (.long (q1 - q0)), .second, .val (.double (own_mb q0 q1)), .second, .val (.long (q2 &&& (1048575 : Int64))), .second] [(.int (FP.cmpInt (-1) (FP.dcmp (own_mb q0 (q0 + ((q2 &&& (1048575 : Int64)) * (1000000 : Int64)))) (FP.l2d (q2 &&& (1048575 : Int64))))))])) _
    refine XS.ifNo X3.here hx rfl (hb hby at_95) rfl b95 ?_
    show Steps p.tables e below (T3.setTop (mkF m 98 #[.val (.long q0), .second, .val (.long q1), .second, .val (.long q2), .second, .val (.long (q1 - q0)), .second, .val (.double (own_mb q0 q1)), .second, .val (.long (q2 &&& (1048575 : Int64))), .second] [])) _
    refine XS.iconst X3.here hx rfl (hb hby at_98) ?_
    show Steps p.tables e below (T3.setTop (mkF m 99 #[.val (.long q0), .second, .val (.long q1), .second, .val (.long q2), .second, .val (.long (q1 - q0)), .second, .val (.double (own_mb q0 q1)), .second, .val (.long (q2 &&& (1048575 : Int64))), .second] [(.int (1 : Int32))])) _
    refine XS.goto X3.here hx rfl (pc0 := 99) (pc' := 103) rfl (hb hby at_99) (by decide) (by decide) ?_
    show Steps p.tables e below (T3.setTop (mkF m 103 #[.val (.long q0), .second, .val (.long q1), .second, .val (.long q2), .second, .val (.long (q1 - q0)), .second, .val (.double (own_mb q0 q1)), .second, .val (.long (q2 &&& (1048575 : Int64))), .second] [(.int (1 : Int32))])) _
    exact retN X3 hx (t := .boolean) Bd.returns (by simp) (hb hby at_103) hr
  · show QL n0 _ T3.heap _
    exact ⟨rfl, N3⟩
theorem own_rm0 (l : Launch) (Z : State) (a0 : Array Value) (hw : ∀ d ∈ tables_1, d.before a0 Z = true) (ws : List Jvm.Cond) (q0 q1 q2 : Int64) (h0 : Heap) (n0 : Nat) (Z0 : n0 ≤ h0.size) :
    MetFree l x (head1 (Jvm.Cond.code x code maxLocals ret :: ws) room_1) (fun a U => a = #[(.long q0), (.long q1), (.long q2)] ∧ Z.Warmed39 U.vm ∧ U.heap = h0) (fun _ _ _ _ _ => True) (fun _ U o U' => ∃ v L, o = .returned v ∧ QL n0 v U'.heap L ∧ FrameEnd U o U' L 0 0) := by
  by_cases h : q1 - q0 > 0
  · exact rm0b l Z a0 hw ws q0 q1 q2 h0 n0 Z0 (own_b16 q0 q1) (own_b35 q0 q1 q2) (own_b44t h) (own_n64 q0 q1) (own_b66 h) (own_b95 q0 q2)
  · exact rm0a l Z a0 hw ws q0 q1 q2 h0 n0 Z0 (own_b16 q0 q1) (own_b35 q0 q1 q2) (own_b44f h) (own_b51 h) (own_b95 q0 q2)
set_option maxRecDepth 65536 in
set_option maxHeartbeats 40000000 in
theorem comes_1 {Post : Tables → Env → Array Value → State → Outcome → State → Prop} (hpost : ∀ tb e args s v u, (limb_1_1.after args s (.returned v) u = true ∧ limb_1_2.after args s (.returned v) u = true ∧ True) → FrameEnd s (.returned v) u (Jvm.fieldLocs frame_1_writes args s ++ Jvm.arrayLocs frame_1_arrays args s ++ Jvm.staticLocs frame_1_statics s) 0 0 → Post tb e args s (.returned v) u) :
    ArmFor flags0 classFile x code maxLocals ret World_1 tables_1 room_1 Calls_1 rest_1 Pre_1 Post := by
  intro l hfl _ _ p e ha hc hk s m args below hf hA hF happ hP
  obtain ⟨hcalls, hrest, hpre⟩ := hP
  obtain ⟨-, -, -, hnamed, -, -, -, hat⟩ := (Spec.applies_iff hf).mp happ
  obtain ⟨hg, hn⟩ := and_e (Cond.before_iff.mp (show (Jvm.Cond.and given_1 narrow_1).before args s = true from hpre))
  obtain ⟨hcnt, g0⟩ := and_e hg
  obtain ⟨k0, g1⟩ := and_e g0
  obtain ⟨k1, g2⟩ := and_e g1
  obtain ⟨w0, w1, w2, rfl⟩ : ∃ w0 w1 w2 : Value, args = #[w0, w1, w2] := by
    have hs : args.size = 3 := by simpa [Cond.value, given_1] using hcnt
    obtain ⟨L⟩ := args
    match L, hs with
    | [w0, w1, w2], _ => exact ⟨w0, w1, w2, rfl⟩
  have hw := fun d (hd : d ∈ tables_1) => atoms_spec (ws := Jvm.Cond.code x code maxLocals ret :: tables_1) hat d (List.mem_cons_of_mem _ hd)
  have hfit : Fit s := fun {y c} hc i hi => by
    obtain ⟨ha, rfl⟩ := Array.getElem?_eq_some_iff.mp hc
    have q := List.all_eq_true.mp ((Array.all_eq_true_iff_forall_mem.mp hF) _ (Array.getElem_mem ha)) i (List.mem_range.mpr hi)
    simpa [Array.getElem?_eq_getElem hi] using q
  obtain ⟨i0, ei0⟩ := isL_v k0
  obtain rfl : w0 = (.long i0) := Option.some.inj ei0
  obtain ⟨i1, ei1⟩ := isL_v k1
  obtain rfl : w1 = (.long i1) := Option.some.inj ei1
  obtain ⟨i2, ei2⟩ := isL_v g2
  obtain rfl : w2 = (.long i2) := Option.some.inj ei2
  obtain ⟨n, o, h1, h2, h3, _, L, rfl, ⟨rfl, N⟩, hq⟩ := own_rm0 l s _ hw tables_1 i0 i1 i2 s.heap s.heap.size (Nat.le_refl _) p e ha hc hk s m _ below hf ((Spec.applies_iff_loose hf).mp happ).1 ⟨rfl, State.Warmed39.refl s, rfl⟩ trivial
  refine ⟨n, _, h1, h2, h3, hpost _ _ _ _ _ _ ⟨Cond.after_iff.mpr rfl, Cond.after_iff.mpr (eq_i res_at (Term.int_eval (1)) rfl), trivial⟩ ⟨hq.1, hq.2.1, (hq.2.2.sift fun y hy => Or.inr (N y hy)).mono (by decide) (by decide)⟩⟩
theorem main_1_1 : Claimed_1_1 := comes_1 fun _ _ _ _ _ _ h hF => ⟨h.1, hF⟩
theorem main_1_2 : Claimed_1_2 := comes_1 fun _ _ _ _ _ _ h hF => ⟨h.2.1, hF⟩
end Jvm.Pilot.@@N@@
namespace Jvm.Pilot.@@N@@
open Jvm Jvm.ClassFile Sem Op Lib Jvm.Free Jvm.Stand Jvm.Pilot.@@N@@.Jvm.D
/-! MADE BY PROGRAM (witnessworld.py) out of the Statement's table words and the real class files: 11 classes; the members and pool entries that the words name. The judged class is class 1, her method 1. -/
namespace start1
open Jvm.ClassFile
def u (s : String) : CpInfo := .utf8 (stringToUtf16 s)
/-- a pool by its gaps: so many unusable entries, then the entry; so many at the end -/
def gap : Nat → List CpInfo → List CpInfo
  | 0, r => r
  | n + 1, r => .unusable :: gap n r
def poolList (es : List (Nat × CpInfo)) (last : Nat) : List CpInfo := es.foldr (fun e r => gap e.1 (e.2 :: r)) (gap last [])
def pool (es : List (Nat × CpInfo)) (last : Nat) : Array CpInfo := ⟨poolList es last⟩
def fileOf (pool : Array CpInfo) (this : Nat) (attrs : Array Attribute := #[]) (ms : Array MethodInfo := #[]) (fl : Nat := 33) (sup : Nat := 0) (ifs : Array Nat := #[]) (fds : Array FieldInfo := #[]) : ClassFile where
  minorVersion := 0
  majorVersion := 65
  constantPool := pool
  accessFlags := fl
  thisClass := this
  superClass := sup
  interfaces := ifs
  fields := fds
  methods := ms
  attributes := attrs
def plain (name : String) (sup : Option ClassId) : Class where
  name := name
  kind := .ordinary
  loader := none
  accessFlags := 33
  super := sup
  interfaces := #[]
  cf := none
  fields := #[]
  methods := #[]
  instanceTypes := #[]
  staticTypes := #[]
  resolved := #[]
  callSites := []
  init := .initialized
  statics := none
  mirror := none

def pool0 : Array CpInfo := pool [(5, u "<init>"), (0, u "()V"), (1, .class_ 10), (1, u "java/lang/Object")] 113

def k0m0 : Method := { name := "<init>", desc := "()V", sig := { parameters := [], returnType := none }, accessFlags := 1, code := none }
/-- java/lang/Object -/
def k0 : Class := { plain "java/lang/Object" none with
  accessFlags := 33
  interfaces := #[]
  cf := some (fileOf pool0 8 #[] #[{ accessFlags := 1, nameIndex := 5, descriptorIndex := 6, attributes := #[] }] 33 0 #[] #[])
  fields := #[]
  methods := #[k0m0]
  instanceTypes := #[]
  staticTypes := #[]
  resolved := Array.replicate 124 none
  statics := none }

def pool1 : Array CpInfo := pool [(2, .class_ 4), (1, u "java/lang/Object"), (0, u "<init>"), (0, u "()V"), (0, .methodref 8 9), (0, .class_ 10), (0, .nameAndType 11 12), (0, u "com/example/counterweight/counterweight/Outcome"), (0, u "millisBetween"), (0, u "(JJ)D"), (0, .double 4696837146684686336), (1, .long 1048575), (1, .long 1000000), (1, .class_ 20), (0, u "com/example/counterweight/counterweight/OutcomeMillisBetweenPinLaw"), (2, u "law"), (0, u "(JJJ)Z")] 3

def k1m0 : Method := { name := "<init>", desc := "()V", sig := { parameters := [], returnType := none }, accessFlags := 1, code := none }
def k1c1 : Code := { maxStack := 8, maxLocals := 12, code := code, exceptionTable := #[], attributes := #[] }
def k1m1 : Method := { name := "law", desc := "(JJJ)Z", sig := { parameters := [.long, .long, .long], returnType := some .boolean }, accessFlags := 9, code := some k1c1 }
/-- com/example/counterweight/counterweight/OutcomeMillisBetweenPinLaw -/
def k1 : Class := { plain "com/example/counterweight/counterweight/OutcomeMillisBetweenPinLaw" (some 0) with
  accessFlags := 49
  interfaces := #[]
  cf := some (fileOf pool1 19 #[] #[{ accessFlags := 1, nameIndex := 5, descriptorIndex := 6, attributes := #[] }, { accessFlags := 9, nameIndex := 23, descriptorIndex := 24, attributes := #[] }] 49 2 #[] #[])
  fields := #[]
  methods := #[k1m0, k1m1]
  instanceTypes := #[]
  staticTypes := #[]
  resolved := Array.replicate 28 none
  statics := none }

def pool2 : Array CpInfo := pool [(2, .class_ 4), (1, u "java/lang/Object"), (0, u "<init>"), (0, u "()V"), (0, .class_ 8), (0, u "java/lang/Record")] 13

def k2m0 : Method := { name := "<init>", desc := "()V", sig := { parameters := [], returnType := none }, accessFlags := 4, code := none }
/-- java/lang/Record -/
def k2 : Class := { plain "java/lang/Record" (some 0) with
  accessFlags := 1057
  interfaces := #[]
  cf := some (fileOf pool2 7 #[] #[{ accessFlags := 4, nameIndex := 5, descriptorIndex := 6, attributes := #[] }] 1057 2 #[] #[])
  fields := #[]
  methods := #[k2m0]
  instanceTypes := #[]
  staticTypes := #[]
  resolved := Array.replicate 22 none
  statics := none }

def pool3 : Array CpInfo := pool [(2, .class_ 4), (1, u "java/lang/Record"), (3, .class_ 10), (1, u "com/example/counterweight/counterweight/Outcome"), (0, u "failed"), (0, u "Z"), (2, u "pickedAt"), (0, u "J"), (2, u "reportedAt"), (2, u "pickCount"), (2, u "millisBetween"), (0, u "(JJ)D"), (0, .methodref 28 29), (0, .class_ 30), (0, .nameAndType 31 32), (0, u "java/lang/Math"), (0, u "max"), (0, u "(JJ)J"), (0, .double 4696837146684686336), (13, u "NANOS_PER_MILLI"), (0, u "D")] 35

def k3c0 : Code := { maxStack := 6, maxLocals := 4, code := prog_17_method_3_code, exceptionTable := #[], attributes := #[] }
def k3m0 : Method := { name := "millisBetween", desc := "(JJ)D", sig := { parameters := [.long, .long], returnType := some .double }, accessFlags := 8, code := some k3c0 }
/-- com/example/counterweight/counterweight/Outcome -/
def k3 : Class := { plain "com/example/counterweight/counterweight/Outcome" (some 2) with
  accessFlags := 49
  interfaces := #[]
  cf := some (fileOf pool3 8 #[] #[{ accessFlags := 8, nameIndex := 25, descriptorIndex := 26, attributes := #[] }] 49 2 #[] #[{ accessFlags := 18, nameIndex := 11, descriptorIndex := 12, attributes := #[] }, { accessFlags := 18, nameIndex := 15, descriptorIndex := 16, attributes := #[] }, { accessFlags := 18, nameIndex := 19, descriptorIndex := 16, attributes := #[] }, { accessFlags := 18, nameIndex := 22, descriptorIndex := 16, attributes := #[] }, { accessFlags := 26, nameIndex := 47, descriptorIndex := 48, attributes := #[] }])
  fields := #[{ name := "failed", type := .boolean, accessFlags := 18, slot := 0, constantValue := 0 }, { name := "pickedAt", type := .long, accessFlags := 18, slot := 1, constantValue := 0 }, { name := "reportedAt", type := .long, accessFlags := 18, slot := 2, constantValue := 0 }, { name := "pickCount", type := .long, accessFlags := 18, slot := 3, constantValue := 0 }, { name := "NANOS_PER_MILLI", type := .double, accessFlags := 26, slot := 0, constantValue := 0 }]
  methods := #[k3m0]
  instanceTypes := #[.boolean, .long, .long, .long]
  staticTypes := #[.double]
  resolved := Array.replicate 84 none
  statics := none }

def pool4 : Array CpInfo := pool [(1, .class_ 2), (0, u "java/lang/Math"), (1, .class_ 6), (1, u "java/lang/Object"), (0, u "<init>"), (0, u "()V"), (89, .class_ 100), (1, u "java/lang/Math$RandomNumberGeneratorHolder"), (20, u "(JJ)J"), (50, u "negativeZeroFloatBits"), (0, u "J"), (2, u "negativeZeroDoubleBits"), (21, u "max"), (46, u "$assertionsDisabled"), (0, u "Z"), (91, u "twoToTheDoubleScaleDown"), (0, u "D"), (4, u "twoToTheDoubleScaleUp"), (9, u "E"), (3, u "PI"), (2, u "TAU"), (2, u "DEGREES_TO_RADIANS"), (0, u "RADIANS_TO_DEGREES")] 94

def k4m0 : Method := { name := "<init>", desc := "()V", sig := { parameters := [], returnType := none }, accessFlags := 2, code := none }
def k4c1 : Code := { maxStack := 4, maxLocals := 4, code := jdk_29_method_66_code, exceptionTable := #[], attributes := #[] }
def k4m1 : Method := { name := "max", desc := "(JJ)J", sig := { parameters := [.long, .long], returnType := some .long }, accessFlags := 9, code := some k4c1 }
/-- java/lang/Math -/
def k4 : Class := { plain "java/lang/Math" (some 0) with
  accessFlags := 49
  interfaces := #[]
  cf := some (fileOf pool4 1 #[.nestMembers #[98]] #[{ accessFlags := 2, nameIndex := 7, descriptorIndex := 8, attributes := #[] }, { accessFlags := 9, nameIndex := 198, descriptorIndex := 121, attributes := #[] }] 49 4 #[] #[{ accessFlags := 25, nameIndex := 354, descriptorIndex := 339, attributes := #[] }, { accessFlags := 25, nameIndex := 358, descriptorIndex := 339, attributes := #[] }, { accessFlags := 25, nameIndex := 361, descriptorIndex := 339, attributes := #[] }, { accessFlags := 26, nameIndex := 364, descriptorIndex := 339, attributes := #[] }, { accessFlags := 26, nameIndex := 365, descriptorIndex := 339, attributes := #[] }, { accessFlags := 26, nameIndex := 172, descriptorIndex := 173, attributes := #[] }, { accessFlags := 26, nameIndex := 176, descriptorIndex := 173, attributes := #[] }, { accessFlags := 8, nameIndex := 344, descriptorIndex := 339, attributes := #[] }, { accessFlags := 8, nameIndex := 338, descriptorIndex := 339, attributes := #[] }, { accessFlags := 4120, nameIndex := 245, descriptorIndex := 246, attributes := #[] }])
  fields := #[{ name := "E", type := .double, accessFlags := 25, slot := 0, constantValue := 0 }, { name := "PI", type := .double, accessFlags := 25, slot := 1, constantValue := 0 }, { name := "TAU", type := .double, accessFlags := 25, slot := 2, constantValue := 0 }, { name := "DEGREES_TO_RADIANS", type := .double, accessFlags := 26, slot := 3, constantValue := 0 }, { name := "RADIANS_TO_DEGREES", type := .double, accessFlags := 26, slot := 4, constantValue := 0 }, { name := "negativeZeroFloatBits", type := .long, accessFlags := 26, slot := 5, constantValue := 0 }, { name := "negativeZeroDoubleBits", type := .long, accessFlags := 26, slot := 6, constantValue := 0 }, { name := "twoToTheDoubleScaleUp", type := .double, accessFlags := 8, slot := 7, constantValue := 0 }, { name := "twoToTheDoubleScaleDown", type := .double, accessFlags := 8, slot := 8, constantValue := 0 }, { name := "$assertionsDisabled", type := .boolean, accessFlags := 4120, slot := 9, constantValue := 0 }]
  methods := #[k4m0, k4m1]
  instanceTypes := #[]
  staticTypes := #[.double, .double, .double, .double, .double, .long, .long, .double, .double, .boolean]
  resolved := Array.replicate 460 none
  statics := none }

def pool5 : Array CpInfo := pool [(1, u "java/lang/Cloneable"), (0, .class_ 1), (0, u "java/lang/Object"), (0, .class_ 3)] 3

/-- java/lang/Cloneable -/
def k5 : Class := { plain "java/lang/Cloneable" (some 0) with
  accessFlags := 1537
  interfaces := #[]
  cf := some (fileOf pool5 2 #[] #[] 1537 4 #[] #[])
  fields := #[]
  methods := #[]
  instanceTypes := #[]
  staticTypes := #[]
  resolved := Array.replicate 8 none
  statics := none }

def pool6 : Array CpInfo := pool [(1, u "java/io/Serializable"), (0, .class_ 1), (0, u "java/lang/Object"), (0, .class_ 3)] 3

/-- java/io/Serializable -/
def k6 : Class := { plain "java/io/Serializable" (some 0) with
  accessFlags := 1537
  interfaces := #[]
  cf := some (fileOf pool6 2 #[] #[] 1537 4 #[] #[])
  fields := #[]
  methods := #[]
  instanceTypes := #[]
  staticTypes := #[]
  resolved := Array.replicate 8 none
  statics := none }

/-- the primitive byte -/
def k7 : Class := { plain "byte" none with kind := .primitive 'B', accessFlags := 0x411 }
/-- [B -/
def k8 : Class := { plain "[B" (some 0) with kind := .array 7 .byte, interfaces := #[5, 6], accessFlags := 1041 }

/-- the primitive int -/
def k9 : Class := { plain "int" none with kind := .primitive 'I', accessFlags := 0x411 }
/-- [I -/
def k10 : Class := { plain "[I" (some 0) with kind := .array 9 .int, interfaces := #[5, 6], accessFlags := 1041 }

def heap : Heap := #[]
def classes : Array Class := #[k0, k1, k2, k3, k4, k5, k6, k7, k8, k9, k10]
def interned : List (Array UInt16 × Addr) := []
def slotsUsed : Nat := 0
def theMethod : MethodId := ⟨1, 1⟩
def args0 : Array Value := #[.long 5, .long 3, .long 7]
def aboutOver (below : List Frame) : State where
  vm := { classes := classes, interned := interned.toArray }
  heap := heap
  slotsUsed := slotsUsed
  threads := #[{ frames := .invoking theMethod args0 :: below }]
def below0 : List Frame := [.native { method := ⟨0, 0⟩, args := #[] }]
def about1 : State := aboutOver below0
def p0 : Program := .bare "" "" ""
def e0 : Env := launch0.env 0 0 0
theorem w_frames : about1.frames = Frame.invoking theMethod args0 :: below0 := rfl
set_option maxRecDepth 65536 in
theorem w_args : argsFit about1.vm theMethod args0 = true := by decide +kernel
set_option maxRecDepth 65536 in
theorem w_heap : heapFits about1 = true := by decide +kernel
set_option maxRecDepth 65536 in
theorem w_runnable : about1.curStatus? = some .runnable := by decide +kernel
set_option maxRecDepth 65536 in
theorem w_alone : about1.alone = true := by decide +kernel
set_option maxRecDepth 65536 in
theorem w_named : about1.methodNamed? x = some theMethod := by decide +kernel
set_option maxRecDepth 65536 in
theorem w_hears : about1.hears theMethod below0 = true := by decide +kernel
set_option maxRecDepth 65536 in
theorem w_ripe : about1.ripe theMethod args0 below0 = true := by decide +kernel
theorem w_running : about1.status = .running := rfl
set_option maxRecDepth 65536 in
theorem w_room : about1.hasRoom e0.platform room_1 = true :=
  launch0.hasRoom_least _ room_1 (by decide +kernel) (by decide +kernel) (by decide +kernel) (by decide +kernel) (by decide +kernel) (by decide +kernel)
theorem allAtoms_all (ts : List Jvm.Cond) (a : Array Jvm.Value) (st : Jvm.State) : (allAtoms ts).before a st = ts.all (fun c => c.before a st) := by
  induction ts with
  | nil => rfl
  | cons c t ih =>
    show (Jvm.Cond.and c (allAtoms t)).before a st = _
    rw [Jvm.Cond.before_and, ih, List.all_cons]
def words1 : List Jvm.Cond := Jvm.Cond.code x code maxLocals ret :: tables_1
/-- a 'code' word, met by the world's own term for the bytes: nothing is compared byte by byte -/
theorem code_word {y : MethodName} {bytes : ByteArray} {mx : Nat} {rt : Option FieldType} {a : Array Value} {s : State} {m : MethodId} {meth : Method} {c : Code} (h1 : s.methodNamed? y = some m) (h2 : s.vm.method? m = some meth) (h3 : meth.code = some c) (h4 : c.code = bytes)
    (h5 : (c.maxLocals == mx && c.exceptionTable.isEmpty && decide (c.maxStack ≤ mostOperands) && decide (meth.sig.returnType = rt) && !meth.locks && decide (parseMethodDescriptor y.desc = some meth.sig)) = true) : (Jvm.Cond.code y bytes mx rt).before a s = true := by
  simp only [Bool.and_eq_true, beq_iff_eq, Bool.not_eq_true', decide_eq_true_eq] at h5
  obtain ⟨⟨⟨⟨⟨g1, g2⟩, g3⟩, g4⟩, g5⟩, g6⟩ := h5
  simp [Cond.before, Cond.holds, Cond.value, h1, h2, h3, h4, g1, g2, g3, g4, g5, g6]
def isCode : Jvm.Cond → Bool
  | .code _ _ _ _ => true
  | _ => false
theorem all_split {L : List Jvm.Cond} {P : Jvm.Cond → Bool} (h1 : L.all (fun c => isCode c || P c) = true) (h2 : ∀ c ∈ L.filter isCode, P c = true) : L.all P = true := by
  refine List.all_eq_true.mpr fun c hc => ?_
  have h := List.all_eq_true.mp h1 c hc
  rcases Bool.eq_false_or_eq_true (isCode c) with hi | hi
  · exact h2 c (List.mem_filter.mpr ⟨hc, hi⟩)
  · simpa [hi] using h
set_option maxRecDepth 65536 in
theorem w_c0 : (Jvm.Cond.code x code maxLocals ret).before args0 about1 = true := code_word (m := ⟨1, 1⟩) (meth := k1m1) (c := k1c1) (by decide +kernel) rfl rfl rfl (by decide +kernel)
set_option maxRecDepth 65536 in
theorem w_c1 : (Jvm.Cond.code ({ cls := "com/example/counterweight/counterweight/Outcome", name := "millisBetween", desc := "(JJ)D" } : Jvm.MethodName) prog_17_method_3_code (4 : Nat) (Option.some Jvm.ClassFile.FieldType.double)).before args0 about1 = true := code_word (m := ⟨3, 0⟩) (meth := k3m0) (c := k3c0) (by decide +kernel) rfl rfl rfl (by decide +kernel)
set_option maxRecDepth 65536 in
theorem w_c2 : (Jvm.Cond.code ({ cls := "java/lang/Math", name := "max", desc := "(JJ)J" } : Jvm.MethodName) jdk_29_method_66_code (4 : Nat) (Option.some Jvm.ClassFile.FieldType.long)).before args0 about1 = true := code_word (m := ⟨4, 1⟩) (meth := k4m1) (c := k4c1) (by decide +kernel) rfl rfl rfl (by decide +kernel)
def codes1 : List Jvm.Cond := [Jvm.Cond.code x code maxLocals ret, Jvm.Cond.code ({ cls := "com/example/counterweight/counterweight/Outcome", name := "millisBetween", desc := "(JJ)D" } : Jvm.MethodName) prog_17_method_3_code (4 : Nat) (Option.some Jvm.ClassFile.FieldType.double), Jvm.Cond.code ({ cls := "java/lang/Math", name := "max", desc := "(JJ)J" } : Jvm.MethodName) jdk_29_method_66_code (4 : Nat) (Option.some Jvm.ClassFile.FieldType.long)]
set_option maxRecDepth 65536 in
theorem codes_eq : words1.filter isCode = codes1 := rfl
theorem w_codes : ∀ c ∈ words1.filter isCode, c.before args0 about1 = true := by
  rw [codes_eq]
  intro c hc
  simp only [codes1, List.mem_cons, List.not_mem_nil, or_false] at hc
  rcases hc with rfl | rfl | rfl
  · exact w_c0
  · exact w_c1
  · exact w_c2
set_option maxRecDepth 65536 in
theorem w_t1 : words1.all (fun c => isCode c || c.before args0 about1) = true := by decide +kernel
theorem w_tables : (allAtoms (Jvm.Cond.code x code maxLocals ret :: tables_1)).before args0 about1 = true := by
  rw [allAtoms_all]
  show words1.all (fun c => c.before args0 about1) = true
  refine all_split ?_ w_codes
  rw [w_t1]
set_option maxRecDepth 65536 in
theorem w_case : (Jvm.Cond.and given_1 narrow_1).before args0 about1 = true := by decide +kernel
theorem w_applies : (headSpec (Jvm.Cond.code x code maxLocals ret :: tables_1) room_1).applies x e0.platform about1 = true :=
  (Spec.applies_iff w_frames).mpr ⟨w_running, w_runnable, w_alone, w_named, w_hears, w_ripe, w_room, w_tables⟩
theorem atStart : AtStart classFile x code maxLocals ret World_1 tables_1 room_1 Calls_1 rest_1 Pre_1 launch0 p0 e0 about1 theMethod args0 below0 :=
  ⟨lists_1, trivial, launch0.admits_env _ _ _, launch0.least_env, fairChoices_fair.cas, fairChoices_fair.clock, w_frames, w_args, w_heap, w_applies, trivial, trivial, w_case⟩
end start1
theorem witness_1 : WitnessClaimed_1 := ⟨start1.p0, start1.e0, start1.about1, start1.theMethod, start1.args0, start1.below0, start1.atStart⟩
end Jvm.Pilot.@@N@@
