import JvmDerived
import JvmDerived.Pilot.@@N@@Statement
import JvmDerived.Pilot.@@N@@Code
set_option linter.unusedVariables false
set_option linter.unusedSimpArgs false
@@BLOCK:NumsL.lean.txt@@
namespace Jvm.OwnF
open Sem ClassFile Op Lib Jvm.Stand Jvm.Free Jvm.LawKit Jvm.RoadKit Jvm.Free.Fl
section Ret
variable {p : Program} {l : Launch} {e : Env} {R : Room} {s : State} {m : MethodId} {args : Array Value} {below : List Frame} {meth : Method} {c : Code} {T : State} {locs : List Loc} {cells slots : Nat}
theorem retD (X : Stand p l e R s m args below meth c T locs cells slots) (hx : p.tables.exec = Jvm.exec) {pc : Nat} {Ls : Array Slot} {z : UInt64} {rest : List Value} (hret : meth.sig.returnType = some .double) (hd : decode c.code pc = .ok (.dreturn, 1)) {fs : List Frame}
    (hl : ∀ (f : JFrame) (acts : List Action), f.method = m → f.locked = none → f.entered = [] → (doReturn e (T.setTop f) acts (some (.double z))).1 = T.setFrames fs) : Steps p.tables e below (T.setTop (mkF m pc Ls (.double z :: rest))) (T.setFrames fs) :=
  retOut X hx hret rfl (Or.inr (Or.inr (Or.inl ⟨rfl, rfl, z, rfl⟩))) hd hl
theorem retJ (X : Stand p l e R s m args below meth c T locs cells slots) (hx : p.tables.exec = Jvm.exec) {pc : Nat} {Ls : Array Slot} {z : Int64} {rest : List Value} (hret : meth.sig.returnType = some .long) (hd : decode c.code pc = .ok (.lreturn, 1)) {fs : List Frame}
    (hl : ∀ (f : JFrame) (acts : List Action), f.method = m → f.locked = none → f.entered = [] → (doReturn e (T.setTop f) acts (some (.long z))).1 = T.setFrames fs) : Steps p.tables e below (T.setTop (mkF m pc Ls (.long z :: rest))) (T.setFrames fs) :=
  retOut X hx hret rfl (Or.inr (Or.inl ⟨rfl, rfl, z, rfl⟩)) hd hl
theorem retI (X : Stand p l e R s m args below meth c T locs cells slots) (hx : p.tables.exec = Jvm.exec) {pc : Nat} {Ls : Array Slot} {z : Int32} {rest : List Value} (hret : meth.sig.returnType = some .int) (hd : decode c.code pc = .ok (.ireturn, 1)) {fs : List Frame}
    (hl : ∀ (f : JFrame) (acts : List Action), f.method = m → f.locked = none → f.entered = [] → (doReturn e (T.setTop f) acts (some (.int z))).1 = T.setFrames fs) : Steps p.tables e below (T.setTop (mkF m pc Ls (.int z :: rest))) (T.setFrames fs) :=
  retOut X hx hret rfl (Or.inl ⟨rfl, Or.inl rfl, z, rfl⟩) hd hl
theorem retA (X : Stand p l e R s m args below meth c T locs cells slots) (hx : p.tables.exec = Jvm.exec) {pc : Nat} {Ls : Array Slot} {w : Value} {t : FieldType} {rest : List Value} (hret : meth.sig.returnType = some t) (ht : t.isReference = true) (hw : w.isRef = true) (hd : decode c.code pc = .ok (.areturn, 1)) {fs : List Frame}
    (hl : ∀ (f : JFrame) (acts : List Action), f.method = m → f.locked = none → f.entered = [] → (doReturn e (T.setTop f) acts (some w)).1 = T.setFrames fs) : Steps p.tables e below (T.setTop (mkF m pc Ls (w :: rest))) (T.setFrames fs) :=
  retOut X hx hret (by rcases ref_cases hw with rfl | ⟨a, rfl⟩ <;> cases t <;> first | rfl | (cases ht; done)) (Or.inr (Or.inr (Or.inr (Or.inr ⟨rfl, ht, hw⟩)))) hd hl
end Ret
end Jvm.OwnF
namespace Jvm.OwnF
open Jvm.FP.Core
/-- a double's magnitude, in units of 2^-1074 -/
def Zm (a : UInt64) : Nat := zmag b64 (val64 a)
/-- a double's value, in units of 2^-1074 -/
def Zv (a : UInt64) : Int := zval b64 (val64 a)
theorem one64_pow : one64 = 2 ^ 1074 := rfl
theorem fin_form {a : UInt64} (h : DFin a) : ∃ s c q, val64 a = .fin s c q ∧ b64.qmin ≤ q ∧ Zm a = c * 2 ^ (q + 1074).toNat ∧ sgn (val64 a) = s := by
  obtain ⟨s, c, q, e⟩ := h
  have f := val64_fits a
  rw [e] at f
  refine ⟨s, c, q, e, f.2.1, ?_, by rw [e]; rfl⟩
  unfold Zm
  rw [e]
  show c * 2 ^ (q - b64.qmin).toNat = _
  rw [qmin_b64, show q - (-1074) = q + 1074 by omega]
theorem ddiv_form {a b : UInt64} (ha : DFin a) (hb : DFin b) (hz : Zm b ≠ 0) :
    val64 (ddiv a b) = roundRatio b64 (sgn (val64 a) != sgn (val64 b)) (Zm a) (Zm b) 0 := by
  obtain ⟨s, c, q, ea, hq, za, sa⟩ := fin_form ha
  obtain ⟨t, d, r, eb, hr, zb, sb⟩ := fin_form hb
  rw [qmin_b64] at hq hr
  have hd : d ≠ 0 := fun h => hz (by rw [zb, h, Nat.zero_mul])
  rw [val64_ddiv, sa, sb, za, zb, ea, eb]
  show (if d = 0 then _ else roundRatio b64 (s != t) c d (q - r)) = _
  rw [if_neg hd]
  refine roundRatio_congr (Nat.pos_of_ne_zero hd) (Nat.mul_pos (Nat.pos_of_ne_zero hd) (Nat.two_pow_pos _)) ?_
  have e1 : (q - r - 0).toNat + (r + 1074).toNat = (q + 1074).toNat + (0 - (q - r)).toNat := by omega
  calc c * (d * 2 ^ (r + 1074).toNat) * 2 ^ (q - r - 0).toNat = c * d * (2 ^ ((q - r - 0).toNat + (r + 1074).toNat)) := by
        rw [Nat.pow_add]; simp only [Nat.mul_assoc, Nat.mul_comm, Nat.mul_left_comm]
    _ = c * d * (2 ^ ((q + 1074).toNat + (0 - (q - r)).toNat)) := by rw [e1]
    _ = c * 2 ^ (q + 1074).toNat * d * 2 ^ (0 - (q - r)).toNat := by
        rw [Nat.pow_add]; simp only [Nat.mul_assoc, Nat.mul_comm, Nat.mul_left_comm]
theorem inU (A : Nat) : inUnits A 0 (-1074) = A * one64 := rfl
theorem ddiv_ne_nan {a b : UInt64} (ha : DFin a) (hb : DFin b) (hz : Zm b ≠ 0) : val64 (ddiv a b) ≠ .nan := by
  rw [ddiv_form ha hb hz]; exact roundRatio_ne_nan _ _ _ _ _
theorem ddiv_sgn {a b : UInt64} (ha : DFin a) (hb : DFin b) (hz : Zm b ≠ 0) : sgn (val64 (ddiv a b)) = (sgn (val64 a) != sgn (val64 b)) := by
  rw [ddiv_form ha hb hz]; exact sgn_roundRatio _ _ _ _ _
theorem ddiv_le {a b v : UInt64} (ha : DFin a) (hb : DFin b) (hz : Zm b ≠ 0) (hv : val64 v ≠ .nan) (h : Zm a * one64 ≤ Zm v * Zm b) : Zm (ddiv a b) ≤ Zm v := by
  unfold Zm
  rw [ddiv_form ha hb hz]
  refine zmag_roundRatio_le good_b64 (Nat.pos_of_ne_zero hz) (val64_fits v) hv (e0 := -1074) (by decide) (by decide) ?_
  rw [inU, show (b64.qmin - -1074).toNat = 0 by decide, Nat.pow_zero, Nat.mul_one]
  exact h
theorem ddiv_ge {a b v : UInt64} (ha : DFin a) (hb : DFin b) (hz : Zm b ≠ 0) (h : Zm v * Zm b ≤ Zm a * one64) : Zm v ≤ Zm (ddiv a b) := by
  show _ ≤ zmag b64 _
  rw [ddiv_form ha hb hz]
  refine zmag_roundRatio_ge good_b64 (Nat.pos_of_ne_zero hz) (val64_fits v) (e0 := -1074) (by decide) (by decide) ?_
  rw [inU, show (b64.qmin - -1074).toNat = 0 by decide, Nat.pow_zero, Nat.mul_one]
  exact h
theorem fin_iff_Zm {a : UInt64} (h : val64 a ≠ .nan) : DFin a ↔ Zm a < Zm 9218868437227405312 := by
  have hi : val64 9218868437227405312 = .inf false := by decide +kernel
  constructor
  · intro hf
    have := hf.zval_lt
    unfold Zm
    rw [hi]
    exact this
  · intro hl
    cases e : val64 a with
    | nan => exact absurd e h
    | inf s => unfold Zm at hl; rw [hi, e] at hl; exact absurd hl (Nat.lt_irrefl _)
    | fin s c q => exact ⟨s, c, q, e⟩
theorem fin_of_le {a v : UInt64} (h : val64 a ≠ .nan) (hv : DFin v) (hl : Zm a ≤ Zm v) : DFin a :=
  (fin_iff_Zm h).mpr (Nat.lt_of_le_of_lt hl ((fin_iff_Zm hv.ne_nan).mp hv))
theorem Zv_pos {a : UInt64} (hs : sgn (val64 a) = false) : Zv a = (Zm a : Int) := by
  unfold Zv Zm zval signed
  rw [hs]; simp
theorem Zv_neg {a : UInt64} (hs : sgn (val64 a) = true) : Zv a = -(Zm a : Int) := by
  unfold Zv Zm zval signed
  rw [hs]; simp
theorem cmp_Zv {a b : UInt64} (ha : val64 a ≠ .nan) (hb : val64 b ≠ .nan) : dcmp a b = some (compare (Zv a) (Zv b)) := dcmp_zval ha hb
theorem Zm_DInt {i : Int} {a : UInt64} (h : DInt i a) : Zm a = i.natAbs * one64 := by
  have h1 := DInt_zval h
  have h2 : (zval b64 (val64 a)).natAbs = Zm a := by unfold zval Zm; exact natAbs_signed _ _
  rw [← h2, h1, Int.natAbs_mul]; rfl
theorem DInt_fin {i : Int} {a : UInt64} (h : DInt i a) : DFin a := by
  unfold DInt at h
  cases e : val64 a with
  | nan => rw [e] at h; exact h.elim
  | inf s => rw [e] at h; exact h.elim
  | fin s c q => exact ⟨s, c, q, e⟩
theorem DInt_sgn {i : Int} {a : UInt64} (h : DInt i a) (hi : i ≠ 0) : sgn (val64 a) = decide (i < 0) := by
  obtain ⟨s, c, q, e⟩ := DInt_fin h
  unfold DInt at h
  rw [e] at h ⊢
  exact whole_sign h hi
/-- equal magnitudes, equal signs, nonzero: the same double -/
theorem eq_of_Zm {a b : UInt64} (ha : val64 a ≠ .nan) (hb : val64 b ≠ .nan) (hs : sgn (val64 a) = sgn (val64 b)) (hm : Zm a = Zm b) (hz : Zm b ≠ 0) : a = b := by
  refine eq_bits (fun hzz => hz ?_) ?_
  · obtain ⟨s, q, e⟩ := hzz
    unfold Zm; rw [e]; exact Nat.zero_mul _
  · rw [cmp_Zv ha hb]
    have : Zv a = Zv b := by unfold Zv zval; rw [hs]; show signed _ (Zm a) = signed _ (Zm b); rw [hm]
    rw [this, compare_self_int]
theorem pos_gt_zero {a : UInt64} (ha : val64 a ≠ .nan) (hs : sgn (val64 a) = false) (hm : Zm a ≠ 0) : dcmp a 0 = some .gt := by
  rw [cmp_Zv ha (by rw [val64_zero]; nofun), Zv_pos hs, show Zv 0 = 0 from zval64_zero, Option.some.injEq, compare_gt_iff]
  omega
theorem cmp_pos {a b : UInt64} (ha : val64 a ≠ .nan) (hb : val64 b ≠ .nan) (hsa : sgn (val64 a) = false) (hsb : sgn (val64 b) = false) : dcmp a b = some (compare (Zm a : Int) (Zm b : Int)) := by
  rw [cmp_Zv ha hb, Zv_pos hsa, Zv_pos hsb]
theorem le_pos {a b : UInt64} (ha : val64 a ≠ .nan) (hb : val64 b ≠ .nan) (hsa : sgn (val64 a) = false) (hsb : sgn (val64 b) = false) (h : Zm a ≤ Zm b) : dcmp a b = some .lt ∨ dcmp a b = some .eq := by
  rw [cmp_pos ha hb hsa hsb, Option.some.injEq, Option.some.injEq, compare_lt_iff, compare_eq_iff]
  omega
theorem lt_pos {a b : UInt64} (ha : val64 a ≠ .nan) (hb : val64 b ≠ .nan) (hsa : sgn (val64 a) = false) (hsb : sgn (val64 b) = false) (h : Zm a < Zm b) : dcmp a b = some .lt := by
  rw [cmp_pos ha hb hsa hsb, Option.some.injEq, compare_lt_iff]
  omega
theorem dadd_le {a b v : UInt64} (ha : DFin a) (hb : DFin b) (hv : val64 v ≠ .nan) (h : Zv a + Zv b ≤ Zv v) : Zv (dadd a b) ≤ Zv v := by
  unfold Zv; rw [val64_dadd]; exact sum_le good_b64 ha hb (val64_fits a) (val64_fits b) (val64_fits v) hv h
theorem dadd_ge {a b v : UInt64} (ha : DFin a) (hb : DFin b) (hv : val64 v ≠ .nan) (h : Zv v ≤ Zv a + Zv b) : Zv v ≤ Zv (dadd a b) := by
  unfold Zv; rw [val64_dadd]; exact sum_ge good_b64 ha hb (val64_fits a) (val64_fits b) (val64_fits v) hv h
theorem fin_negate {a : UInt64} (h : DFin a) : ∃ s c q, negate (val64 a) = .fin s c q := by
  obtain ⟨s, c, q, e⟩ := h; rw [e]; exact ⟨_, _, _, rfl⟩
theorem dsub_le {a b v : UInt64} (ha : DFin a) (hb : DFin b) (hv : val64 v ≠ .nan) (h : Zv a - Zv b ≤ Zv v) : Zv (dsub a b) ≤ Zv v := by
  unfold Zv; rw [val64_dsub]
  refine sum_le good_b64 ha (fin_negate hb) (val64_fits a) (negate_fits (val64_fits b)) (val64_fits v) hv ?_
  rw [zval_negate]; unfold Zv at h; omega
theorem dsub_ge {a b v : UInt64} (ha : DFin a) (hb : DFin b) (hv : val64 v ≠ .nan) (h : Zv v ≤ Zv a - Zv b) : Zv v ≤ Zv (dsub a b) := by
  unfold Zv; rw [val64_dsub]
  refine sum_ge good_b64 ha (fin_negate hb) (val64_fits a) (negate_fits (val64_fits b)) (val64_fits v) hv ?_
  rw [zval_negate]; unfold Zv at h; omega
theorem dadd_ne_nan {a b : UInt64} (ha : DFin a) (hb : DFin b) : val64 (dadd a b) ≠ .nan := (notNaN_iff _).mp (dadd_out ha.notNaN hb)
theorem dsub_ne_nan {a b : UInt64} (ha : DFin a) (hb : DFin b) : val64 (dsub a b) ≠ .nan := (notNaN_iff _).mp (dsub_out ha.notNaN hb)
theorem dmul_ne_nan {a b : UInt64} (ha : DFin a) (hb : DFin b) : val64 (dmul a b) ≠ .nan := (notNaN_iff _).mp (dmul_out ha hb)
theorem dmul_form {a b : UInt64} (ha : DFin a) (hb : DFin b) : val64 (dmul a b) = roundRatio b64 (sgn (val64 a) != sgn (val64 b)) (Zm a * Zm b) 1 (-2148) := by
  obtain ⟨s, c, q, ea, hq, za, sa⟩ := fin_form ha
  obtain ⟨t, d, r, eb, hr, zb, sb⟩ := fin_form hb
  rw [qmin_b64] at hq hr
  rw [val64_dmul, sa, sb, za, zb, ea, eb]
  show roundRatio b64 (s != t) (c * d) 1 (q + r) = _
  refine roundRatio_congr (by decide) (by decide) ?_
  rw [show (-2148 - (q + r)).toNat = 0 by omega, show (q + r - -2148).toNat = (q + 1074).toNat + (r + 1074).toNat by omega, Nat.pow_add]
  simp only [Nat.mul_assoc, Nat.mul_comm, Nat.mul_left_comm, Nat.pow_zero, Nat.mul_one, Nat.one_mul]
theorem dmul_sgn {a b : UInt64} (ha : DFin a) (hb : DFin b) : sgn (val64 (dmul a b)) = (sgn (val64 a) != sgn (val64 b)) := by
  rw [dmul_form ha hb]; exact sgn_roundRatio _ _ _ _ _
theorem inU2 (A : Nat) : inUnits A (-2148) (-2148) = A := by unfold inUnits; rw [Int.sub_self]; exact Nat.mul_one _
theorem dmul_le {a b v : UInt64} (ha : DFin a) (hb : DFin b) (hv : val64 v ≠ .nan) (h : Zm a * Zm b ≤ Zm v * one64) : Zm (dmul a b) ≤ Zm v := by
  unfold Zm
  rw [dmul_form ha hb]
  refine zmag_roundRatio_le good_b64 (by decide) (val64_fits v) hv (e0 := -2148) (by decide) (by decide) ?_
  rw [inU2, Nat.mul_one, show (b64.qmin - -2148).toNat = 1074 by decide]
  exact h
theorem dmul_ge {a b v : UInt64} (ha : DFin a) (hb : DFin b) (h : Zm v * one64 ≤ Zm a * Zm b) : Zm v ≤ Zm (dmul a b) := by
  show _ ≤ zmag b64 _
  rw [dmul_form ha hb]
  refine zmag_roundRatio_ge good_b64 (by decide) (val64_fits v) (e0 := -2148) (by decide) (by decide) ?_
  rw [inU2, Nat.mul_one, show (b64.qmin - -2148).toNat = 1074 by decide]
  exact h
theorem noNaN {a : UInt64} (h : val64 a ≠ .nan) : Jvm.Free.Fl.NoNaN64 a := Jvm.Free.Fl.val64_no.mpr h
/-- powers of two up to 2^62, as a shift leaves them -/
theorem pow_l2d : ∀ k : Fin 63, val64 (l2d ((1 : Int64) <<< ((Int32.ofNat k.val) &&& 0x3f).toInt64)) = .fin false (2 ^ 52) ((k.val : Int) - 52) := by decide +kernel
theorem i32_of_lt {x : Int32} {n : Nat} (h0 : 0 ≤ x.toInt) (h : x.toInt < n) : ∃ k : Nat, k < n ∧ x = Int32.ofNat k := by
  refine ⟨x.toInt.toNat, by omega, ?_⟩
  apply Int32.toInt_inj.mp
  have := x.toInt_lt
  rw [Int32.toInt_ofNat_of_lt (by omega)]
  omega
theorem shl_l2d {x : Int32} (h0 : 0 ≤ x.toInt) (h : x.toInt < 63) : ∃ k : Nat, k < 63 ∧ x.toInt = k ∧ DFin (l2d ((1 : Int64) <<< (x &&& 0x3f).toInt64)) ∧ sgn (val64 (l2d ((1 : Int64) <<< (x &&& 0x3f).toInt64))) = false ∧ Zm (l2d ((1 : Int64) <<< (x &&& 0x3f).toInt64)) = 2 ^ k * one64 := by
  obtain ⟨k, hk, rfl⟩ := i32_of_lt (n := 63) h0 (by omega)
  have hp := pow_l2d ⟨k, hk⟩
  have hv : (Int32.ofNat k).toInt = k := Int32.toInt_ofNat_of_lt (by omega)
  refine ⟨k, hk, hv, ⟨_, _, _, hp⟩, by rw [hp]; rfl, ?_⟩
  unfold Zm
  rw [hp]
  show 2 ^ 52 * 2 ^ ((k : Int) - 52 - b64.qmin).toNat = _
  rw [qmin_b64, one64_pow, ← Nat.pow_add, ← Nat.pow_add]
  congr 1
  omega
theorem irem_range {x n : Int32} (hx : 0 ≤ x.toInt) (hn : 0 < n.toInt) : 0 ≤ (x - x / n * n).toInt ∧ (x - x / n * n).toInt < n.toInt := by
  have h1 : x - x / n * n = x % n := irem_eq_mod x n
  rw [h1, Int32.toInt_mod]
  exact ⟨Int.tmod_nonneg _ hx, by have := Int.tmod_lt_of_pos x.toInt hn; omega⟩
theorem and_bounds (x : Int32) {m : Int32} (hm : 0 ≤ m.toInt) : 0 ≤ (x &&& m).toInt ∧ (x &&& m).toInt ≤ m.toInt := by
  have h1 : (x &&& m).toInt = (x.toBitVec &&& m.toBitVec).toInt := rfl
  have h2 : m.toInt = m.toBitVec.toInt := rfl
  rw [h2, BitVec.toInt_eq_toNat_cond] at hm
  rw [h1, h2, BitVec.toInt_eq_toNat_cond, BitVec.toInt_eq_toNat_cond, BitVec.toNat_and]
  have h3 := Nat.and_le_right (n := x.toBitVec.toNat) (m := m.toBitVec.toNat)
  have h4 := m.toBitVec.isLt
  split at hm
  · rw [if_pos (by omega), if_pos (by omega)]; omega
  · omega
theorem and_range {x : Int32} : 0 ≤ (x &&& 2147483647).toInt := (and_bounds x (by decide)).1
theorem Zm_one : Zm 4607182418800017408 = one64 := by unfold Zm; decide +kernel
theorem fin_one : DFin 4607182418800017408 := ⟨false, 2 ^ 52, -52, by decide +kernel⟩
theorem sgn_one : sgn (val64 4607182418800017408) = false := by decide +kernel
theorem pow_split (m n : Nat) (h : m + n = 1074) : 2 ^ m * 2 ^ n = one64 := by rw [← Nat.pow_add, h]; rfl
theorem i2d_fin' (x : Int32) : DFin (i2d x) := DInt_fin (i2d_int x)
theorem i2d_Zm (x : Int32) : Zm (i2d x) = x.toInt.natAbs * one64 := Zm_DInt (i2d_int x)
theorem i2d_sgn {x : Int32} (h : 0 < x.toInt) : sgn (val64 (i2d x)) = false := by rw [DInt_sgn (i2d_int x) (by omega)]; simp; omega
theorem Zm_ne {a : UInt64} {n : Nat} (h : Zm a = n * one64) (hn : n ≠ 0) : Zm a ≠ 0 := by
  rw [h]; exact Nat.mul_ne_zero hn (by have := one64_pos; omega)
theorem if_l_gt {cd : Jvm.ClassFile.Cond} {a b : UInt64} {r : Bool} (h : Jvm.FP.dcmp a b = some .gt) (hr : Jvm.Op.ifCond.holds cd 1 = r) : Jvm.Op.ifCond.holds cd (Jvm.FP.cmpInt (-1) (Jvm.FP.dcmp a b)) = r := by rw [h]; exact hr
theorem if_l_eq {cd : Jvm.ClassFile.Cond} {a b : UInt64} {r : Bool} (h : Jvm.FP.dcmp a b = some .eq) (hr : Jvm.Op.ifCond.holds cd 0 = r) : Jvm.Op.ifCond.holds cd (Jvm.FP.cmpInt (-1) (Jvm.FP.dcmp a b)) = r := by rw [h]; exact hr
theorem if_l_lt {cd : Jvm.ClassFile.Cond} {a b : UInt64} {r : Bool} (h : Jvm.FP.dcmp a b = some .lt) (hr : Jvm.Op.ifCond.holds cd (-1) = r) : Jvm.Op.ifCond.holds cd (Jvm.FP.cmpInt (-1) (Jvm.FP.dcmp a b)) = r := by rw [h]; exact hr
theorem if_g_gt {cd : Jvm.ClassFile.Cond} {a b : UInt64} {r : Bool} (h : Jvm.FP.dcmp a b = some .gt) (hr : Jvm.Op.ifCond.holds cd 1 = r) : Jvm.Op.ifCond.holds cd (Jvm.FP.cmpInt 1 (Jvm.FP.dcmp a b)) = r := by rw [h]; exact hr
theorem if_g_eq {cd : Jvm.ClassFile.Cond} {a b : UInt64} {r : Bool} (h : Jvm.FP.dcmp a b = some .eq) (hr : Jvm.Op.ifCond.holds cd 0 = r) : Jvm.Op.ifCond.holds cd (Jvm.FP.cmpInt 1 (Jvm.FP.dcmp a b)) = r := by rw [h]; exact hr
theorem if_g_lt {cd : Jvm.ClassFile.Cond} {a b : UInt64} {r : Bool} (h : Jvm.FP.dcmp a b = some .lt) (hr : Jvm.Op.ifCond.holds cd (-1) = r) : Jvm.Op.ifCond.holds cd (Jvm.FP.cmpInt 1 (Jvm.FP.dcmp a b)) = r := by rw [h]; exact hr
theorem cmpl_gt {a b : UInt64} (h : Jvm.FP.dcmp a b = some .gt) : Jvm.FP.cmpInt (-1) (Jvm.FP.dcmp a b) = 1 := by rw [h]; rfl
theorem cmpg_gt {a b : UInt64} (h : Jvm.FP.dcmp a b = some .gt) : Jvm.FP.cmpInt 1 (Jvm.FP.dcmp a b) = 1 := by rw [h]; rfl
theorem cmpl_lt {a b : UInt64} (h : Jvm.FP.dcmp a b = some .lt) : Jvm.FP.cmpInt (-1) (Jvm.FP.dcmp a b) = -1 := by rw [h]; rfl
theorem cmpg_lt {a b : UInt64} (h : Jvm.FP.dcmp a b = some .lt) : Jvm.FP.cmpInt 1 (Jvm.FP.dcmp a b) = -1 := by rw [h]; rfl
theorem cmpl_eq {a b : UInt64} (h : Jvm.FP.dcmp a b = some .eq) : Jvm.FP.cmpInt (-1) (Jvm.FP.dcmp a b) = 0 := by rw [h]; rfl
theorem cmpg_eq {a b : UInt64} (h : Jvm.FP.dcmp a b = some .eq) : Jvm.FP.cmpInt 1 (Jvm.FP.dcmp a b) = 0 := by rw [h]; rfl
end Jvm.OwnF
namespace Jvm.Pilot.@@N@@
open Jvm Jvm.ClassFile Sem Op Lib Jvm.Free Jvm.Free.Fl Jvm.Stand Jvm.LawKit Jvm.RoadKit Bundle Jvm.Pilot.@@N@@.Jvm.D
def QP (r : Option Value) (h0 : Heap) (n0 : Nat) (v : Option Value) (h : Heap) (L : List Loc) : Prop := v = r ∧ Fr n0 L ∧ h = h0
def QL (n0 : Nat) (v : Option Value) (h : Heap) (L : List Loc) : Prop := v = some (.int 1) ∧ Fr n0 L
theorem d2_0 : decode jdk_30_method_1_code 0 = .ok (.aload_n 0, 1) := by decide +kernel
theorem d2_1 : decode jdk_30_method_1_code 1 = .ok (.invokespecial 1, 3) := by decide +kernel
theorem d2_4 : decode jdk_30_method_1_code 4 = .ok (.return_, 1) := by decide +kernel
theorem pn_0 : plainName "java/lang/Record" = true := by first | (simp [plainName, overriddenIn]; done) | decide +kernel
theorem ef_rmR (m : MethodId) (x0 : Addr) : entryFrame m #[(.ref x0)] 1 = mkF m 0 #[.val (.ref x0)] [] := by first | (simp [entryFrame, mkF, argsToLocals, Value.category]; done) | rfl
set_option maxRecDepth 65536 in
set_option maxHeartbeats 40000000 in
theorem rmR (l : Launch) (Z : State) (a0 : Array Value) (hw : ∀ d ∈ tables_1, d.before a0 Z = true) (ws : List Jvm.Cond)  (ob : Addr) (h0 : Heap) (n0 : Nat) (Z0 : n0 ≤ h0.size)  :
    MetFree l (⟨"java/lang/Record", "<init>", "()V"⟩ : MethodName) (head1 (Jvm.Cond.code (⟨"java/lang/Record", "<init>", "()V"⟩ : MethodName) jdk_30_method_1_code 1 none :: ws) ({ frames := 1, cells := 0, slots := 0, locals := 12 } : Room)) (fun a U => a = #[(.ref ob)] ∧ Z.Warmed39 U.vm ∧ U.heap = h0) (fun _ _ _ _ _ => True) (fun _ U o U' => ∃ v L, o = .returned v ∧ QP none h0 n0 v U'.heap L ∧ FrameEnd U o U' L ({ frames := 1, cells := 0, slots := 0, locals := 12 } : Room).cells ({ frames := 1, cells := 0, slots := 0, locals := 12 } : Room).slots) := by
  refine MetFree.of_bodySF (plainFor_of_name pn_0) hisR ?_
  intro p e s m args below meth c s₁ Bd hml0 hP hK
  obtain ⟨rfl, hZ, hh⟩ := hP
  have hx := Bd.exec
  have hby := Bd.bytes
  have hml : c.maxLocals = 1 := hml0
  have hown : s.vm.findClass "java/lang/Record" = some m.cls := findClass_of_methodNamed Bd.named
  have hnm := (name_of_methodNamed Bd.named Bd.method).1
  have X0 : Stand p l e ({ frames := 1, cells := 0, slots := 0, locals := 12 } : Room) s m #[(.ref ob)] below meth c s₁ [] 0 0 := Stand.of_body Bd
  have e0 : s₁.heap = h0 := by rw [← hh, Bd.state]; rfl
  have N0 := Fr.nil n0
  have pre0 : ∀ t, Steps p.tables e below (s₁.setTop (mkF m 0 #[.val (.ref ob)] [])) t → Steps p.tables e below (s₁.setTop (entryFrame m #[(.ref ob)] 1)) t := fun t k => castTop (ef_rmR m ob) k
  obtain ⟨T1, X1, e1, st1⟩ := initO X0 hx hZ hown (hw _ (List.mem_of_getElem? (i := 12) rfl)) (hw _ (List.mem_of_getElem? (i := 13) rfl)) (hw _ (List.mem_of_getElem? (i := 14) rfl)) e0 (g := (mkF m 1 #[.val (.ref ob)] [(.ref ob)])) rfl (by rw [hml]; rfl) rfl (hb hby d2_1) (by decide) (W := 0) (by show 2 * 0 + _ ≤ _; exact Nat.le_of_eq rfl) (by decide)
  obtain ⟨fs, hr, hrun, hended, hW, hsame⟩ := X1.leave (v := none) (fun _ => rfl)
  refine ⟨_, _, pre0 _ ?_, hrun, hended, _, _, rfl, ?_, ⟨_, rfl⟩, hW, hsame.mono (Nat.le_of_ble_eq_true rfl) (Nat.le_of_ble_eq_true rfl)⟩
  · show Steps p.tables e below (s₁.setTop (mkF m 0 #[.val (.ref ob)] [])) _
    refine XS.aloadN X0.here hx rfl (hb hby d2_0) rfl rfl ?_
    show Steps p.tables e below (s₁.setTop (mkF m 1 #[.val (.ref ob)] [(.ref ob)])) _
    refine st1 _ ?_
    show Steps p.tables e below (T1.setTop (mkF m 4 #[.val (.ref ob)] [])) _
    exact X1.returnOut hx Bd.returns (hb hby d2_4) hr
  · show QP none h0 n0 _ T1.heap _
    rw [e1]
    exact ⟨rfl, N0, rfl⟩
theorem d1_0 : decode prog_14_method_1_code 0 = .ok (.aload_n 0, 1) := by decide +kernel
theorem pd_0 : parseMethodDescriptor "()V" = some ⟨[], none⟩ := by decide +kernel
theorem d1_1 : decode prog_14_method_1_code 1 = .ok (.invokespecial 1, 3) := by decide +kernel
theorem d1_4 : decode prog_14_method_1_code 4 = .ok (.aload_n 0, 1) := by decide +kernel
theorem d1_5 : decode prog_14_method_1_code 5 = .ok (.dload_n 1, 1) := by decide +kernel
theorem d1_6 : decode prog_14_method_1_code 6 = .ok (.putfield 7, 3) := by decide +kernel
theorem d1_9 : decode prog_14_method_1_code 9 = .ok (.aload_n 0, 1) := by decide +kernel
theorem d1_10 : decode prog_14_method_1_code 10 = .ok (.dload_n 3, 1) := by decide +kernel
theorem d1_11 : decode prog_14_method_1_code 11 = .ok (.putfield 13, 3) := by decide +kernel
theorem d1_14 : decode prog_14_method_1_code 14 = .ok (.aload_n 0, 1) := by decide +kernel
theorem d1_15 : decode prog_14_method_1_code 15 = .ok (.dload 5, 2) := by decide +kernel
theorem d1_17 : decode prog_14_method_1_code 17 = .ok (.putfield 16, 3) := by decide +kernel
theorem d1_20 : decode prog_14_method_1_code 20 = .ok (.return_, 1) := by decide +kernel
def QI (Z : State) (ob : Addr) (r1 r2 r3 : UInt64) (h0 : Heap) (n0 : Nat) (v : Option Value) (h : Heap) (L : List Loc) : Prop := v = none ∧ Fr n0 L ∧ Keep h0 h [ob] ∧ Exa Z h ob "com/example/roving_fleet/rovingfleet/ServiceLimits" ∧ Fld Z h ob "com/example/roving_fleet/rovingfleet/ServiceLimits" "detourFactor" "D" (.double r2) ∧ Fld Z h ob "com/example/roving_fleet/rovingfleet/ServiceLimits" "detourAllowance" "D" (.double r3)
theorem pn_1 : plainName "com/example/roving_fleet/rovingfleet/ServiceLimits" = true := by first | (simp [plainName, overriddenIn]; done) | decide +kernel
theorem ef_rmI (m : MethodId) (x0 : Addr) (x1 : UInt64) (x2 : UInt64) (x3 : UInt64) : entryFrame m #[(.ref x0), (.double x1), (.double x2), (.double x3)] 7 = mkF m 0 #[.val (.ref x0), .val (.double x1), .second, .val (.double x2), .second, .val (.double x3), .second] [] := by first | (simp [entryFrame, mkF, argsToLocals, Value.category]; done) | rfl
set_option maxRecDepth 65536 in
set_option maxHeartbeats 40000000 in
theorem rmI (l : Launch) (Z : State) (a0 : Array Value) (hw : ∀ d ∈ tables_1, d.before a0 Z = true) (ws : List Jvm.Cond) (u1 u2 u3 : Value) (ob : Addr) (r1 : UInt64) (r2 : UInt64) (r3 : UInt64) (h0 : Heap) (n0 : Nat) (Z0 : n0 ≤ h0.size) (Eo : Exa Z h0 ob "com/example/roving_fleet/rovingfleet/ServiceLimits") (g_ob : n0 ≤ ob) (F1 : Fld Z h0 ob "com/example/roving_fleet/rovingfleet/ServiceLimits" "maxWait" "D" u1) (F2 : Fld Z h0 ob "com/example/roving_fleet/rovingfleet/ServiceLimits" "detourFactor" "D" u2) (F3 : Fld Z h0 ob "com/example/roving_fleet/rovingfleet/ServiceLimits" "detourAllowance" "D" u3) :
    MetFree l (⟨"com/example/roving_fleet/rovingfleet/ServiceLimits", "<init>", "(DDD)V"⟩ : MethodName) (head1 (Jvm.Cond.code (⟨"com/example/roving_fleet/rovingfleet/ServiceLimits", "<init>", "(DDD)V"⟩ : MethodName) prog_14_method_1_code 7 none :: ws) ({ frames := 2, cells := 0, slots := 0, locals := 24 } : Room)) (fun a U => a = #[(.ref ob), (.double r1), (.double r2), (.double r3)] ∧ Z.Warmed39 U.vm ∧ U.heap = h0) (fun _ _ _ _ _ => True) (fun _ U o U' => ∃ v L, o = .returned v ∧ QI Z ob r1 r2 r3 h0 n0 v U'.heap L ∧ FrameEnd U o U' L ({ frames := 2, cells := 0, slots := 0, locals := 24 } : Room).cells ({ frames := 2, cells := 0, slots := 0, locals := 24 } : Room).slots) := by
  refine MetFree.of_bodySF (plainFor_of_name pn_1) hisR ?_
  intro p e s m args below meth c s₁ Bd hml0 hP hK
  obtain ⟨rfl, hZ, hh⟩ := hP
  have hx := Bd.exec
  have hby := Bd.bytes
  have hml : c.maxLocals = 7 := hml0
  have hown : s.vm.findClass "com/example/roving_fleet/rovingfleet/ServiceLimits" = some m.cls := findClass_of_methodNamed Bd.named
  have hnm := (name_of_methodNamed Bd.named Bd.method).1
  have X0 : Stand p l e ({ frames := 2, cells := 0, slots := 0, locals := 24 } : Room) s m #[(.ref ob), (.double r1), (.double r2), (.double r3)] below meth c s₁ [] 0 0 := Stand.of_body Bd
  have e0 : s₁.heap = h0 := by rw [← hh, Bd.state]; rfl
  have N0 := Fr.nil n0
  have pre0 : ∀ t, Steps p.tables e below (s₁.setTop (mkF m 0 #[.val (.ref ob), .val (.double r1), .second, .val (.double r2), .second, .val (.double r3), .second] [])) t → Steps p.tables e below (s₁.setTop (entryFrame m #[(.ref ob), (.double r1), (.double r2), (.double r3)] 7)) t := fun t k => castTop (ef_rmI m ob r1 r2 r3) k
  obtain ⟨_, _, ⟨T1, L1, k1, n1⟩, -, X1, ⟨Lc1, hQ1, l1, y1, z1⟩, st1⟩ := X0.specialBack hx (y := (⟨"java/lang/Record", "<init>", "()V"⟩ : MethodName)) rfl hown (mvT hZ (hw _ (List.mem_of_getElem? (i := 7) rfl))) (mvT hZ (hw _ (List.mem_of_getElem? (i := 8) rfl))) (mvT hZ (hw _ (List.mem_of_getElem? (i := 11) rfl))) (by decide) (backOf (W := 0) (rmR l Z a0 hw [] ob h0 n0 Z0) hZ (hw _ (List.mem_of_getElem? (i := 11) rfl)) (hw _ (List.mem_of_getElem? (i := 10) rfl)) (by decide) (by decide)) (g := (mkF m 1 #[.val (.ref ob), .val (.double r1), .second, .val (.double r2), .second, .val (.double r3), .second] [(.ref ob)])) rfl (by rw [hml]; rfl) (Steps.refl _) (a := ob) (argsL := []) (rest := []) (lenOf pd_0 rfl) rfl (by show 2 * 0 + _ ≤ _; exact Nat.le_of_eq rfl) (hb hby d1_1) (fun _ _ => ⟨rfl, e0, (by decide : 0 + 0 ≤ _), (by decide : 0 + 0 ≤ _)⟩)
  dsimp only [Pt.U, Pt.locs, Pt.cells, Pt.slots] at X1 l1 y1 z1 st1 hQ1
  subst l1 y1 z1
  obtain ⟨rfl, N1a, e1⟩ := hQ1
  have N1 := Fr.app N0 N1a
  obtain ⟨T2, h2, X2, e2, W2, st2⟩ := putF X1 hx hZ hown (host := "") (Or.inl (hw _ (List.mem_of_getElem? (i := 15) rfl))) Via.refl e1 F1 Eo (Or.inr ⟨(hw _ (List.mem_of_getElem? (i := 16) rfl)), rfl, hnm⟩) (hw _ (List.mem_of_getElem? (i := 2) rfl)) (ty := .double) (by decide) rfl rfl (g := (mkF m 6 #[.val (.ref ob), .val (.double r1), .second, .val (.double r2), .second, .val (.double r3), .second] [(.double r1), (.ref ob)])) rfl rfl (hb hby d1_6)
  have Fw2 := F1.same W2
  have K2 : Keep h0 h2 [ob] := (Keep.refl h0 [ob]).wr W2 (Or.inl (List.mem_of_getElem? (i := 0) rfl))
  have N2 := Fr.snoc X2 N1 g_ob
  obtain ⟨T3, h3, X3, e3, W3, st3⟩ := putF X2 hx hZ hown (host := "") (Or.inl (hw _ (List.mem_of_getElem? (i := 17) rfl))) Via.refl e2 (F2.other W2 (Or.inr (slot_ne (Or.inr (hw _ (List.mem_of_getElem? (i := 18) rfl))) (Or.inr (hw _ (List.mem_of_getElem? (i := 16) rfl))) (by decide) (t := .double) (t' := .double) (by decide) (by decide)))) (Eo.wr W2) (Or.inr ⟨(hw _ (List.mem_of_getElem? (i := 18) rfl)), rfl, hnm⟩) (hw _ (List.mem_of_getElem? (i := 2) rfl)) (ty := .double) (by decide) rfl rfl (g := (mkF m 11 #[.val (.ref ob), .val (.double r1), .second, .val (.double r2), .second, .val (.double r3), .second] [(.double r2), (.ref ob)])) rfl rfl (hb hby d1_11)
  have Fw3 := (F2.other W2 (Or.inr (slot_ne (Or.inr (hw _ (List.mem_of_getElem? (i := 18) rfl))) (Or.inr (hw _ (List.mem_of_getElem? (i := 16) rfl))) (by decide) (t := .double) (t' := .double) (by decide) (by decide)))).same W3
  have K3 : Keep h0 h3 [ob] := K2.wr W3 (Or.inl (List.mem_of_getElem? (i := 0) rfl))
  have N3 := Fr.snoc X3 N2 g_ob
  obtain ⟨T4, h4, X4, e4, W4, st4⟩ := putF X3 hx hZ hown (host := "") (Or.inl (hw _ (List.mem_of_getElem? (i := 19) rfl))) Via.refl e3 ((F3.other W2 (Or.inr (slot_ne (Or.inr (hw _ (List.mem_of_getElem? (i := 20) rfl))) (Or.inr (hw _ (List.mem_of_getElem? (i := 16) rfl))) (by decide) (t := .double) (t' := .double) (by decide) (by decide)))).other W3 (Or.inr (slot_ne (Or.inr (hw _ (List.mem_of_getElem? (i := 20) rfl))) (Or.inr (hw _ (List.mem_of_getElem? (i := 18) rfl))) (by decide) (t := .double) (t' := .double) (by decide) (by decide)))) ((Eo.wr W2).wr W3) (Or.inr ⟨(hw _ (List.mem_of_getElem? (i := 20) rfl)), rfl, hnm⟩) (hw _ (List.mem_of_getElem? (i := 2) rfl)) (ty := .double) (by decide) rfl rfl (g := (mkF m 17 #[.val (.ref ob), .val (.double r1), .second, .val (.double r2), .second, .val (.double r3), .second] [(.double r3), (.ref ob)])) rfl rfl (hb hby d1_17)
  have Fw4 := ((F3.other W2 (Or.inr (slot_ne (Or.inr (hw _ (List.mem_of_getElem? (i := 20) rfl))) (Or.inr (hw _ (List.mem_of_getElem? (i := 16) rfl))) (by decide) (t := .double) (t' := .double) (by decide) (by decide)))).other W3 (Or.inr (slot_ne (Or.inr (hw _ (List.mem_of_getElem? (i := 20) rfl))) (Or.inr (hw _ (List.mem_of_getElem? (i := 18) rfl))) (by decide) (t := .double) (t' := .double) (by decide) (by decide)))).same W4
  have K4 : Keep h0 h4 [ob] := K3.wr W4 (Or.inl (List.mem_of_getElem? (i := 0) rfl))
  have N4 := Fr.snoc X4 N3 g_ob
  obtain ⟨fs, hr, hrun, hended, hW, hsame⟩ := X4.leave (v := none) (fun _ => rfl)
  refine ⟨_, _, pre0 _ ?_, hrun, hended, _, _, rfl, ?_, ⟨_, rfl⟩, hW, hsame.mono (Nat.le_of_ble_eq_true rfl) (Nat.le_of_ble_eq_true rfl)⟩
  · show Steps p.tables e below (s₁.setTop (mkF m 0 #[.val (.ref ob), .val (.double r1), .second, .val (.double r2), .second, .val (.double r3), .second] [])) _
    refine XS.aloadN X0.here hx rfl (hb hby d1_0) rfl rfl ?_
    show Steps p.tables e below (s₁.setTop (mkF m 1 #[.val (.ref ob), .val (.double r1), .second, .val (.double r2), .second, .val (.double r3), .second] [(.ref ob)])) _
    refine st1.trans ?_
    show Steps p.tables e below (T1.setTop (mkF m 4 #[.val (.ref ob), .val (.double r1), .second, .val (.double r2), .second, .val (.double r3), .second] [])) _
    refine XS.aloadN X1.here hx rfl (hb hby d1_4) rfl rfl ?_
    show Steps p.tables e below (T1.setTop (mkF m 5 #[.val (.ref ob), .val (.double r1), .second, .val (.double r2), .second, .val (.double r3), .second] [(.ref ob)])) _
    refine XS.dloadN X1.here hx rfl (hb hby d1_5) rfl ?_
    show Steps p.tables e below (T1.setTop (mkF m 6 #[.val (.ref ob), .val (.double r1), .second, .val (.double r2), .second, .val (.double r3), .second] [(.double r1), (.ref ob)])) _
    refine st2 _ ?_
    show Steps p.tables e below (T2.setTop (mkF m 9 #[.val (.ref ob), .val (.double r1), .second, .val (.double r2), .second, .val (.double r3), .second] [])) _
    refine XS.aloadN X2.here hx rfl (hb hby d1_9) rfl rfl ?_
    show Steps p.tables e below (T2.setTop (mkF m 10 #[.val (.ref ob), .val (.double r1), .second, .val (.double r2), .second, .val (.double r3), .second] [(.ref ob)])) _
    refine XS.dloadN X2.here hx rfl (hb hby d1_10) rfl ?_
    show Steps p.tables e below (T2.setTop (mkF m 11 #[.val (.ref ob), .val (.double r1), .second, .val (.double r2), .second, .val (.double r3), .second] [(.double r2), (.ref ob)])) _
    refine st3 _ ?_
    show Steps p.tables e below (T3.setTop (mkF m 14 #[.val (.ref ob), .val (.double r1), .second, .val (.double r2), .second, .val (.double r3), .second] [])) _
    refine XS.aloadN X3.here hx rfl (hb hby d1_14) rfl rfl ?_
    show Steps p.tables e below (T3.setTop (mkF m 15 #[.val (.ref ob), .val (.double r1), .second, .val (.double r2), .second, .val (.double r3), .second] [(.ref ob)])) _
    refine XS.dload X3.here hx rfl (hb hby d1_15) rfl ?_
    show Steps p.tables e below (T3.setTop (mkF m 17 #[.val (.ref ob), .val (.double r1), .second, .val (.double r2), .second, .val (.double r3), .second] [(.double r3), (.ref ob)])) _
    refine st4 _ ?_
    show Steps p.tables e below (T4.setTop (mkF m 20 #[.val (.ref ob), .val (.double r1), .second, .val (.double r2), .second, .val (.double r3), .second] [])) _
    exact X4.returnOut hx Bd.returns (hb hby d1_20) hr
  · show QI Z ob r1 r2 r3 h0 n0 _ T4.heap _
    rw [e4]
    exact ⟨rfl, N4, K4, (((Eo.wr W2).wr W3).wr W4), (Fw3.other W4 (Or.inr (slot_ne (Or.inr (hw _ (List.mem_of_getElem? (i := 18) rfl))) (Or.inr (hw _ (List.mem_of_getElem? (i := 20) rfl))) (by decide) (t := .double) (t' := .double) (by decide) (by decide)))), Fw4⟩
theorem d4_0 : decode prog_14_method_3_code 0 = .ok (.aload_n 0, 1) := by decide +kernel
theorem d4_1 : decode prog_14_method_3_code 1 = .ok (.getfield 13, 3) := by decide +kernel
theorem d4_4 : decode prog_14_method_3_code 4 = .ok (.dload_n 1, 1) := by decide +kernel
theorem d4_5 : decode prog_14_method_3_code 5 = .ok (.dmul, 1) := by decide +kernel
theorem d4_6 : decode prog_14_method_3_code 6 = .ok (.aload_n 0, 1) := by decide +kernel
theorem d4_7 : decode prog_14_method_3_code 7 = .ok (.getfield 16, 3) := by decide +kernel
theorem d4_10 : decode prog_14_method_3_code 10 = .ok (.dadd, 1) := by decide +kernel
theorem d4_11 : decode prog_14_method_3_code 11 = .ok (.dreturn, 1) := by decide +kernel
theorem ef_rmL (m : MethodId) (x0 : Addr) (x1 : UInt64) : entryFrame m #[(.ref x0), (.double x1)] 3 = mkF m 0 #[.val (.ref x0), .val (.double x1), .second] [] := by first | (simp [entryFrame, mkF, argsToLocals, Value.category]; done) | rfl
set_option maxRecDepth 65536 in
set_option maxHeartbeats 40000000 in
theorem rmL (l : Launch) (Z : State) (a0 : Array Value) (hw : ∀ d ∈ tables_1, d.before a0 Z = true) (ws : List Jvm.Cond) (r2 r3 : UInt64) (ob : Addr) (r1 : UInt64) (h0 : Heap) (n0 : Nat) (Z0 : n0 ≤ h0.size) (F2 : Fld Z h0 ob "com/example/roving_fleet/rovingfleet/ServiceLimits" "detourFactor" "D" (.double r2)) (F3 : Fld Z h0 ob "com/example/roving_fleet/rovingfleet/ServiceLimits" "detourAllowance" "D" (.double r3))
    (n5 : NoNaN64 (FP.dmul r2 r1))
    (n10 : NoNaN64 (FP.dadd (FP.dmul r2 r1) r3)) :
    MetFree l (⟨"com/example/roving_fleet/rovingfleet/ServiceLimits", "longestRide", "(D)D"⟩ : MethodName) (head1 (Jvm.Cond.code (⟨"com/example/roving_fleet/rovingfleet/ServiceLimits", "longestRide", "(D)D"⟩ : MethodName) prog_14_method_3_code 3 (some .double) :: ws) ({ frames := 0, cells := 0, slots := 0, locals := 0 } : Room)) (fun a U => a = #[(.ref ob), (.double r1)] ∧ Z.Warmed39 U.vm ∧ U.heap = h0) (fun _ _ _ _ _ => True) (fun _ U o U' => ∃ v L, o = .returned v ∧ QP (some (.double (FP.dadd (FP.dmul r2 r1) r3))) h0 n0 v U'.heap L ∧ FrameEnd U o U' L ({ frames := 0, cells := 0, slots := 0, locals := 0 } : Room).cells ({ frames := 0, cells := 0, slots := 0, locals := 0 } : Room).slots) := by
  refine MetFree.of_bodySF (plainFor_of_name pn_1) hisR ?_
  intro p e s m args below meth c s₁ Bd hml0 hP hK
  obtain ⟨rfl, hZ, hh⟩ := hP
  have hx := Bd.exec
  have hby := Bd.bytes
  have hml : c.maxLocals = 3 := hml0
  have hown : s.vm.findClass "com/example/roving_fleet/rovingfleet/ServiceLimits" = some m.cls := findClass_of_methodNamed Bd.named
  have hnm := (name_of_methodNamed Bd.named Bd.method).1
  have X0 : Stand p l e ({ frames := 0, cells := 0, slots := 0, locals := 0 } : Room) s m #[(.ref ob), (.double r1)] below meth c s₁ [] 0 0 := Stand.of_body Bd
  have e0 : s₁.heap = h0 := by rw [← hh, Bd.state]; rfl
  have N0 := Fr.nil n0
  have pre0 : ∀ t, Steps p.tables e below (s₁.setTop (mkF m 0 #[.val (.ref ob), .val (.double r1), .second] [])) t → Steps p.tables e below (s₁.setTop (entryFrame m #[(.ref ob), (.double r1)] 3)) t := fun t k => castTop (ef_rmL m ob r1) k
  obtain ⟨T1, X1, e1, st1⟩ := getF X0 hx hZ hown (host := "") (Or.inl (hw _ (List.mem_of_getElem? (i := 17) rfl))) Via.refl e0 F2 (g := (mkF m 1 #[.val (.ref ob), .val (.double r1), .second] [(.ref ob)])) rfl rfl (hb hby d4_1)
  obtain ⟨T2, X2, e2, st2⟩ := getF X1 hx hZ hown (host := "") (Or.inl (hw _ (List.mem_of_getElem? (i := 19) rfl))) Via.refl e1 F3 (g := (mkF m 7 #[.val (.ref ob), .val (.double r1), .second] [(.ref ob), (.double (FP.dmul r2 r1))])) rfl rfl (hb hby d4_7)
  obtain ⟨fs, hr, hrun, hended, hW, hsame⟩ := X2.leave (v := some (.double (FP.dadd (FP.dmul r2 r1) r3))) (fun h => by rw [Bd.returns] at h; cases h)
  refine ⟨_, _, pre0 _ ?_, hrun, hended, _, _, rfl, ?_, ⟨_, rfl⟩, hW, hsame.mono (Nat.le_of_ble_eq_true rfl) (Nat.le_of_ble_eq_true rfl)⟩
  · show Steps p.tables e below (s₁.setTop (mkF m 0 #[.val (.ref ob), .val (.double r1), .second] [])) _
    refine XS.aloadN X0.here hx rfl (hb hby d4_0) rfl rfl ?_
    show Steps p.tables e below (s₁.setTop (mkF m 1 #[.val (.ref ob), .val (.double r1), .second] [(.ref ob)])) _
    refine st1 _ ?_
    show Steps p.tables e below (T1.setTop (mkF m 4 #[.val (.ref ob), .val (.double r1), .second] [(.double r2)])) _
    refine XS.dloadN X1.here hx rfl (hb hby d4_4) rfl ?_
    show Steps p.tables e below (T1.setTop (mkF m 5 #[.val (.ref ob), .val (.double r1), .second] [(.double r1), (.double r2)])) _
    refine XS.dmulS X1.here hx rfl (hb hby d4_5) rfl n5 rfl ?_
    show Steps p.tables e below (T1.setTop (mkF m 6 #[.val (.ref ob), .val (.double r1), .second] [(.double (FP.dmul r2 r1))])) _
    refine XS.aloadN X1.here hx rfl (hb hby d4_6) rfl rfl ?_
    show Steps p.tables e below (T1.setTop (mkF m 7 #[.val (.ref ob), .val (.double r1), .second] [(.ref ob), (.double (FP.dmul r2 r1))])) _
    refine st2 _ ?_
    show Steps p.tables e below (T2.setTop (mkF m 10 #[.val (.ref ob), .val (.double r1), .second] [(.double r3), (.double (FP.dmul r2 r1))])) _
    refine XS.daddS X2.here hx rfl (hb hby d4_10) rfl n10 rfl ?_
    show Steps p.tables e below (T2.setTop (mkF m 11 #[.val (.ref ob), .val (.double r1), .second] [(.double (FP.dadd (FP.dmul r2 r1) r3))])) _
    exact OwnF.retD X2 hx Bd.returns (hb hby d4_11) hr
  · show QP (some (.double (FP.dadd (FP.dmul r2 r1) r3))) h0 n0 _ T2.heap _
    rw [e2]
    exact ⟨rfl, N0, rfl⟩
theorem pd_1 : parseMethodDescriptor "(DDD)V" = some ⟨[.double, .double, .double], none⟩ := by decide +kernel
theorem pd_2 : parseMethodDescriptor "(D)D" = some ⟨[.double], some .double⟩ := by decide +kernel
theorem pn_2 : plainName "com/example/roving_fleet/rovingfleet/ServiceLimitsLongestRidePinLaw" = true := by first | (simp [plainName, overriddenIn]; done) | decide +kernel
theorem ef_rm0ff (m : MethodId) (x0 : Int32) (x1 : Int32) (x2 : Int32) (x3 : Int32) (x4 : Int32) : entryFrame m #[(.int x0), (.int x1), (.int x2), (.int x3), (.int x4)] maxLocals = mkF m 0 #[.val (.int x0), .val (.int x1), .val (.int x2), .val (.int x3), .val (.int x4), .unset, .unset, .unset, .unset, .unset, .unset, .unset, .unset, .unset, .unset, .unset, .unset, .unset, .unset, .unset, .unset] [] := by first | (simp [entryFrame, mkF, argsToLocals, Value.category, maxLocals]; done) | rfl
set_option maxRecDepth 65536 in
set_option maxHeartbeats 40000000 in
theorem rm0ff (l : Launch) (Z : State) (a0 : Array Value) (hw : ∀ d ∈ tables_1, d.before a0 Z = true) (ws : List Jvm.Cond)  (p0 : Int32) (p1 : Int32) (p2 : Int32) (p3 : Int32) (p4 : Int32) (h0 : Heap) (n0 : Nat) (Z0 : n0 ≤ h0.size) 
    (b25 : ifCond.holds .eq (p4 &&& (1 : Int32)) = false)
    (b45 : ifCond.holds .eq (p4 &&& (2 : Int32)) = false)
    (c1 : NoNaN64 (FP.dmul (FP.l2d (p1 &&& (1048575 : Int32)).toInt64) (FP.l2d (p3 &&& (1048575 : Int32)).toInt64)))
    (c2 : NoNaN64 (FP.dadd (FP.dmul (FP.l2d (p1 &&& (1048575 : Int32)).toInt64) (FP.l2d (p3 &&& (1048575 : Int32)).toInt64)) (9218868437227405312 : UInt64)))
    (b108 : ifCond.holds .ne (FP.cmpInt (-1) (FP.dcmp (FP.dadd (FP.dmul (FP.l2d (p1 &&& (1048575 : Int32)).toInt64) (FP.l2d (p3 &&& (1048575 : Int32)).toInt64)) (9218868437227405312 : UInt64)) (9218868437227405312 : UInt64))) = false) :
    MetFree l x (head1 (Jvm.Cond.code x code maxLocals ret :: ws) room_1) (fun a U => a = #[(.int p0), (.int p1), (.int p2), (.int p3), (.int p4)] ∧ Z.Warmed39 U.vm ∧ U.heap = h0) (fun _ _ _ _ _ => True) (fun _ U o U' => ∃ v L, o = .returned v ∧ QL n0 v U'.heap L ∧ FrameEnd U o U' L 16 128) := by
  refine MetFree.of_bodySF (plainFor_of_name pn_2) hisR ?_
  intro p e s m args below meth c s₁ Bd hml0 hP hK
  obtain ⟨rfl, hZ, hh⟩ := hP
  have hx := Bd.exec
  have hby := Bd.bytes
  have hml : c.maxLocals = 21 := hml0
  have hown : s.vm.findClass "com/example/roving_fleet/rovingfleet/ServiceLimitsLongestRidePinLaw" = some m.cls := findClass_of_methodNamed Bd.named
  have hnm := (name_of_methodNamed Bd.named Bd.method).1
  have X0 : Stand p l e room_1 s m #[(.int p0), (.int p1), (.int p2), (.int p3), (.int p4)] below meth c s₁ [] 0 0 := Stand.of_body Bd
  have e0 : s₁.heap = h0 := by rw [← hh, Bd.state]; rfl
  have N0 := Fr.nil n0
  have pre0 : ∀ t, Steps p.tables e below (s₁.setTop (mkF m 0 #[.val (.int p0), .val (.int p1), .val (.int p2), .val (.int p3), .val (.int p4), .unset, .unset, .unset, .unset, .unset, .unset, .unset, .unset, .unset, .unset, .unset, .unset, .unset, .unset, .unset, .unset] [])) t → Steps p.tables e below (s₁.setTop (entryFrame m #[(.int p0), (.int p1), (.int p2), (.int p3), (.int p4)] maxLocals)) t := fun t k => castTop (ef_rm0ff m p0 p1 p2 p3 p4) k
  obtain ⟨T1, h1, X1, e1, E1, A1, D1, -, st1⟩ := newO X0 hx hZ hown (hw _ (List.mem_of_getElem? (i := 1) rfl)) (hw _ (List.mem_of_getElem? (i := 2) rfl)) (hw _ (List.mem_of_getElem? (i := 3) rfl)) e0 (g := (mkF m 71 #[.val (.int p0), .val (.int p1), .val (.int p2), .val (.int p3), .val (.int p4), .val (.long (p1 &&& (1048575 : Int32)).toInt64), .second, .val (.long (p2 &&& (1048575 : Int32)).toInt64), .second, .val (.long (p3 &&& (1048575 : Int32)).toInt64), .second, .val (.double (9218868437227405312 : UInt64)), .second, .val (.int (1 : Int32)), .val (.double (9218868437227405312 : UInt64)), .second, .unset, .unset, .unset, .unset, .unset] [])) rfl (hb hby at_71) (by decide) (by decide)
  obtain ⟨b1, g1⟩ : ∃ z, z = h0.size := ⟨_, rfl⟩
  have g_b1 : n0 ≤ b1 := Nat.le_trans Z0 (Nat.le_of_eq g1.symm)
  rw [← g1] at A1 D1 st1
  have F1_maxWait : Fld Z h1 b1 "com/example/roving_fleet/rovingfleet/ServiceLimits" "maxWait" "D" (.double (0 : UInt64)) := D1 (Or.inr (hw _ (List.mem_of_getElem? (i := 16) rfl))) (ty := .double) (by decide)
  have F1_detourFactor : Fld Z h1 b1 "com/example/roving_fleet/rovingfleet/ServiceLimits" "detourFactor" "D" (.double (0 : UInt64)) := D1 (Or.inr (hw _ (List.mem_of_getElem? (i := 18) rfl))) (ty := .double) (by decide)
  have F1_detourAllowance : Fld Z h1 b1 "com/example/roving_fleet/rovingfleet/ServiceLimits" "detourAllowance" "D" (.double (0 : UInt64)) := D1 (Or.inr (hw _ (List.mem_of_getElem? (i := 20) rfl))) (ty := .double) (by decide)
  obtain ⟨_, _, ⟨T2, L2, k2, n2⟩, -, X2, ⟨Lc2, hQ2, l2, y2, z2⟩, st2⟩ := X1.specialBack hx (y := (⟨"com/example/roving_fleet/rovingfleet/ServiceLimits", "<init>", "(DDD)V"⟩ : MethodName)) rfl hown (mvT hZ (hw _ (List.mem_of_getElem? (i := 4) rfl))) (mvT hZ (hw _ (List.mem_of_getElem? (i := 5) rfl))) (mvT hZ (hw _ (List.mem_of_getElem? (i := 6) rfl))) (by decide) (backOf (W := 1) (rmI l Z a0 hw [] _ _ _ b1 (9218868437227405312 : UInt64) (FP.l2d (p1 &&& (1048575 : Int32)).toInt64) (9218868437227405312 : UInt64) h1 n0 (Nat.le_trans Z0 E1.1) A1 g_b1 F1_maxWait F1_detourFactor F1_detourAllowance) hZ (hw _ (List.mem_of_getElem? (i := 6) rfl)) (hw _ (List.mem_of_getElem? (i := 3) rfl)) (by decide) (by decide)) (g := (mkF m 82 #[.val (.int p0), .val (.int p1), .val (.int p2), .val (.int p3), .val (.int p4), .val (.long (p1 &&& (1048575 : Int32)).toInt64), .second, .val (.long (p2 &&& (1048575 : Int32)).toInt64), .second, .val (.long (p3 &&& (1048575 : Int32)).toInt64), .second, .val (.double (9218868437227405312 : UInt64)), .second, .val (.int (1 : Int32)), .val (.double (9218868437227405312 : UInt64)), .second, .unset, .unset, .unset, .unset, .unset] [(.double (9218868437227405312 : UInt64)), (.double (FP.l2d (p1 &&& (1048575 : Int32)).toInt64)), (.double (9218868437227405312 : UInt64)), (.ref b1), (.ref b1)])) rfl (by rw [hml]; rfl) (Steps.refl _) (a := b1) (argsL := [(.double (9218868437227405312 : UInt64)), (.double (FP.l2d (p1 &&& (1048575 : Int32)).toInt64)), (.double (9218868437227405312 : UInt64))]) (rest := [(.ref b1)]) (lenOf pd_1 rfl) rfl (by show 2 * 0 + _ ≤ _; exact Nat.le_of_eq rfl) (hb hby at_82) (fun _ _ => ⟨rfl, e1, (by decide : 1 + 0 ≤ _), (by decide : 3 + 0 ≤ _)⟩)
  dsimp only [Pt.U, Pt.locs, Pt.cells, Pt.slots] at X2 l2 y2 z2 st2 hQ2
  subst l2 y2 z2
  obtain ⟨rfl, N2a, K2a, E2a, F2a, F2b⟩ := hQ2
  have N2 := Fr.app N0 N2a
  obtain ⟨cq3, kq3, q3a, q3b, q3c⟩ := isOf hZ rfl E2a
  obtain ⟨_, _, ⟨T3, L3, k3, n3⟩, -, X3, ⟨Lc3, hQ3, l3, y3, z3⟩, st3⟩ := X2.virtualBack hx (y := (⟨"com/example/roving_fleet/rovingfleet/ServiceLimits", "longestRide", "(D)D"⟩ : MethodName)) (z := (⟨"com/example/roving_fleet/rovingfleet/ServiceLimits", "longestRide", "(D)D"⟩ : MethodName)) hown (mvT hZ (hw _ (List.mem_of_getElem? (i := 21) rfl))) (mvT hZ (hw _ (List.mem_of_getElem? (i := 22) rfl))) (notFace_of_selects (args := #[]) (mvT hZ (hw _ (List.mem_of_getElem? (i := 24) rfl)))) (mvT hZ (hw _ (List.mem_of_getElem? (i := 24) rfl))) (mvT hZ (hw _ (List.mem_of_getElem? (i := 23) rfl))) (by decide) (backOf (W := 0) (rmL l Z a0 hw [] (FP.l2d (p1 &&& (1048575 : Int32)).toInt64) (9218868437227405312 : UInt64) b1 (FP.l2d (p3 &&& (1048575 : Int32)).toInt64) T2.heap n0 (Nat.le_trans (Nat.le_trans Z0 E1.1) K2a.1) F2a F2b c1 c2) hZ (hw _ (List.mem_of_getElem? (i := 25) rfl)) (hw _ (List.mem_of_getElem? (i := 3) rfl)) (by decide) (by decide)) q3a q3c (g := (mkF m 92 #[.val (.int p0), .val (.int p1), .val (.int p2), .val (.int p3), .val (.int p4), .val (.long (p1 &&& (1048575 : Int32)).toInt64), .second, .val (.long (p2 &&& (1048575 : Int32)).toInt64), .second, .val (.long (p3 &&& (1048575 : Int32)).toInt64), .second, .val (.double (9218868437227405312 : UInt64)), .second, .val (.int (1 : Int32)), .val (.double (9218868437227405312 : UInt64)), .second, .val (.ref b1), .unset, .unset, .unset, .unset] [(.double (FP.l2d (p3 &&& (1048575 : Int32)).toInt64)), (.ref b1)])) rfl (by rw [hml]; rfl) (Steps.refl _) (argsL := [(.double (FP.l2d (p3 &&& (1048575 : Int32)).toInt64))]) (rest := []) (lenOf pd_2 rfl) rfl (by show 2 * 0 + _ ≤ _; exact Nat.le_of_eq rfl) (hb hby at_92) (fun _ _ => ⟨rfl, rfl, (by decide : 1 + 0 ≤ _), (by decide : 3 + 0 ≤ _)⟩)
  dsimp only [Pt.U, Pt.locs, Pt.cells, Pt.slots] at X3 l3 y3 z3 st3 hQ3
  subst l3 y3 z3
  obtain ⟨rfl, N3a, e3⟩ := hQ3
  have N3 := Fr.app N2 N3a
  obtain ⟨fs, hr, hrun, hended, hW, hsame⟩ := X3.leave (v := some (.int (1 : Int32))) (fun h => by rw [Bd.returns] at h; cases h)
  refine ⟨_, _, pre0 _ ?_, hrun, hended, _, _, rfl, ?_, ⟨_, rfl⟩, hW, hsame.mono (Nat.le_of_ble_eq_true rfl) (Nat.le_of_ble_eq_true rfl)⟩
  · show Steps p.tables e below (s₁.setTop (mkF m 0 #[.val (.int p0), .val (.int p1), .val (.int p2), .val (.int p3), .val (.int p4), .unset, .unset, .unset, .unset, .unset, .unset, .unset, .unset, .unset, .unset, .unset, .unset, .unset, .unset, .unset, .unset] [])) _
    refine XS.iloadN X0.here hx rfl (hb hby at_0) rfl ?_
    show Steps p.tables e below (s₁.setTop (mkF m 1 #[.val (.int p0), .val (.int p1), .val (.int p2), .val (.int p3), .val (.int p4), .unset, .unset, .unset, .unset, .unset, .unset, .unset, .unset, .unset, .unset, .unset, .unset, .unset, .unset, .unset, .unset] [(.int p1)])) _
    refine X0.ldcInt hx hown (mvT hZ (hw _ (List.mem_of_getElem? (i := 0) rfl))) (g := (mkF m 1 #[.val (.int p0), .val (.int p1), .val (.int p2), .val (.int p3), .val (.int p4), .unset, .unset, .unset, .unset, .unset, .unset, .unset, .unset, .unset, .unset, .unset, .unset, .unset, .unset, .unset, .unset] [(.int p1)])) rfl (hb hby at_1) _ ?_
    show Steps p.tables e below (s₁.setTop (mkF m 3 #[.val (.int p0), .val (.int p1), .val (.int p2), .val (.int p3), .val (.int p4), .unset, .unset, .unset, .unset, .unset, .unset, .unset, .unset, .unset, .unset, .unset, .unset, .unset, .unset, .unset, .unset] [(.int (1048575 : Int32)), (.int p1)])) _
    refine XS.iand X0.here hx rfl (hb hby at_3) rfl ?_
    show Steps p.tables e below (s₁.setTop (mkF m 4 #[.val (.int p0), .val (.int p1), .val (.int p2), .val (.int p3), .val (.int p4), .unset, .unset, .unset, .unset, .unset, .unset, .unset, .unset, .unset, .unset, .unset, .unset, .unset, .unset, .unset, .unset] [(.int (p1 &&& (1048575 : Int32)))])) _
    refine XS.i2l X0.here hx rfl (hb hby at_4) rfl ?_
    show Steps p.tables e below (s₁.setTop (mkF m 5 #[.val (.int p0), .val (.int p1), .val (.int p2), .val (.int p3), .val (.int p4), .unset, .unset, .unset, .unset, .unset, .unset, .unset, .unset, .unset, .unset, .unset, .unset, .unset, .unset, .unset, .unset] [(.long (p1 &&& (1048575 : Int32)).toInt64)])) _
    refine XS.lstore X0.here hx rfl (hb hby at_5) rfl (l' := #[.val (.int p0), .val (.int p1), .val (.int p2), .val (.int p3), .val (.int p4), .val (.long (p1 &&& (1048575 : Int32)).toInt64), .second, .unset, .unset, .unset, .unset, .unset, .unset, .unset, .unset, .unset, .unset, .unset, .unset, .unset, .unset]) rfl ?_
    show Steps p.tables e below (s₁.setTop (mkF m 7 #[.val (.int p0), .val (.int p1), .val (.int p2), .val (.int p3), .val (.int p4), .val (.long (p1 &&& (1048575 : Int32)).toInt64), .second, .unset, .unset, .unset, .unset, .unset, .unset, .unset, .unset, .unset, .unset, .unset, .unset, .unset, .unset] [])) _
    refine XS.iloadN X0.here hx rfl (hb hby at_7) rfl ?_
    show Steps p.tables e below (s₁.setTop (mkF m 8 #[.val (.int p0), .val (.int p1), .val (.int p2), .val (.int p3), .val (.int p4), .val (.long (p1 &&& (1048575 : Int32)).toInt64), .second, .unset, .unset, .unset, .unset, .unset, .unset, .unset, .unset, .unset, .unset, .unset, .unset, .unset, .unset] [(.int p2)])) _
    refine X0.ldcInt hx hown (mvT hZ (hw _ (List.mem_of_getElem? (i := 0) rfl))) (g := (mkF m 8 #[.val (.int p0), .val (.int p1), .val (.int p2), .val (.int p3), .val (.int p4), .val (.long (p1 &&& (1048575 : Int32)).toInt64), .second, .unset, .unset, .unset, .unset, .unset, .unset, .unset, .unset, .unset, .unset, .unset, .unset, .unset, .unset] [(.int p2)])) rfl (hb hby at_8) _ ?_
    show Steps p.tables e below (s₁.setTop (mkF m 10 #[.val (.int p0), .val (.int p1), .val (.int p2), .val (.int p3), .val (.int p4), .val (.long (p1 &&& (1048575 : Int32)).toInt64), .second, .unset, .unset, .unset, .unset, .unset, .unset, .unset, .unset, .unset, .unset, .unset, .unset, .unset, .unset] [(.int (1048575 : Int32)), (.int p2)])) _
    refine XS.iand X0.here hx rfl (hb hby at_10) rfl ?_
    show Steps p.tables e below (s₁.setTop (mkF m 11 #[.val (.int p0), .val (.int p1), .val (.int p2), .val (.int p3), .val (.int p4), .val (.long (p1 &&& (1048575 : Int32)).toInt64), .second, .unset, .unset, .unset, .unset, .unset, .unset, .unset, .unset, .unset, .unset, .unset, .unset, .unset, .unset] [(.int (p2 &&& (1048575 : Int32)))])) _
    refine XS.i2l X0.here hx rfl (hb hby at_11) rfl ?_
    show Steps p.tables e below (s₁.setTop (mkF m 12 #[.val (.int p0), .val (.int p1), .val (.int p2), .val (.int p3), .val (.int p4), .val (.long (p1 &&& (1048575 : Int32)).toInt64), .second, .unset, .unset, .unset, .unset, .unset, .unset, .unset, .unset, .unset, .unset, .unset, .unset, .unset, .unset] [(.long (p2 &&& (1048575 : Int32)).toInt64)])) _
    refine XS.lstore X0.here hx rfl (hb hby at_12) rfl (l' := #[.val (.int p0), .val (.int p1), .val (.int p2), .val (.int p3), .val (.int p4), .val (.long (p1 &&& (1048575 : Int32)).toInt64), .second, .val (.long (p2 &&& (1048575 : Int32)).toInt64), .second, .unset, .unset, .unset, .unset, .unset, .unset, .unset, .unset, .unset, .unset, .unset, .unset]) rfl ?_
    show Steps p.tables e below (s₁.setTop (mkF m 14 #[.val (.int p0), .val (.int p1), .val (.int p2), .val (.int p3), .val (.int p4), .val (.long (p1 &&& (1048575 : Int32)).toInt64), .second, .val (.long (p2 &&& (1048575 : Int32)).toInt64), .second, .unset, .unset, .unset, .unset, .unset, .unset, .unset, .unset, .unset, .unset, .unset, .unset] [])) _
    refine XS.iloadN X0.here hx rfl (hb hby at_14) rfl ?_
    show Steps p.tables e below (s₁.setTop (mkF m 15 #[.val (.int p0), .val (.int p1), .val (.int p2), .val (.int p3), .val (.int p4), .val (.long (p1 &&& (1048575 : Int32)).toInt64), .second, .val (.long (p2 &&& (1048575 : Int32)).toInt64), .second, .unset, .unset, .unset, .unset, .unset, .unset, .unset, .unset, .unset, .unset, .unset, .unset] [(.int p3)])) _
    refine X0.ldcInt hx hown (mvT hZ (hw _ (List.mem_of_getElem? (i := 0) rfl))) (g := (mkF m 15 #[.val (.int p0), .val (.int p1), .val (.int p2), .val (.int p3), .val (.int p4), .val (.long (p1 &&& (1048575 : Int32)).toInt64), .second, .val (.long (p2 &&& (1048575 : Int32)).toInt64), .second, .unset, .unset, .unset, .unset, .unset, .unset, .unset, .unset, .unset, .unset, .unset, .unset] [(.int p3)])) rfl (hb hby at_15) _ ?_
    show Steps p.tables e below (s₁.setTop (mkF m 17 #[.val (.int p0), .val (.int p1), .val (.int p2), .val (.int p3), .val (.int p4), .val (.long (p1 &&& (1048575 : Int32)).toInt64), .second, .val (.long (p2 &&& (1048575 : Int32)).toInt64), .second, .unset, .unset, .unset, .unset, .unset, .unset, .unset, .unset, .unset, .unset, .unset, .unset] [(.int (1048575 : Int32)), (.int p3)])) _
    refine XS.iand X0.here hx rfl (hb hby at_17) rfl ?_
    show Steps p.tables e below (s₁.setTop (mkF m 18 #[.val (.int p0), .val (.int p1), .val (.int p2), .val (.int p3), .val (.int p4), .val (.long (p1 &&& (1048575 : Int32)).toInt64), .second, .val (.long (p2 &&& (1048575 : Int32)).toInt64), .second, .unset, .unset, .unset, .unset, .unset, .unset, .unset, .unset, .unset, .unset, .unset, .unset] [(.int (p3 &&& (1048575 : Int32)))])) _
    refine XS.i2l X0.here hx rfl (hb hby at_18) rfl ?_
    show Steps p.tables e below (s₁.setTop (mkF m 19 #[.val (.int p0), .val (.int p1), .val (.int p2), .val (.int p3), .val (.int p4), .val (.long (p1 &&& (1048575 : Int32)).toInt64), .second, .val (.long (p2 &&& (1048575 : Int32)).toInt64), .second, .unset, .unset, .unset, .unset, .unset, .unset, .unset, .unset, .unset, .unset, .unset, .unset] [(.long (p3 &&& (1048575 : Int32)).toInt64)])) _
    refine XS.lstore X0.here hx rfl (hb hby at_19) rfl (l' := #[.val (.int p0), .val (.int p1), .val (.int p2), .val (.int p3), .val (.int p4), .val (.long (p1 &&& (1048575 : Int32)).toInt64), .second, .val (.long (p2 &&& (1048575 : Int32)).toInt64), .second, .val (.long (p3 &&& (1048575 : Int32)).toInt64), .second, .unset, .unset, .unset, .unset, .unset, .unset, .unset, .unset, .unset, .unset]) rfl ?_
    show Steps p.tables e below (s₁.setTop (mkF m 21 #[.val (.int p0), .val (.int p1), .val (.int p2), .val (.int p3), .val (.int p4), .val (.long (p1 &&& (1048575 : Int32)).toInt64), .second, .val (.long (p2 &&& (1048575 : Int32)).toInt64), .second, .val (.long (p3 &&& (1048575 : Int32)).toInt64), .second, .unset, .unset, .unset, .unset, .unset, .unset, .unset, .unset, .unset, .unset] [])) _
    refine XS.iload X0.here hx rfl (hb hby at_21) rfl ?_
    show Steps p.tables e below (s₁.setTop (mkF m 23 #[.val (.int p0), .val (.int p1), .val (.int p2), .val (.int p3), .val (.int p4), .val (.long (p1 &&& (1048575 : Int32)).toInt64), .second, .val (.long (p2 &&& (1048575 : Int32)).toInt64), .second, .val (.long (p3 &&& (1048575 : Int32)).toInt64), .second, .unset, .unset, .unset, .unset, .unset, .unset, .unset, .unset, .unset, .unset] [(.int p4)])) _
    refine XS.iconst X0.here hx rfl (hb hby at_23) ?_
    show Steps p.tables e below (s₁.setTop (mkF m 24 #[.val (.int p0), .val (.int p1), .val (.int p2), .val (.int p3), .val (.int p4), .val (.long (p1 &&& (1048575 : Int32)).toInt64), .second, .val (.long (p2 &&& (1048575 : Int32)).toInt64), .second, .val (.long (p3 &&& (1048575 : Int32)).toInt64), .second, .unset, .unset, .unset, .unset, .unset, .unset, .unset, .unset, .unset, .unset] [(.int (1 : Int32)), (.int p4)])) _
    refine XS.iand X0.here hx rfl (hb hby at_24) rfl ?_
    show Steps p.tables e below (s₁.setTop (mkF m 25 #[.val (.int p0), .val (.int p1), .val (.int p2), .val (.int p3), .val (.int p4), .val (.long (p1 &&& (1048575 : Int32)).toInt64), .second, .val (.long (p2 &&& (1048575 : Int32)).toInt64), .second, .val (.long (p3 &&& (1048575 : Int32)).toInt64), .second, .unset, .unset, .unset, .unset, .unset, .unset, .unset, .unset, .unset, .unset] [(.int (p4 &&& (1 : Int32)))])) _
    refine XS.ifNo X0.here hx rfl (hb hby at_25) rfl b25 ?_
    show Steps p.tables e below (s₁.setTop (mkF m 28 #[.val (.int p0), .val (.int p1), .val (.int p2), .val (.int p3), .val (.int p4), .val (.long (p1 &&& (1048575 : Int32)).toInt64), .second, .val (.long (p2 &&& (1048575 : Int32)).toInt64), .second, .val (.long (p3 &&& (1048575 : Int32)).toInt64), .second, .unset, .unset, .unset, .unset, .unset, .unset, .unset, .unset, .unset, .unset] [])) _
    refine X0.ldc2DoubleC hx hown (mvT hZ (hw _ (List.mem_of_getElem? (i := 26) rfl))) (g := (mkF m 28 #[.val (.int p0), .val (.int p1), .val (.int p2), .val (.int p3), .val (.int p4), .val (.long (p1 &&& (1048575 : Int32)).toInt64), .second, .val (.long (p2 &&& (1048575 : Int32)).toInt64), .second, .val (.long (p3 &&& (1048575 : Int32)).toInt64), .second, .unset, .unset, .unset, .unset, .unset, .unset, .unset, .unset, .unset, .unset] [])) rfl (hb hby at_28) _ ?_
    show Steps p.tables e below (s₁.setTop (mkF m 31 #[.val (.int p0), .val (.int p1), .val (.int p2), .val (.int p3), .val (.int p4), .val (.long (p1 &&& (1048575 : Int32)).toInt64), .second, .val (.long (p2 &&& (1048575 : Int32)).toInt64), .second, .val (.long (p3 &&& (1048575 : Int32)).toInt64), .second, .unset, .unset, .unset, .unset, .unset, .unset, .unset, .unset, .unset, .unset] [(.double (9218868437227405312 : UInt64))])) _
    refine XS.goto X0.here hx rfl (pc0 := 31) (pc' := 39) rfl (hb hby at_31) (by decide) (by decide) ?_
    show Steps p.tables e below (s₁.setTop (mkF m 39 #[.val (.int p0), .val (.int p1), .val (.int p2), .val (.int p3), .val (.int p4), .val (.long (p1 &&& (1048575 : Int32)).toInt64), .second, .val (.long (p2 &&& (1048575 : Int32)).toInt64), .second, .val (.long (p3 &&& (1048575 : Int32)).toInt64), .second, .unset, .unset, .unset, .unset, .unset, .unset, .unset, .unset, .unset, .unset] [(.double (9218868437227405312 : UInt64))])) _
    refine XS.dstore X0.here hx rfl (hb hby at_39) rfl (l' := #[.val (.int p0), .val (.int p1), .val (.int p2), .val (.int p3), .val (.int p4), .val (.long (p1 &&& (1048575 : Int32)).toInt64), .second, .val (.long (p2 &&& (1048575 : Int32)).toInt64), .second, .val (.long (p3 &&& (1048575 : Int32)).toInt64), .second, .val (.double (9218868437227405312 : UInt64)), .second, .unset, .unset, .unset, .unset, .unset, .unset, .unset, .unset]) rfl ?_
    show Steps p.tables e below (s₁.setTop (mkF m 41 #[.val (.int p0), .val (.int p1), .val (.int p2), .val (.int p3), .val (.int p4), .val (.long (p1 &&& (1048575 : Int32)).toInt64), .second, .val (.long (p2 &&& (1048575 : Int32)).toInt64), .second, .val (.long (p3 &&& (1048575 : Int32)).toInt64), .second, .val (.double (9218868437227405312 : UInt64)), .second, .unset, .unset, .unset, .unset, .unset, .unset, .unset, .unset] [])) _
    refine XS.iload X0.here hx rfl (hb hby at_41) rfl ?_
    show Steps p.tables e below (s₁.setTop (mkF m 43 #[.val (.int p0), .val (.int p1), .val (.int p2), .val (.int p3), .val (.int p4), .val (.long (p1 &&& (1048575 : Int32)).toInt64), .second, .val (.long (p2 &&& (1048575 : Int32)).toInt64), .second, .val (.long (p3 &&& (1048575 : Int32)).toInt64), .second, .val (.double (9218868437227405312 : UInt64)), .second, .unset, .unset, .unset, .unset, .unset, .unset, .unset, .unset] [(.int p4)])) _
    refine XS.iconst X0.here hx rfl (hb hby at_43) ?_
    show Steps p.tables e below (s₁.setTop (mkF m 44 #[.val (.int p0), .val (.int p1), .val (.int p2), .val (.int p3), .val (.int p4), .val (.long (p1 &&& (1048575 : Int32)).toInt64), .second, .val (.long (p2 &&& (1048575 : Int32)).toInt64), .second, .val (.long (p3 &&& (1048575 : Int32)).toInt64), .second, .val (.double (9218868437227405312 : UInt64)), .second, .unset, .unset, .unset, .unset, .unset, .unset, .unset, .unset] [(.int (2 : Int32)), (.int p4)])) _
    refine XS.iand X0.here hx rfl (hb hby at_44) rfl ?_
    show Steps p.tables e below (s₁.setTop (mkF m 45 #[.val (.int p0), .val (.int p1), .val (.int p2), .val (.int p3), .val (.int p4), .val (.long (p1 &&& (1048575 : Int32)).toInt64), .second, .val (.long (p2 &&& (1048575 : Int32)).toInt64), .second, .val (.long (p3 &&& (1048575 : Int32)).toInt64), .second, .val (.double (9218868437227405312 : UInt64)), .second, .unset, .unset, .unset, .unset, .unset, .unset, .unset, .unset] [(.int (p4 &&& (2 : Int32)))])) _
    refine XS.ifNo X0.here hx rfl (hb hby at_45) rfl b45 ?_
    show Steps p.tables e below (s₁.setTop (mkF m 48 #[.val (.int p0), .val (.int p1), .val (.int p2), .val (.int p3), .val (.int p4), .val (.long (p1 &&& (1048575 : Int32)).toInt64), .second, .val (.long (p2 &&& (1048575 : Int32)).toInt64), .second, .val (.long (p3 &&& (1048575 : Int32)).toInt64), .second, .val (.double (9218868437227405312 : UInt64)), .second, .unset, .unset, .unset, .unset, .unset, .unset, .unset, .unset] [])) _
    refine XS.iconst X0.here hx rfl (hb hby at_48) ?_
    show Steps p.tables e below (s₁.setTop (mkF m 49 #[.val (.int p0), .val (.int p1), .val (.int p2), .val (.int p3), .val (.int p4), .val (.long (p1 &&& (1048575 : Int32)).toInt64), .second, .val (.long (p2 &&& (1048575 : Int32)).toInt64), .second, .val (.long (p3 &&& (1048575 : Int32)).toInt64), .second, .val (.double (9218868437227405312 : UInt64)), .second, .unset, .unset, .unset, .unset, .unset, .unset, .unset, .unset] [(.int (1 : Int32))])) _
    refine XS.goto X0.here hx rfl (pc0 := 49) (pc' := 53) rfl (hb hby at_49) (by decide) (by decide) ?_
    show Steps p.tables e below (s₁.setTop (mkF m 53 #[.val (.int p0), .val (.int p1), .val (.int p2), .val (.int p3), .val (.int p4), .val (.long (p1 &&& (1048575 : Int32)).toInt64), .second, .val (.long (p2 &&& (1048575 : Int32)).toInt64), .second, .val (.long (p3 &&& (1048575 : Int32)).toInt64), .second, .val (.double (9218868437227405312 : UInt64)), .second, .unset, .unset, .unset, .unset, .unset, .unset, .unset, .unset] [(.int (1 : Int32))])) _
    refine XS.istore X0.here hx rfl (hb hby at_53) rfl (l' := #[.val (.int p0), .val (.int p1), .val (.int p2), .val (.int p3), .val (.int p4), .val (.long (p1 &&& (1048575 : Int32)).toInt64), .second, .val (.long (p2 &&& (1048575 : Int32)).toInt64), .second, .val (.long (p3 &&& (1048575 : Int32)).toInt64), .second, .val (.double (9218868437227405312 : UInt64)), .second, .val (.int (1 : Int32)), .unset, .unset, .unset, .unset, .unset, .unset, .unset]) rfl ?_
    show Steps p.tables e below (s₁.setTop (mkF m 55 #[.val (.int p0), .val (.int p1), .val (.int p2), .val (.int p3), .val (.int p4), .val (.long (p1 &&& (1048575 : Int32)).toInt64), .second, .val (.long (p2 &&& (1048575 : Int32)).toInt64), .second, .val (.long (p3 &&& (1048575 : Int32)).toInt64), .second, .val (.double (9218868437227405312 : UInt64)), .second, .val (.int (1 : Int32)), .unset, .unset, .unset, .unset, .unset, .unset, .unset] [])) _
    refine XS.iload X0.here hx rfl (hb hby at_55) rfl ?_
    show Steps p.tables e below (s₁.setTop (mkF m 57 #[.val (.int p0), .val (.int p1), .val (.int p2), .val (.int p3), .val (.int p4), .val (.long (p1 &&& (1048575 : Int32)).toInt64), .second, .val (.long (p2 &&& (1048575 : Int32)).toInt64), .second, .val (.long (p3 &&& (1048575 : Int32)).toInt64), .second, .val (.double (9218868437227405312 : UInt64)), .second, .val (.int (1 : Int32)), .unset, .unset, .unset, .unset, .unset, .unset, .unset] [(.int (1 : Int32))])) _
    refine XS.ifNo X0.here hx rfl (hb hby at_57) rfl (by decide) ?_
    show Steps p.tables e below (s₁.setTop (mkF m 60 #[.val (.int p0), .val (.int p1), .val (.int p2), .val (.int p3), .val (.int p4), .val (.long (p1 &&& (1048575 : Int32)).toInt64), .second, .val (.long (p2 &&& (1048575 : Int32)).toInt64), .second, .val (.long (p3 &&& (1048575 : Int32)).toInt64), .second, .val (.double (9218868437227405312 : UInt64)), .second, .val (.int (1 : Int32)), .unset, .unset, .unset, .unset, .unset, .unset, .unset] [])) _
    refine X0.ldc2DoubleC hx hown (mvT hZ (hw _ (List.mem_of_getElem? (i := 26) rfl))) (g := (mkF m 60 #[.val (.int p0), .val (.int p1), .val (.int p2), .val (.int p3), .val (.int p4), .val (.long (p1 &&& (1048575 : Int32)).toInt64), .second, .val (.long (p2 &&& (1048575 : Int32)).toInt64), .second, .val (.long (p3 &&& (1048575 : Int32)).toInt64), .second, .val (.double (9218868437227405312 : UInt64)), .second, .val (.int (1 : Int32)), .unset, .unset, .unset, .unset, .unset, .unset, .unset] [])) rfl (hb hby at_60) _ ?_
    show Steps p.tables e below (s₁.setTop (mkF m 63 #[.val (.int p0), .val (.int p1), .val (.int p2), .val (.int p3), .val (.int p4), .val (.long (p1 &&& (1048575 : Int32)).toInt64), .second, .val (.long (p2 &&& (1048575 : Int32)).toInt64), .second, .val (.long (p3 &&& (1048575 : Int32)).toInt64), .second, .val (.double (9218868437227405312 : UInt64)), .second, .val (.int (1 : Int32)), .unset, .unset, .unset, .unset, .unset, .unset, .unset] [(.double (9218868437227405312 : UInt64))])) _
    refine XS.goto X0.here hx rfl (pc0 := 63) (pc' := 69) rfl (hb hby at_63) (by decide) (by decide) ?_
    show Steps p.tables e below (s₁.setTop (mkF m 69 #[.val (.int p0), .val (.int p1), .val (.int p2), .val (.int p3), .val (.int p4), .val (.long (p1 &&& (1048575 : Int32)).toInt64), .second, .val (.long (p2 &&& (1048575 : Int32)).toInt64), .second, .val (.long (p3 &&& (1048575 : Int32)).toInt64), .second, .val (.double (9218868437227405312 : UInt64)), .second, .val (.int (1 : Int32)), .unset, .unset, .unset, .unset, .unset, .unset, .unset] [(.double (9218868437227405312 : UInt64))])) _
    refine XS.dstore X0.here hx rfl (hb hby at_69) rfl (l' := #[.val (.int p0), .val (.int p1), .val (.int p2), .val (.int p3), .val (.int p4), .val (.long (p1 &&& (1048575 : Int32)).toInt64), .second, .val (.long (p2 &&& (1048575 : Int32)).toInt64), .second, .val (.long (p3 &&& (1048575 : Int32)).toInt64), .second, .val (.double (9218868437227405312 : UInt64)), .second, .val (.int (1 : Int32)), .val (.double (9218868437227405312 : UInt64)), .second, .unset, .unset, .unset, .unset, .unset]) rfl ?_
    show Steps p.tables e below (s₁.setTop (mkF m 71 #[.val (.int p0), .val (.int p1), .val (.int p2), .val (.int p3), .val (.int p4), .val (.long (p1 &&& (1048575 : Int32)).toInt64), .second, .val (.long (p2 &&& (1048575 : Int32)).toInt64), .second, .val (.long (p3 &&& (1048575 : Int32)).toInt64), .second, .val (.double (9218868437227405312 : UInt64)), .second, .val (.int (1 : Int32)), .val (.double (9218868437227405312 : UInt64)), .second, .unset, .unset, .unset, .unset, .unset] [])) _
    refine st1 _ ?_
    show Steps p.tables e below (T1.setTop (mkF m 74 #[.val (.int p0), .val (.int p1), .val (.int p2), .val (.int p3), .val (.int p4), .val (.long (p1 &&& (1048575 : Int32)).toInt64), .second, .val (.long (p2 &&& (1048575 : Int32)).toInt64), .second, .val (.long (p3 &&& (1048575 : Int32)).toInt64), .second, .val (.double (9218868437227405312 : UInt64)), .second, .val (.int (1 : Int32)), .val (.double (9218868437227405312 : UInt64)), .second, .unset, .unset, .unset, .unset, .unset] [(.ref b1)])) _
    refine XS.dup X1.here hx rfl (hb hby at_74) rfl rfl ?_
    show Steps p.tables e below (T1.setTop (mkF m 75 #[.val (.int p0), .val (.int p1), .val (.int p2), .val (.int p3), .val (.int p4), .val (.long (p1 &&& (1048575 : Int32)).toInt64), .second, .val (.long (p2 &&& (1048575 : Int32)).toInt64), .second, .val (.long (p3 &&& (1048575 : Int32)).toInt64), .second, .val (.double (9218868437227405312 : UInt64)), .second, .val (.int (1 : Int32)), .val (.double (9218868437227405312 : UInt64)), .second, .unset, .unset, .unset, .unset, .unset] [(.ref b1), (.ref b1)])) _
    refine XS.dload X1.here hx rfl (hb hby at_75) rfl ?_
    show Steps p.tables e below (T1.setTop (mkF m 77 #[.val (.int p0), .val (.int p1), .val (.int p2), .val (.int p3), .val (.int p4), .val (.long (p1 &&& (1048575 : Int32)).toInt64), .second, .val (.long (p2 &&& (1048575 : Int32)).toInt64), .second, .val (.long (p3 &&& (1048575 : Int32)).toInt64), .second, .val (.double (9218868437227405312 : UInt64)), .second, .val (.int (1 : Int32)), .val (.double (9218868437227405312 : UInt64)), .second, .unset, .unset, .unset, .unset, .unset] [(.double (9218868437227405312 : UInt64)), (.ref b1), (.ref b1)])) _
    refine XS.lload X1.here hx rfl (hb hby at_77) rfl ?_
    show Steps p.tables e below (T1.setTop (mkF m 79 #[.val (.int p0), .val (.int p1), .val (.int p2), .val (.int p3), .val (.int p4), .val (.long (p1 &&& (1048575 : Int32)).toInt64), .second, .val (.long (p2 &&& (1048575 : Int32)).toInt64), .second, .val (.long (p3 &&& (1048575 : Int32)).toInt64), .second, .val (.double (9218868437227405312 : UInt64)), .second, .val (.int (1 : Int32)), .val (.double (9218868437227405312 : UInt64)), .second, .unset, .unset, .unset, .unset, .unset] [(.long (p1 &&& (1048575 : Int32)).toInt64), (.double (9218868437227405312 : UInt64)), (.ref b1), (.ref b1)])) _
    refine XS.l2dS X1.here hx rfl (hb hby at_79) rfl rfl ?_
    show Steps p.tables e below (T1.setTop (mkF m 80 #[.val (.int p0), .val (.int p1), .val (.int p2), .val (.int p3), .val (.int p4), .val (.long (p1 &&& (1048575 : Int32)).toInt64), .second, .val (.long (p2 &&& (1048575 : Int32)).toInt64), .second, .val (.long (p3 &&& (1048575 : Int32)).toInt64), .second, .val (.double (9218868437227405312 : UInt64)), .second, .val (.int (1 : Int32)), .val (.double (9218868437227405312 : UInt64)), .second, .unset, .unset, .unset, .unset, .unset] [(.double (FP.l2d (p1 &&& (1048575 : Int32)).toInt64)), (.double (9218868437227405312 : UInt64)), (.ref b1), (.ref b1)])) _
    refine XS.dload X1.here hx rfl (hb hby at_80) rfl ?_
    show Steps p.tables e below (T1.setTop (mkF m 82 #[.val (.int p0), .val (.int p1), .val (.int p2), .val (.int p3), .val (.int p4), .val (.long (p1 &&& (1048575 : Int32)).toInt64), .second, .val (.long (p2 &&& (1048575 : Int32)).toInt64), .second, .val (.long (p3 &&& (1048575 : Int32)).toInt64), .second, .val (.double (9218868437227405312 : UInt64)), .second, .val (.int (1 : Int32)), .val (.double (9218868437227405312 : UInt64)), .second, .unset, .unset, .unset, .unset, .unset] [(.double (9218868437227405312 : UInt64)), (.double (FP.l2d (p1 &&& (1048575 : Int32)).toInt64)), (.double (9218868437227405312 : UInt64)), (.ref b1), (.ref b1)])) _
    refine st2.trans ?_
    show Steps p.tables e below (T2.setTop (mkF m 85 #[.val (.int p0), .val (.int p1), .val (.int p2), .val (.int p3), .val (.int p4), .val (.long (p1 &&& (1048575 : Int32)).toInt64), .second, .val (.long (p2 &&& (1048575 : Int32)).toInt64), .second, .val (.long (p3 &&& (1048575 : Int32)).toInt64), .second, .val (.double (9218868437227405312 : UInt64)), .second, .val (.int (1 : Int32)), .val (.double (9218868437227405312 : UInt64)), .second, .unset, .unset, .unset, .unset, .unset] [(.ref b1)])) _
    refine XS.astore X2.here hx rfl (hb hby at_85) rfl rfl (l' := #[.val (.int p0), .val (.int p1), .val (.int p2), .val (.int p3), .val (.int p4), .val (.long (p1 &&& (1048575 : Int32)).toInt64), .second, .val (.long (p2 &&& (1048575 : Int32)).toInt64), .second, .val (.long (p3 &&& (1048575 : Int32)).toInt64), .second, .val (.double (9218868437227405312 : UInt64)), .second, .val (.int (1 : Int32)), .val (.double (9218868437227405312 : UInt64)), .second, .val (.ref b1), .unset, .unset, .unset, .unset]) rfl ?_
    show Steps p.tables e below (T2.setTop (mkF m 87 #[.val (.int p0), .val (.int p1), .val (.int p2), .val (.int p3), .val (.int p4), .val (.long (p1 &&& (1048575 : Int32)).toInt64), .second, .val (.long (p2 &&& (1048575 : Int32)).toInt64), .second, .val (.long (p3 &&& (1048575 : Int32)).toInt64), .second, .val (.double (9218868437227405312 : UInt64)), .second, .val (.int (1 : Int32)), .val (.double (9218868437227405312 : UInt64)), .second, .val (.ref b1), .unset, .unset, .unset, .unset] [])) _
    refine XS.aload X2.here hx rfl (hb hby at_87) rfl rfl ?_
    show Steps p.tables e below (T2.setTop (mkF m 89 #[.val (.int p0), .val (.int p1), .val (.int p2), .val (.int p3), .val (.int p4), .val (.long (p1 &&& (1048575 : Int32)).toInt64), .second, .val (.long (p2 &&& (1048575 : Int32)).toInt64), .second, .val (.long (p3 &&& (1048575 : Int32)).toInt64), .second, .val (.double (9218868437227405312 : UInt64)), .second, .val (.int (1 : Int32)), .val (.double (9218868437227405312 : UInt64)), .second, .val (.ref b1), .unset, .unset, .unset, .unset] [(.ref b1)])) _
    refine XS.lload X2.here hx rfl (hb hby at_89) rfl ?_
    show Steps p.tables e below (T2.setTop (mkF m 91 #[.val (.int p0), .val (.int p1), .val (.int p2), .val (.int p3), .val (.int p4), .val (.long (p1 &&& (1048575 : Int32)).toInt64), .second, .val (.long (p2 &&& (1048575 : Int32)).toInt64), .second, .val (.long (p3 &&& (1048575 : Int32)).toInt64), .second, .val (.double (9218868437227405312 : UInt64)), .second, .val (.int (1 : Int32)), .val (.double (9218868437227405312 : UInt64)), .second, .val (.ref b1), .unset, .unset, .unset, .unset] [(.long (p3 &&& (1048575 : Int32)).toInt64), (.ref b1)])) _
    refine XS.l2dS X2.here hx rfl (hb hby at_91) rfl rfl ?_
    show Steps p.tables e below (T2.setTop (mkF m 92 #[.val (.int p0), .val (.int p1), .val (.int p2), .val (.int p3), .val (.int p4), .val (.long (p1 &&& (1048575 : Int32)).toInt64), .second, .val (.long (p2 &&& (1048575 : Int32)).toInt64), .second, .val (.long (p3 &&& (1048575 : Int32)).toInt64), .second, .val (.double (9218868437227405312 : UInt64)), .second, .val (.int (1 : Int32)), .val (.double (9218868437227405312 : UInt64)), .second, .val (.ref b1), .unset, .unset, .unset, .unset] [(.double (FP.l2d (p3 &&& (1048575 : Int32)).toInt64)), (.ref b1)])) _
    refine st3.trans ?_
    show Steps p.tables e below (T3.setTop (mkF m 95 #[.val (.int p0), .val (.int p1), .val (.int p2), .val (.int p3), .val (.int p4), .val (.long (p1 &&& (1048575 : Int32)).toInt64), .second, .val (.long (p2 &&& (1048575 : Int32)).toInt64), .second, .val (.long (p3 &&& (1048575 : Int32)).toInt64), .second, .val (.double (9218868437227405312 : UInt64)), .second, .val (.int (1 : Int32)), .val (.double (9218868437227405312 : UInt64)), .second, .val (.ref b1), .unset, .unset, .unset, .unset] [(.double (FP.dadd (FP.dmul (FP.l2d (p1 &&& (1048575 : Int32)).toInt64) (FP.l2d (p3 &&& (1048575 : Int32)).toInt64)) (9218868437227405312 : UInt64)))])) _
    refine XS.dstore X3.here hx rfl (hb hby at_95) rfl (l' := #[.val (.int p0), .val (.int p1), .val (.int p2), .val (.int p3), .val (.int p4), .val (.long (p1 &&& (1048575 : Int32)).toInt64), .second, .val (.long (p2 &&& (1048575 : Int32)).toInt64), .second, .val (.long (p3 &&& (1048575 : Int32)).toInt64), .second, .val (.double (9218868437227405312 : UInt64)), .second, .val (.int (1 : Int32)), .val (.double (9218868437227405312 : UInt64)), .second, .val (.ref b1), .val (.double (FP.dadd (FP.dmul (FP.l2d (p1 &&& (1048575 : Int32)).toInt64) (FP.l2d (p3 &&& (1048575 : Int32)).toInt64)) (9218868437227405312 : UInt64))), .second, .unset, .unset]) rfl ?_
    show Steps p.tables e below (T3.setTop (mkF m 97 #[.val (.int p0), .val (.int p1), .val (.int p2), .val (.int p3), .val (.int p4), .val (.long (p1 &&& (1048575 : Int32)).toInt64), .second, .val (.long (p2 &&& (1048575 : Int32)).toInt64), .second, .val (.long (p3 &&& (1048575 : Int32)).toInt64), .second, .val (.double (9218868437227405312 : UInt64)), .second, .val (.int (1 : Int32)), .val (.double (9218868437227405312 : UInt64)), .second, .val (.ref b1), .val (.double (FP.dadd (FP.dmul (FP.l2d (p1 &&& (1048575 : Int32)).toInt64) (FP.l2d (p3 &&& (1048575 : Int32)).toInt64)) (9218868437227405312 : UInt64))), .second, .unset, .unset] [])) _
    refine XS.iload X3.here hx rfl (hb hby at_97) rfl ?_
    show Steps p.tables e below (T3.setTop (mkF m 99 #[.val (.int p0), .val (.int p1), .val (.int p2), .val (.int p3), .val (.int p4), .val (.long (p1 &&& (1048575 : Int32)).toInt64), .second, .val (.long (p2 &&& (1048575 : Int32)).toInt64), .second, .val (.long (p3 &&& (1048575 : Int32)).toInt64), .second, .val (.double (9218868437227405312 : UInt64)), .second, .val (.int (1 : Int32)), .val (.double (9218868437227405312 : UInt64)), .second, .val (.ref b1), .val (.double (FP.dadd (FP.dmul (FP.l2d (p1 &&& (1048575 : Int32)).toInt64) (FP.l2d (p3 &&& (1048575 : Int32)).toInt64)) (9218868437227405312 : UInt64))), .second, .unset, .unset] [(.int (1 : Int32))])) _
    refine XS.ifNo X3.here hx rfl (hb hby at_99) rfl (by decide) ?_
    show Steps p.tables e below (T3.setTop (mkF m 102 #[.val (.int p0), .val (.int p1), .val (.int p2), .val (.int p3), .val (.int p4), .val (.long (p1 &&& (1048575 : Int32)).toInt64), .second, .val (.long (p2 &&& (1048575 : Int32)).toInt64), .second, .val (.long (p3 &&& (1048575 : Int32)).toInt64), .second, .val (.double (9218868437227405312 : UInt64)), .second, .val (.int (1 : Int32)), .val (.double (9218868437227405312 : UInt64)), .second, .val (.ref b1), .val (.double (FP.dadd (FP.dmul (FP.l2d (p1 &&& (1048575 : Int32)).toInt64) (FP.l2d (p3 &&& (1048575 : Int32)).toInt64)) (9218868437227405312 : UInt64))), .second, .unset, .unset] [])) _
    refine XS.dload X3.here hx rfl (hb hby at_102) rfl ?_
    show Steps p.tables e below (T3.setTop (mkF m 104 #[.val (.int p0), .val (.int p1), .val (.int p2), .val (.int p3), .val (.int p4), .val (.long (p1 &&& (1048575 : Int32)).toInt64), .second, .val (.long (p2 &&& (1048575 : Int32)).toInt64), .second, .val (.long (p3 &&& (1048575 : Int32)).toInt64), .second, .val (.double (9218868437227405312 : UInt64)), .second, .val (.int (1 : Int32)), .val (.double (9218868437227405312 : UInt64)), .second, .val (.ref b1), .val (.double (FP.dadd (FP.dmul (FP.l2d (p1 &&& (1048575 : Int32)).toInt64) (FP.l2d (p3 &&& (1048575 : Int32)).toInt64)) (9218868437227405312 : UInt64))), .second, .unset, .unset] [(.double (FP.dadd (FP.dmul (FP.l2d (p1 &&& (1048575 : Int32)).toInt64) (FP.l2d (p3 &&& (1048575 : Int32)).toInt64)) (9218868437227405312 : UInt64)))])) _
    refine X3.ldc2DoubleC hx hown (mvT hZ (hw _ (List.mem_of_getElem? (i := 26) rfl))) (g := (mkF m 104 #[.val (.int p0), .val (.int p1), .val (.int p2), .val (.int p3), .val (.int p4), .val (.long (p1 &&& (1048575 : Int32)).toInt64), .second, .val (.long (p2 &&& (1048575 : Int32)).toInt64), .second, .val (.long (p3 &&& (1048575 : Int32)).toInt64), .second, .val (.double (9218868437227405312 : UInt64)), .second, .val (.int (1 : Int32)), .val (.double (9218868437227405312 : UInt64)), .second, .val (.ref b1), .val (.double (FP.dadd (FP.dmul (FP.l2d (p1 &&& (1048575 : Int32)).toInt64) (FP.l2d (p3 &&& (1048575 : Int32)).toInt64)) (9218868437227405312 : UInt64))), .second, .unset, .unset] [(.double (FP.dadd (FP.dmul (FP.l2d (p1 &&& (1048575 : Int32)).toInt64) (FP.l2d (p3 &&& (1048575 : Int32)).toInt64)) (9218868437227405312 : UInt64)))])) rfl (hb hby at_104) _ ?_
    show Steps p.tables e below (T3.setTop (mkF m 107 #[.val (.int p0), .val (.int p1), .val (.int p2), .val (.int p3), .val (.int p4), .val (.long (p1 &&& (1048575 : Int32)).toInt64), .second, .val (.long (p2 &&& (1048575 : Int32)).toInt64), .second, .val (.long (p3 &&& (1048575 : Int32)).toInt64), .second, .val (.double (9218868437227405312 : UInt64)), .second, .val (.int (1 : Int32)), .val (.double (9218868437227405312 : UInt64)), .second, .val (.ref b1), .val (.double (FP.dadd (FP.dmul (FP.l2d (p1 &&& (1048575 : Int32)).toInt64) (FP.l2d (p3 &&& (1048575 : Int32)).toInt64)) (9218868437227405312 : UInt64))), .second, .unset, .unset] [(.double (9218868437227405312 : UInt64)), (.double (FP.dadd (FP.dmul (FP.l2d (p1 &&& (1048575 : Int32)).toInt64) (FP.l2d (p3 &&& (1048575 : Int32)).toInt64)) (9218868437227405312 : UInt64)))])) _
    refine XS.dcmpS X3.here hx rfl (hb hby at_107) rfl (cmpV_l _) ?_
    show Steps p.tables e below (T3.setTop (mkF m 108 #[.val (.int p0), .val (.int p1), .val (.int p2), .val (.int p3), .val (.int p4), .val (.long (p1 &&& (1048575 : Int32)).toInt64), .second, .val (.long (p2 &&& (1048575 : Int32)).toInt64), .second, .val (.long (p3 &&& (1048575 : Int32)).toInt64), .second, .val (.double (9218868437227405312 : UInt64)), .second, .val (.int (1 : Int32)), .val (.double (9218868437227405312 : UInt64)), .second, .val (.ref b1), .val (.double (FP.dadd (FP.dmul (FP.l2d (p1 &&& (1048575 : Int32)).toInt64) (FP.l2d (p3 &&& (1048575 : Int32)).toInt64)) (9218868437227405312 : UInt64))), .second, .unset, .unset] [(.int (FP.cmpInt (-1) (FP.dcmp (FP.dadd (FP.dmul (FP.l2d (p1 &&& (1048575 : Int32)).toInt64) (FP.l2d (p3 &&& (1048575 : Int32)).toInt64)) (9218868437227405312 : UInt64)) (9218868437227405312 : UInt64))))])) _
    refine XS.ifNo X3.here hx rfl (hb hby at_108) rfl b108 ?_
    show Steps p.tables e below (T3.setTop (mkF m 111 #[.val (.int p0), .val (.int p1), .val (.int p2), .val (.int p3), .val (.int p4), .val (.long (p1 &&& (1048575 : Int32)).toInt64), .second, .val (.long (p2 &&& (1048575 : Int32)).toInt64), .second, .val (.long (p3 &&& (1048575 : Int32)).toInt64), .second, .val (.double (9218868437227405312 : UInt64)), .second, .val (.int (1 : Int32)), .val (.double (9218868437227405312 : UInt64)), .second, .val (.ref b1), .val (.double (FP.dadd (FP.dmul (FP.l2d (p1 &&& (1048575 : Int32)).toInt64) (FP.l2d (p3 &&& (1048575 : Int32)).toInt64)) (9218868437227405312 : UInt64))), .second, .unset, .unset] [])) _
    refine XS.iconst X3.here hx rfl (hb hby at_111) ?_
    show Steps p.tables e below (T3.setTop (mkF m 112 #[.val (.int p0), .val (.int p1), .val (.int p2), .val (.int p3), .val (.int p4), .val (.long (p1 &&& (1048575 : Int32)).toInt64), .second, .val (.long (p2 &&& (1048575 : Int32)).toInt64), .second, .val (.long (p3 &&& (1048575 : Int32)).toInt64), .second, .val (.double (9218868437227405312 : UInt64)), .second, .val (.int (1 : Int32)), .val (.double (9218868437227405312 : UInt64)), .second, .val (.ref b1), .val (.double (FP.dadd (FP.dmul (FP.l2d (p1 &&& (1048575 : Int32)).toInt64) (FP.l2d (p3 &&& (1048575 : Int32)).toInt64)) (9218868437227405312 : UInt64))), .second, .unset, .unset] [(.int (1 : Int32))])) _
    refine XS.goto X3.here hx rfl (pc0 := 112) (pc' := 116) rfl (hb hby at_112) (by decide) (by decide) ?_
    show Steps p.tables e below (T3.setTop (mkF m 116 #[.val (.int p0), .val (.int p1), .val (.int p2), .val (.int p3), .val (.int p4), .val (.long (p1 &&& (1048575 : Int32)).toInt64), .second, .val (.long (p2 &&& (1048575 : Int32)).toInt64), .second, .val (.long (p3 &&& (1048575 : Int32)).toInt64), .second, .val (.double (9218868437227405312 : UInt64)), .second, .val (.int (1 : Int32)), .val (.double (9218868437227405312 : UInt64)), .second, .val (.ref b1), .val (.double (FP.dadd (FP.dmul (FP.l2d (p1 &&& (1048575 : Int32)).toInt64) (FP.l2d (p3 &&& (1048575 : Int32)).toInt64)) (9218868437227405312 : UInt64))), .second, .unset, .unset] [(.int (1 : Int32))])) _
    exact retN X3 hx (t := .boolean) Bd.returns (by simp) (hb hby at_116) hr
  · show QL n0 _ T3.heap _
    exact ⟨rfl, N3⟩
theorem ef_rm0tf (m : MethodId) (x0 : Int32) (x1 : Int32) (x2 : Int32) (x3 : Int32) (x4 : Int32) : entryFrame m #[(.int x0), (.int x1), (.int x2), (.int x3), (.int x4)] maxLocals = mkF m 0 #[.val (.int x0), .val (.int x1), .val (.int x2), .val (.int x3), .val (.int x4), .unset, .unset, .unset, .unset, .unset, .unset, .unset, .unset, .unset, .unset, .unset, .unset, .unset, .unset, .unset, .unset] [] := by first | (simp [entryFrame, mkF, argsToLocals, Value.category, maxLocals]; done) | rfl
set_option maxRecDepth 65536 in
set_option maxHeartbeats 40000000 in
theorem rm0tf (l : Launch) (Z : State) (a0 : Array Value) (hw : ∀ d ∈ tables_1, d.before a0 Z = true) (ws : List Jvm.Cond)  (p0 : Int32) (p1 : Int32) (p2 : Int32) (p3 : Int32) (p4 : Int32) (h0 : Heap) (n0 : Nat) (Z0 : n0 ≤ h0.size) 
    (b25 : ifCond.holds .eq (p4 &&& (1 : Int32)) = true)
    (b45 : ifCond.holds .eq (p4 &&& (2 : Int32)) = false)
    (c1 : NoNaN64 (FP.dmul (FP.l2d (p1 &&& (1048575 : Int32)).toInt64) (FP.l2d (p3 &&& (1048575 : Int32)).toInt64)))
    (c2 : NoNaN64 (FP.dadd (FP.dmul (FP.l2d (p1 &&& (1048575 : Int32)).toInt64) (FP.l2d (p3 &&& (1048575 : Int32)).toInt64)) (9218868437227405312 : UInt64)))
    (b108 : ifCond.holds .ne (FP.cmpInt (-1) (FP.dcmp (FP.dadd (FP.dmul (FP.l2d (p1 &&& (1048575 : Int32)).toInt64) (FP.l2d (p3 &&& (1048575 : Int32)).toInt64)) (9218868437227405312 : UInt64)) (9218868437227405312 : UInt64))) = false) :
    MetFree l x (head1 (Jvm.Cond.code x code maxLocals ret :: ws) room_1) (fun a U => a = #[(.int p0), (.int p1), (.int p2), (.int p3), (.int p4)] ∧ Z.Warmed39 U.vm ∧ U.heap = h0) (fun _ _ _ _ _ => True) (fun _ U o U' => ∃ v L, o = .returned v ∧ QL n0 v U'.heap L ∧ FrameEnd U o U' L 16 128) := by
  refine MetFree.of_bodySF (plainFor_of_name pn_2) hisR ?_
  intro p e s m args below meth c s₁ Bd hml0 hP hK
  obtain ⟨rfl, hZ, hh⟩ := hP
  have hx := Bd.exec
  have hby := Bd.bytes
  have hml : c.maxLocals = 21 := hml0
  have hown : s.vm.findClass "com/example/roving_fleet/rovingfleet/ServiceLimitsLongestRidePinLaw" = some m.cls := findClass_of_methodNamed Bd.named
  have hnm := (name_of_methodNamed Bd.named Bd.method).1
  have X0 : Stand p l e room_1 s m #[(.int p0), (.int p1), (.int p2), (.int p3), (.int p4)] below meth c s₁ [] 0 0 := Stand.of_body Bd
  have e0 : s₁.heap = h0 := by rw [← hh, Bd.state]; rfl
  have N0 := Fr.nil n0
  have pre0 : ∀ t, Steps p.tables e below (s₁.setTop (mkF m 0 #[.val (.int p0), .val (.int p1), .val (.int p2), .val (.int p3), .val (.int p4), .unset, .unset, .unset, .unset, .unset, .unset, .unset, .unset, .unset, .unset, .unset, .unset, .unset, .unset, .unset, .unset] [])) t → Steps p.tables e below (s₁.setTop (entryFrame m #[(.int p0), (.int p1), (.int p2), (.int p3), (.int p4)] maxLocals)) t := fun t k => castTop (ef_rm0tf m p0 p1 p2 p3 p4) k
  obtain ⟨T1, h1, X1, e1, E1, A1, D1, -, st1⟩ := newO X0 hx hZ hown (hw _ (List.mem_of_getElem? (i := 1) rfl)) (hw _ (List.mem_of_getElem? (i := 2) rfl)) (hw _ (List.mem_of_getElem? (i := 3) rfl)) e0 (g := (mkF m 71 #[.val (.int p0), .val (.int p1), .val (.int p2), .val (.int p3), .val (.int p4), .val (.long (p1 &&& (1048575 : Int32)).toInt64), .second, .val (.long (p2 &&& (1048575 : Int32)).toInt64), .second, .val (.long (p3 &&& (1048575 : Int32)).toInt64), .second, .val (.double (FP.i2d (p0 &&& (1048575 : Int32)))), .second, .val (.int (1 : Int32)), .val (.double (9218868437227405312 : UInt64)), .second, .unset, .unset, .unset, .unset, .unset] [])) rfl (hb hby at_71) (by decide) (by decide)
  obtain ⟨b1, g1⟩ : ∃ z, z = h0.size := ⟨_, rfl⟩
  have g_b1 : n0 ≤ b1 := Nat.le_trans Z0 (Nat.le_of_eq g1.symm)
  rw [← g1] at A1 D1 st1
  have F1_maxWait : Fld Z h1 b1 "com/example/roving_fleet/rovingfleet/ServiceLimits" "maxWait" "D" (.double (0 : UInt64)) := D1 (Or.inr (hw _ (List.mem_of_getElem? (i := 16) rfl))) (ty := .double) (by decide)
  have F1_detourFactor : Fld Z h1 b1 "com/example/roving_fleet/rovingfleet/ServiceLimits" "detourFactor" "D" (.double (0 : UInt64)) := D1 (Or.inr (hw _ (List.mem_of_getElem? (i := 18) rfl))) (ty := .double) (by decide)
  have F1_detourAllowance : Fld Z h1 b1 "com/example/roving_fleet/rovingfleet/ServiceLimits" "detourAllowance" "D" (.double (0 : UInt64)) := D1 (Or.inr (hw _ (List.mem_of_getElem? (i := 20) rfl))) (ty := .double) (by decide)
  obtain ⟨_, _, ⟨T2, L2, k2, n2⟩, -, X2, ⟨Lc2, hQ2, l2, y2, z2⟩, st2⟩ := X1.specialBack hx (y := (⟨"com/example/roving_fleet/rovingfleet/ServiceLimits", "<init>", "(DDD)V"⟩ : MethodName)) rfl hown (mvT hZ (hw _ (List.mem_of_getElem? (i := 4) rfl))) (mvT hZ (hw _ (List.mem_of_getElem? (i := 5) rfl))) (mvT hZ (hw _ (List.mem_of_getElem? (i := 6) rfl))) (by decide) (backOf (W := 1) (rmI l Z a0 hw [] _ _ _ b1 (FP.i2d (p0 &&& (1048575 : Int32))) (FP.l2d (p1 &&& (1048575 : Int32)).toInt64) (9218868437227405312 : UInt64) h1 n0 (Nat.le_trans Z0 E1.1) A1 g_b1 F1_maxWait F1_detourFactor F1_detourAllowance) hZ (hw _ (List.mem_of_getElem? (i := 6) rfl)) (hw _ (List.mem_of_getElem? (i := 3) rfl)) (by decide) (by decide)) (g := (mkF m 82 #[.val (.int p0), .val (.int p1), .val (.int p2), .val (.int p3), .val (.int p4), .val (.long (p1 &&& (1048575 : Int32)).toInt64), .second, .val (.long (p2 &&& (1048575 : Int32)).toInt64), .second, .val (.long (p3 &&& (1048575 : Int32)).toInt64), .second, .val (.double (FP.i2d (p0 &&& (1048575 : Int32)))), .second, .val (.int (1 : Int32)), .val (.double (9218868437227405312 : UInt64)), .second, .unset, .unset, .unset, .unset, .unset] [(.double (9218868437227405312 : UInt64)), (.double (FP.l2d (p1 &&& (1048575 : Int32)).toInt64)), (.double (FP.i2d (p0 &&& (1048575 : Int32)))), (.ref b1), (.ref b1)])) rfl (by rw [hml]; rfl) (Steps.refl _) (a := b1) (argsL := [(.double (FP.i2d (p0 &&& (1048575 : Int32)))), (.double (FP.l2d (p1 &&& (1048575 : Int32)).toInt64)), (.double (9218868437227405312 : UInt64))]) (rest := [(.ref b1)]) (lenOf pd_1 rfl) rfl (by show 2 * 0 + _ ≤ _; exact Nat.le_of_eq rfl) (hb hby at_82) (fun _ _ => ⟨rfl, e1, (by decide : 1 + 0 ≤ _), (by decide : 3 + 0 ≤ _)⟩)
  dsimp only [Pt.U, Pt.locs, Pt.cells, Pt.slots] at X2 l2 y2 z2 st2 hQ2
  subst l2 y2 z2
  obtain ⟨rfl, N2a, K2a, E2a, F2a, F2b⟩ := hQ2
  have N2 := Fr.app N0 N2a
  obtain ⟨cq3, kq3, q3a, q3b, q3c⟩ := isOf hZ rfl E2a
  obtain ⟨_, _, ⟨T3, L3, k3, n3⟩, -, X3, ⟨Lc3, hQ3, l3, y3, z3⟩, st3⟩ := X2.virtualBack hx (y := (⟨"com/example/roving_fleet/rovingfleet/ServiceLimits", "longestRide", "(D)D"⟩ : MethodName)) (z := (⟨"com/example/roving_fleet/rovingfleet/ServiceLimits", "longestRide", "(D)D"⟩ : MethodName)) hown (mvT hZ (hw _ (List.mem_of_getElem? (i := 21) rfl))) (mvT hZ (hw _ (List.mem_of_getElem? (i := 22) rfl))) (notFace_of_selects (args := #[]) (mvT hZ (hw _ (List.mem_of_getElem? (i := 24) rfl)))) (mvT hZ (hw _ (List.mem_of_getElem? (i := 24) rfl))) (mvT hZ (hw _ (List.mem_of_getElem? (i := 23) rfl))) (by decide) (backOf (W := 0) (rmL l Z a0 hw [] (FP.l2d (p1 &&& (1048575 : Int32)).toInt64) (9218868437227405312 : UInt64) b1 (FP.l2d (p3 &&& (1048575 : Int32)).toInt64) T2.heap n0 (Nat.le_trans (Nat.le_trans Z0 E1.1) K2a.1) F2a F2b c1 c2) hZ (hw _ (List.mem_of_getElem? (i := 25) rfl)) (hw _ (List.mem_of_getElem? (i := 3) rfl)) (by decide) (by decide)) q3a q3c (g := (mkF m 92 #[.val (.int p0), .val (.int p1), .val (.int p2), .val (.int p3), .val (.int p4), .val (.long (p1 &&& (1048575 : Int32)).toInt64), .second, .val (.long (p2 &&& (1048575 : Int32)).toInt64), .second, .val (.long (p3 &&& (1048575 : Int32)).toInt64), .second, .val (.double (FP.i2d (p0 &&& (1048575 : Int32)))), .second, .val (.int (1 : Int32)), .val (.double (9218868437227405312 : UInt64)), .second, .val (.ref b1), .unset, .unset, .unset, .unset] [(.double (FP.l2d (p3 &&& (1048575 : Int32)).toInt64)), (.ref b1)])) rfl (by rw [hml]; rfl) (Steps.refl _) (argsL := [(.double (FP.l2d (p3 &&& (1048575 : Int32)).toInt64))]) (rest := []) (lenOf pd_2 rfl) rfl (by show 2 * 0 + _ ≤ _; exact Nat.le_of_eq rfl) (hb hby at_92) (fun _ _ => ⟨rfl, rfl, (by decide : 1 + 0 ≤ _), (by decide : 3 + 0 ≤ _)⟩)
  dsimp only [Pt.U, Pt.locs, Pt.cells, Pt.slots] at X3 l3 y3 z3 st3 hQ3
  subst l3 y3 z3
  obtain ⟨rfl, N3a, e3⟩ := hQ3
  have N3 := Fr.app N2 N3a
  obtain ⟨fs, hr, hrun, hended, hW, hsame⟩ := X3.leave (v := some (.int (1 : Int32))) (fun h => by rw [Bd.returns] at h; cases h)
  refine ⟨_, _, pre0 _ ?_, hrun, hended, _, _, rfl, ?_, ⟨_, rfl⟩, hW, hsame.mono (Nat.le_of_ble_eq_true rfl) (Nat.le_of_ble_eq_true rfl)⟩
  · show Steps p.tables e below (s₁.setTop (mkF m 0 #[.val (.int p0), .val (.int p1), .val (.int p2), .val (.int p3), .val (.int p4), .unset, .unset, .unset, .unset, .unset, .unset, .unset, .unset, .unset, .unset, .unset, .unset, .unset, .unset, .unset, .unset] [])) _
    refine XS.iloadN X0.here hx rfl (hb hby at_0) rfl ?_
    show Steps p.tables e below (s₁.setTop (mkF m 1 #[.val (.int p0), .val (.int p1), .val (.int p2), .val (.int p3), .val (.int p4), .unset, .unset, .unset, .unset, .unset, .unset, .unset, .unset, .unset, .unset, .unset, .unset, .unset, .unset, .unset, .unset] [(.int p1)])) _
    refine X0.ldcInt hx hown (mvT hZ (hw _ (List.mem_of_getElem? (i := 0) rfl))) (g := (mkF m 1 #[.val (.int p0), .val (.int p1), .val (.int p2), .val (.int p3), .val (.int p4), .unset, .unset, .unset, .unset, .unset, .unset, .unset, .unset, .unset, .unset, .unset, .unset, .unset, .unset, .unset, .unset] [(.int p1)])) rfl (hb hby at_1) _ ?_
    show Steps p.tables e below (s₁.setTop (mkF m 3 #[.val (.int p0), .val (.int p1), .val (.int p2), .val (.int p3), .val (.int p4), .unset, .unset, .unset, .unset, .unset, .unset, .unset, .unset, .unset, .unset, .unset, .unset, .unset, .unset, .unset, .unset] [(.int (1048575 : Int32)), (.int p1)])) _
    refine XS.iand X0.here hx rfl (hb hby at_3) rfl ?_
    show Steps p.tables e below (s₁.setTop (mkF m 4 #[.val (.int p0), .val (.int p1), .val (.int p2), .val (.int p3), .val (.int p4), .unset, .unset, .unset, .unset, .unset, .unset, .unset, .unset, .unset, .unset, .unset, .unset, .unset, .unset, .unset, .unset] [(.int (p1 &&& (1048575 : Int32)))])) _
    refine XS.i2l X0.here hx rfl (hb hby at_4) rfl ?_
    show Steps p.tables e below (s₁.setTop (mkF m 5 #[.val (.int p0), .val (.int p1), .val (.int p2), .val (.int p3), .val (.int p4), .unset, .unset, .unset, .unset, .unset, .unset, .unset, .unset, .unset, .unset, .unset, .unset, .unset, .unset, .unset, .unset] [(.long (p1 &&& (1048575 : Int32)).toInt64)])) _
    refine XS.lstore X0.here hx rfl (hb hby at_5) rfl (l' := #[.val (.int p0), .val (.int p1), .val (.int p2), .val (.int p3), .val (.int p4), .val (.long (p1 &&& (1048575 : Int32)).toInt64), .second, .unset, .unset, .unset, .unset, .unset, .unset, .unset, .unset, .unset, .unset, .unset, .unset, .unset, .unset]) rfl ?_
    show Steps p.tables e below (s₁.setTop (mkF m 7 #[.val (.int p0), .val (.int p1), .val (.int p2), .val (.int p3), .val (.int p4), .val (.long (p1 &&& (1048575 : Int32)).toInt64), .second, .unset, .unset, .unset, .unset, .unset, .unset, .unset, .unset, .unset, .unset, .unset, .unset, .unset, .unset] [])) _
    refine XS.iloadN X0.here hx rfl (hb hby at_7) rfl ?_
    show Steps p.tables e below (s₁.setTop (mkF m 8 #[.val (.int p0), .val (.int p1), .val (.int p2), .val (.int p3), .val (.int p4), .val (.long (p1 &&& (1048575 : Int32)).toInt64), .second, .unset, .unset, .unset, .unset, .unset, .unset, .unset, .unset, .unset, .unset, .unset, .unset, .unset, .unset] [(.int p2)])) _
    refine X0.ldcInt hx hown (mvT hZ (hw _ (List.mem_of_getElem? (i := 0) rfl))) (g := (mkF m 8 #[.val (.int p0), .val (.int p1), .val (.int p2), .val (.int p3), .val (.int p4), .val (.long (p1 &&& (1048575 : Int32)).toInt64), .second, .unset, .unset, .unset, .unset, .unset, .unset, .unset, .unset, .unset, .unset, .unset, .unset, .unset, .unset] [(.int p2)])) rfl (hb hby at_8) _ ?_
    show Steps p.tables e below (s₁.setTop (mkF m 10 #[.val (.int p0), .val (.int p1), .val (.int p2), .val (.int p3), .val (.int p4), .val (.long (p1 &&& (1048575 : Int32)).toInt64), .second, .unset, .unset, .unset, .unset, .unset, .unset, .unset, .unset, .unset, .unset, .unset, .unset, .unset, .unset] [(.int (1048575 : Int32)), (.int p2)])) _
    refine XS.iand X0.here hx rfl (hb hby at_10) rfl ?_
    show Steps p.tables e below (s₁.setTop (mkF m 11 #[.val (.int p0), .val (.int p1), .val (.int p2), .val (.int p3), .val (.int p4), .val (.long (p1 &&& (1048575 : Int32)).toInt64), .second, .unset, .unset, .unset, .unset, .unset, .unset, .unset, .unset, .unset, .unset, .unset, .unset, .unset, .unset] [(.int (p2 &&& (1048575 : Int32)))])) _
    refine XS.i2l X0.here hx rfl (hb hby at_11) rfl ?_
    show Steps p.tables e below (s₁.setTop (mkF m 12 #[.val (.int p0), .val (.int p1), .val (.int p2), .val (.int p3), .val (.int p4), .val (.long (p1 &&& (1048575 : Int32)).toInt64), .second, .unset, .unset, .unset, .unset, .unset, .unset, .unset, .unset, .unset, .unset, .unset, .unset, .unset, .unset] [(.long (p2 &&& (1048575 : Int32)).toInt64)])) _
    refine XS.lstore X0.here hx rfl (hb hby at_12) rfl (l' := #[.val (.int p0), .val (.int p1), .val (.int p2), .val (.int p3), .val (.int p4), .val (.long (p1 &&& (1048575 : Int32)).toInt64), .second, .val (.long (p2 &&& (1048575 : Int32)).toInt64), .second, .unset, .unset, .unset, .unset, .unset, .unset, .unset, .unset, .unset, .unset, .unset, .unset]) rfl ?_
    show Steps p.tables e below (s₁.setTop (mkF m 14 #[.val (.int p0), .val (.int p1), .val (.int p2), .val (.int p3), .val (.int p4), .val (.long (p1 &&& (1048575 : Int32)).toInt64), .second, .val (.long (p2 &&& (1048575 : Int32)).toInt64), .second, .unset, .unset, .unset, .unset, .unset, .unset, .unset, .unset, .unset, .unset, .unset, .unset] [])) _
    refine XS.iloadN X0.here hx rfl (hb hby at_14) rfl ?_
    show Steps p.tables e below (s₁.setTop (mkF m 15 #[.val (.int p0), .val (.int p1), .val (.int p2), .val (.int p3), .val (.int p4), .val (.long (p1 &&& (1048575 : Int32)).toInt64), .second, .val (.long (p2 &&& (1048575 : Int32)).toInt64), .second, .unset, .unset, .unset, .unset, .unset, .unset, .unset, .unset, .unset, .unset, .unset, .unset] [(.int p3)])) _
    refine X0.ldcInt hx hown (mvT hZ (hw _ (List.mem_of_getElem? (i := 0) rfl))) (g := (mkF m 15 #[.val (.int p0), .val (.int p1), .val (.int p2), .val (.int p3), .val (.int p4), .val (.long (p1 &&& (1048575 : Int32)).toInt64), .second, .val (.long (p2 &&& (1048575 : Int32)).toInt64), .second, .unset, .unset, .unset, .unset, .unset, .unset, .unset, .unset, .unset, .unset, .unset, .unset] [(.int p3)])) rfl (hb hby at_15) _ ?_
    show Steps p.tables e below (s₁.setTop (mkF m 17 #[.val (.int p0), .val (.int p1), .val (.int p2), .val (.int p3), .val (.int p4), .val (.long (p1 &&& (1048575 : Int32)).toInt64), .second, .val (.long (p2 &&& (1048575 : Int32)).toInt64), .second, .unset, .unset, .unset, .unset, .unset, .unset, .unset, .unset, .unset, .unset, .unset, .unset] [(.int (1048575 : Int32)), (.int p3)])) _
    refine XS.iand X0.here hx rfl (hb hby at_17) rfl ?_
    show Steps p.tables e below (s₁.setTop (mkF m 18 #[.val (.int p0), .val (.int p1), .val (.int p2), .val (.int p3), .val (.int p4), .val (.long (p1 &&& (1048575 : Int32)).toInt64), .second, .val (.long (p2 &&& (1048575 : Int32)).toInt64), .second, .unset, .unset, .unset, .unset, .unset, .unset, .unset, .unset, .unset, .unset, .unset, .unset] [(.int (p3 &&& (1048575 : Int32)))])) _
    refine XS.i2l X0.here hx rfl (hb hby at_18) rfl ?_
    show Steps p.tables e below (s₁.setTop (mkF m 19 #[.val (.int p0), .val (.int p1), .val (.int p2), .val (.int p3), .val (.int p4), .val (.long (p1 &&& (1048575 : Int32)).toInt64), .second, .val (.long (p2 &&& (1048575 : Int32)).toInt64), .second, .unset, .unset, .unset, .unset, .unset, .unset, .unset, .unset, .unset, .unset, .unset, .unset] [(.long (p3 &&& (1048575 : Int32)).toInt64)])) _
    refine XS.lstore X0.here hx rfl (hb hby at_19) rfl (l' := #[.val (.int p0), .val (.int p1), .val (.int p2), .val (.int p3), .val (.int p4), .val (.long (p1 &&& (1048575 : Int32)).toInt64), .second, .val (.long (p2 &&& (1048575 : Int32)).toInt64), .second, .val (.long (p3 &&& (1048575 : Int32)).toInt64), .second, .unset, .unset, .unset, .unset, .unset, .unset, .unset, .unset, .unset, .unset]) rfl ?_
    show Steps p.tables e below (s₁.setTop (mkF m 21 #[.val (.int p0), .val (.int p1), .val (.int p2), .val (.int p3), .val (.int p4), .val (.long (p1 &&& (1048575 : Int32)).toInt64), .second, .val (.long (p2 &&& (1048575 : Int32)).toInt64), .second, .val (.long (p3 &&& (1048575 : Int32)).toInt64), .second, .unset, .unset, .unset, .unset, .unset, .unset, .unset, .unset, .unset, .unset] [])) _
    refine XS.iload X0.here hx rfl (hb hby at_21) rfl ?_
    show Steps p.tables e below (s₁.setTop (mkF m 23 #[.val (.int p0), .val (.int p1), .val (.int p2), .val (.int p3), .val (.int p4), .val (.long (p1 &&& (1048575 : Int32)).toInt64), .second, .val (.long (p2 &&& (1048575 : Int32)).toInt64), .second, .val (.long (p3 &&& (1048575 : Int32)).toInt64), .second, .unset, .unset, .unset, .unset, .unset, .unset, .unset, .unset, .unset, .unset] [(.int p4)])) _
    refine XS.iconst X0.here hx rfl (hb hby at_23) ?_
    show Steps p.tables e below (s₁.setTop (mkF m 24 #[.val (.int p0), .val (.int p1), .val (.int p2), .val (.int p3), .val (.int p4), .val (.long (p1 &&& (1048575 : Int32)).toInt64), .second, .val (.long (p2 &&& (1048575 : Int32)).toInt64), .second, .val (.long (p3 &&& (1048575 : Int32)).toInt64), .second, .unset, .unset, .unset, .unset, .unset, .unset, .unset, .unset, .unset, .unset] [(.int (1 : Int32)), (.int p4)])) _
    refine XS.iand X0.here hx rfl (hb hby at_24) rfl ?_
    show Steps p.tables e below (s₁.setTop (mkF m 25 #[.val (.int p0), .val (.int p1), .val (.int p2), .val (.int p3), .val (.int p4), .val (.long (p1 &&& (1048575 : Int32)).toInt64), .second, .val (.long (p2 &&& (1048575 : Int32)).toInt64), .second, .val (.long (p3 &&& (1048575 : Int32)).toInt64), .second, .unset, .unset, .unset, .unset, .unset, .unset, .unset, .unset, .unset, .unset] [(.int (p4 &&& (1 : Int32)))])) _
    refine XS.ifYes X0.here hx rfl (pc0 := 25) (pc' := 34) rfl (hb hby at_25) rfl b25 (by decide) (by decide) ?_
    show Steps p.tables e below (s₁.setTop (mkF m 34 #[.val (.int p0), .val (.int p1), .val (.int p2), .val (.int p3), .val (.int p4), .val (.long (p1 &&& (1048575 : Int32)).toInt64), .second, .val (.long (p2 &&& (1048575 : Int32)).toInt64), .second, .val (.long (p3 &&& (1048575 : Int32)).toInt64), .second, .unset, .unset, .unset, .unset, .unset, .unset, .unset, .unset, .unset, .unset] [])) _
    refine XS.iloadN X0.here hx rfl (hb hby at_34) rfl ?_
    show Steps p.tables e below (s₁.setTop (mkF m 35 #[.val (.int p0), .val (.int p1), .val (.int p2), .val (.int p3), .val (.int p4), .val (.long (p1 &&& (1048575 : Int32)).toInt64), .second, .val (.long (p2 &&& (1048575 : Int32)).toInt64), .second, .val (.long (p3 &&& (1048575 : Int32)).toInt64), .second, .unset, .unset, .unset, .unset, .unset, .unset, .unset, .unset, .unset, .unset] [(.int p0)])) _
    refine X0.ldcInt hx hown (mvT hZ (hw _ (List.mem_of_getElem? (i := 0) rfl))) (g := (mkF m 35 #[.val (.int p0), .val (.int p1), .val (.int p2), .val (.int p3), .val (.int p4), .val (.long (p1 &&& (1048575 : Int32)).toInt64), .second, .val (.long (p2 &&& (1048575 : Int32)).toInt64), .second, .val (.long (p3 &&& (1048575 : Int32)).toInt64), .second, .unset, .unset, .unset, .unset, .unset, .unset, .unset, .unset, .unset, .unset] [(.int p0)])) rfl (hb hby at_35) _ ?_
    show Steps p.tables e below (s₁.setTop (mkF m 37 #[.val (.int p0), .val (.int p1), .val (.int p2), .val (.int p3), .val (.int p4), .val (.long (p1 &&& (1048575 : Int32)).toInt64), .second, .val (.long (p2 &&& (1048575 : Int32)).toInt64), .second, .val (.long (p3 &&& (1048575 : Int32)).toInt64), .second, .unset, .unset, .unset, .unset, .unset, .unset, .unset, .unset, .unset, .unset] [(.int (1048575 : Int32)), (.int p0)])) _
    refine XS.iand X0.here hx rfl (hb hby at_37) rfl ?_
    show Steps p.tables e below (s₁.setTop (mkF m 38 #[.val (.int p0), .val (.int p1), .val (.int p2), .val (.int p3), .val (.int p4), .val (.long (p1 &&& (1048575 : Int32)).toInt64), .second, .val (.long (p2 &&& (1048575 : Int32)).toInt64), .second, .val (.long (p3 &&& (1048575 : Int32)).toInt64), .second, .unset, .unset, .unset, .unset, .unset, .unset, .unset, .unset, .unset, .unset] [(.int (p0 &&& (1048575 : Int32)))])) _
    refine XS.i2dS X0.here hx rfl (hb hby at_38) rfl rfl ?_
    show Steps p.tables e below (s₁.setTop (mkF m 39 #[.val (.int p0), .val (.int p1), .val (.int p2), .val (.int p3), .val (.int p4), .val (.long (p1 &&& (1048575 : Int32)).toInt64), .second, .val (.long (p2 &&& (1048575 : Int32)).toInt64), .second, .val (.long (p3 &&& (1048575 : Int32)).toInt64), .second, .unset, .unset, .unset, .unset, .unset, .unset, .unset, .unset, .unset, .unset] [(.double (FP.i2d (p0 &&& (1048575 : Int32))))])) _
    refine XS.dstore X0.here hx rfl (hb hby at_39) rfl (l' := #[.val (.int p0), .val (.int p1), .val (.int p2), .val (.int p3), .val (.int p4), .val (.long (p1 &&& (1048575 : Int32)).toInt64), .second, .val (.long (p2 &&& (1048575 : Int32)).toInt64), .second, .val (.long (p3 &&& (1048575 : Int32)).toInt64), .second, .val (.double (FP.i2d (p0 &&& (1048575 : Int32)))), .second, .unset, .unset, .unset, .unset, .unset, .unset, .unset, .unset]) rfl ?_
    show Steps p.tables e below (s₁.setTop (mkF m 41 #[.val (.int p0), .val (.int p1), .val (.int p2), .val (.int p3), .val (.int p4), .val (.long (p1 &&& (1048575 : Int32)).toInt64), .second, .val (.long (p2 &&& (1048575 : Int32)).toInt64), .second, .val (.long (p3 &&& (1048575 : Int32)).toInt64), .second, .val (.double (FP.i2d (p0 &&& (1048575 : Int32)))), .second, .unset, .unset, .unset, .unset, .unset, .unset, .unset, .unset] [])) _
    refine XS.iload X0.here hx rfl (hb hby at_41) rfl ?_
    show Steps p.tables e below (s₁.setTop (mkF m 43 #[.val (.int p0), .val (.int p1), .val (.int p2), .val (.int p3), .val (.int p4), .val (.long (p1 &&& (1048575 : Int32)).toInt64), .second, .val (.long (p2 &&& (1048575 : Int32)).toInt64), .second, .val (.long (p3 &&& (1048575 : Int32)).toInt64), .second, .val (.double (FP.i2d (p0 &&& (1048575 : Int32)))), .second, .unset, .unset, .unset, .unset, .unset, .unset, .unset, .unset] [(.int p4)])) _
    refine XS.iconst X0.here hx rfl (hb hby at_43) ?_
    show Steps p.tables e below (s₁.setTop (mkF m 44 #[.val (.int p0), .val (.int p1), .val (.int p2), .val (.int p3), .val (.int p4), .val (.long (p1 &&& (1048575 : Int32)).toInt64), .second, .val (.long (p2 &&& (1048575 : Int32)).toInt64), .second, .val (.long (p3 &&& (1048575 : Int32)).toInt64), .second, .val (.double (FP.i2d (p0 &&& (1048575 : Int32)))), .second, .unset, .unset, .unset, .unset, .unset, .unset, .unset, .unset] [(.int (2 : Int32)), (.int p4)])) _
    refine XS.iand X0.here hx rfl (hb hby at_44) rfl ?_
    show Steps p.tables e below (s₁.setTop (mkF m 45 #[.val (.int p0), .val (.int p1), .val (.int p2), .val (.int p3), .val (.int p4), .val (.long (p1 &&& (1048575 : Int32)).toInt64), .second, .val (.long (p2 &&& (1048575 : Int32)).toInt64), .second, .val (.long (p3 &&& (1048575 : Int32)).toInt64), .second, .val (.double (FP.i2d (p0 &&& (1048575 : Int32)))), .second, .unset, .unset, .unset, .unset, .unset, .unset, .unset, .unset] [(.int (p4 &&& (2 : Int32)))])) _
    refine XS.ifNo X0.here hx rfl (hb hby at_45) rfl b45 ?_
    show Steps p.tables e below (s₁.setTop (mkF m 48 #[.val (.int p0), .val (.int p1), .val (.int p2), .val (.int p3), .val (.int p4), .val (.long (p1 &&& (1048575 : Int32)).toInt64), .second, .val (.long (p2 &&& (1048575 : Int32)).toInt64), .second, .val (.long (p3 &&& (1048575 : Int32)).toInt64), .second, .val (.double (FP.i2d (p0 &&& (1048575 : Int32)))), .second, .unset, .unset, .unset, .unset, .unset, .unset, .unset, .unset] [])) _
    refine XS.iconst X0.here hx rfl (hb hby at_48) ?_
    show Steps p.tables e below (s₁.setTop (mkF m 49 #[.val (.int p0), .val (.int p1), .val (.int p2), .val (.int p3), .val (.int p4), .val (.long (p1 &&& (1048575 : Int32)).toInt64), .second, .val (.long (p2 &&& (1048575 : Int32)).toInt64), .second, .val (.long (p3 &&& (1048575 : Int32)).toInt64), .second, .val (.double (FP.i2d (p0 &&& (1048575 : Int32)))), .second, .unset, .unset, .unset, .unset, .unset, .unset, .unset, .unset] [(.int (1 : Int32))])) _
    refine XS.goto X0.here hx rfl (pc0 := 49) (pc' := 53) rfl (hb hby at_49) (by decide) (by decide) ?_
    show Steps p.tables e below (s₁.setTop (mkF m 53 #[.val (.int p0), .val (.int p1), .val (.int p2), .val (.int p3), .val (.int p4), .val (.long (p1 &&& (1048575 : Int32)).toInt64), .second, .val (.long (p2 &&& (1048575 : Int32)).toInt64), .second, .val (.long (p3 &&& (1048575 : Int32)).toInt64), .second, .val (.double (FP.i2d (p0 &&& (1048575 : Int32)))), .second, .unset, .unset, .unset, .unset, .unset, .unset, .unset, .unset] [(.int (1 : Int32))])) _
    refine XS.istore X0.here hx rfl (hb hby at_53) rfl (l' := #[.val (.int p0), .val (.int p1), .val (.int p2), .val (.int p3), .val (.int p4), .val (.long (p1 &&& (1048575 : Int32)).toInt64), .second, .val (.long (p2 &&& (1048575 : Int32)).toInt64), .second, .val (.long (p3 &&& (1048575 : Int32)).toInt64), .second, .val (.double (FP.i2d (p0 &&& (1048575 : Int32)))), .second, .val (.int (1 : Int32)), .unset, .unset, .unset, .unset, .unset, .unset, .unset]) rfl ?_
    show Steps p.tables e below (s₁.setTop (mkF m 55 #[.val (.int p0), .val (.int p1), .val (.int p2), .val (.int p3), .val (.int p4), .val (.long (p1 &&& (1048575 : Int32)).toInt64), .second, .val (.long (p2 &&& (1048575 : Int32)).toInt64), .second, .val (.long (p3 &&& (1048575 : Int32)).toInt64), .second, .val (.double (FP.i2d (p0 &&& (1048575 : Int32)))), .second, .val (.int (1 : Int32)), .unset, .unset, .unset, .unset, .unset, .unset, .unset] [])) _
    refine XS.iload X0.here hx rfl (hb hby at_55) rfl ?_
    show Steps p.tables e below (s₁.setTop (mkF m 57 #[.val (.int p0), .val (.int p1), .val (.int p2), .val (.int p3), .val (.int p4), .val (.long (p1 &&& (1048575 : Int32)).toInt64), .second, .val (.long (p2 &&& (1048575 : Int32)).toInt64), .second, .val (.long (p3 &&& (1048575 : Int32)).toInt64), .second, .val (.double (FP.i2d (p0 &&& (1048575 : Int32)))), .second, .val (.int (1 : Int32)), .unset, .unset, .unset, .unset, .unset, .unset, .unset] [(.int (1 : Int32))])) _
    refine XS.ifNo X0.here hx rfl (hb hby at_57) rfl (by decide) ?_
    show Steps p.tables e below (s₁.setTop (mkF m 60 #[.val (.int p0), .val (.int p1), .val (.int p2), .val (.int p3), .val (.int p4), .val (.long (p1 &&& (1048575 : Int32)).toInt64), .second, .val (.long (p2 &&& (1048575 : Int32)).toInt64), .second, .val (.long (p3 &&& (1048575 : Int32)).toInt64), .second, .val (.double (FP.i2d (p0 &&& (1048575 : Int32)))), .second, .val (.int (1 : Int32)), .unset, .unset, .unset, .unset, .unset, .unset, .unset] [])) _
    refine X0.ldc2DoubleC hx hown (mvT hZ (hw _ (List.mem_of_getElem? (i := 26) rfl))) (g := (mkF m 60 #[.val (.int p0), .val (.int p1), .val (.int p2), .val (.int p3), .val (.int p4), .val (.long (p1 &&& (1048575 : Int32)).toInt64), .second, .val (.long (p2 &&& (1048575 : Int32)).toInt64), .second, .val (.long (p3 &&& (1048575 : Int32)).toInt64), .second, .val (.double (FP.i2d (p0 &&& (1048575 : Int32)))), .second, .val (.int (1 : Int32)), .unset, .unset, .unset, .unset, .unset, .unset, .unset] [])) rfl (hb hby at_60) _ ?_
    show Steps p.tables e below (s₁.setTop (mkF m 63 #[.val (.int p0), .val (.int p1), .val (.int p2), .val (.int p3), .val (.int p4), .val (.long (p1 &&& (1048575 : Int32)).toInt64), .second, .val (.long (p2 &&& (1048575 : Int32)).toInt64), .second, .val (.long (p3 &&& (1048575 : Int32)).toInt64), .second, .val (.double (FP.i2d (p0 &&& (1048575 : Int32)))), .second, .val (.int (1 : Int32)), .unset, .unset, .unset, .unset, .unset, .unset, .unset] [(.double (9218868437227405312 : UInt64))])) _
    refine XS.goto X0.here hx rfl (pc0 := 63) (pc' := 69) rfl (hb hby at_63) (by decide) (by decide) ?_
    show Steps p.tables e below (s₁.setTop (mkF m 69 #[.val (.int p0), .val (.int p1), .val (.int p2), .val (.int p3), .val (.int p4), .val (.long (p1 &&& (1048575 : Int32)).toInt64), .second, .val (.long (p2 &&& (1048575 : Int32)).toInt64), .second, .val (.long (p3 &&& (1048575 : Int32)).toInt64), .second, .val (.double (FP.i2d (p0 &&& (1048575 : Int32)))), .second, .val (.int (1 : Int32)), .unset, .unset, .unset, .unset, .unset, .unset, .unset] [(.double (9218868437227405312 : UInt64))])) _
    refine XS.dstore X0.here hx rfl (hb hby at_69) rfl (l' := #[.val (.int p0), .val (.int p1), .val (.int p2), .val (.int p3), .val (.int p4), .val (.long (p1 &&& (1048575 : Int32)).toInt64), .second, .val (.long (p2 &&& (1048575 : Int32)).toInt64), .second, .val (.long (p3 &&& (1048575 : Int32)).toInt64), .second, .val (.double (FP.i2d (p0 &&& (1048575 : Int32)))), .second, .val (.int (1 : Int32)), .val (.double (9218868437227405312 : UInt64)), .second, .unset, .unset, .unset, .unset, .unset]) rfl ?_
    show Steps p.tables e below (s₁.setTop (mkF m 71 #[.val (.int p0), .val (.int p1), .val (.int p2), .val (.int p3), .val (.int p4), .val (.long (p1 &&& (1048575 : Int32)).toInt64), .second, .val (.long (p2 &&& (1048575 : Int32)).toInt64), .second, .val (.long (p3 &&& (1048575 : Int32)).toInt64), .second, .val (.double (FP.i2d (p0 &&& (1048575 : Int32)))), .second, .val (.int (1 : Int32)), .val (.double (9218868437227405312 : UInt64)), .second, .unset, .unset, .unset, .unset, .unset] [])) _
    refine st1 _ ?_
    show Steps p.tables e below (T1.setTop (mkF m 74 #[.val (.int p0), .val (.int p1), .val (.int p2), .val (.int p3), .val (.int p4), .val (.long (p1 &&& (1048575 : Int32)).toInt64), .second, .val (.long (p2 &&& (1048575 : Int32)).toInt64), .second, .val (.long (p3 &&& (1048575 : Int32)).toInt64), .second, .val (.double (FP.i2d (p0 &&& (1048575 : Int32)))), .second, .val (.int (1 : Int32)), .val (.double (9218868437227405312 : UInt64)), .second, .unset, .unset, .unset, .unset, .unset] [(.ref b1)])) _
    refine XS.dup X1.here hx rfl (hb hby at_74) rfl rfl ?_
    show Steps p.tables e below (T1.setTop (mkF m 75 #[.val (.int p0), .val (.int p1), .val (.int p2), .val (.int p3), .val (.int p4), .val (.long (p1 &&& (1048575 : Int32)).toInt64), .second, .val (.long (p2 &&& (1048575 : Int32)).toInt64), .second, .val (.long (p3 &&& (1048575 : Int32)).toInt64), .second, .val (.double (FP.i2d (p0 &&& (1048575 : Int32)))), .second, .val (.int (1 : Int32)), .val (.double (9218868437227405312 : UInt64)), .second, .unset, .unset, .unset, .unset, .unset] [(.ref b1), (.ref b1)])) _
    refine XS.dload X1.here hx rfl (hb hby at_75) rfl ?_
    show Steps p.tables e below (T1.setTop (mkF m 77 #[.val (.int p0), .val (.int p1), .val (.int p2), .val (.int p3), .val (.int p4), .val (.long (p1 &&& (1048575 : Int32)).toInt64), .second, .val (.long (p2 &&& (1048575 : Int32)).toInt64), .second, .val (.long (p3 &&& (1048575 : Int32)).toInt64), .second, .val (.double (FP.i2d (p0 &&& (1048575 : Int32)))), .second, .val (.int (1 : Int32)), .val (.double (9218868437227405312 : UInt64)), .second, .unset, .unset, .unset, .unset, .unset] [(.double (FP.i2d (p0 &&& (1048575 : Int32)))), (.ref b1), (.ref b1)])) _
    refine XS.lload X1.here hx rfl (hb hby at_77) rfl ?_
    show Steps p.tables e below (T1.setTop (mkF m 79 #[.val (.int p0), .val (.int p1), .val (.int p2), .val (.int p3), .val (.int p4), .val (.long (p1 &&& (1048575 : Int32)).toInt64), .second, .val (.long (p2 &&& (1048575 : Int32)).toInt64), .second, .val (.long (p3 &&& (1048575 : Int32)).toInt64), .second, .val (.double (FP.i2d (p0 &&& (1048575 : Int32)))), .second, .val (.int (1 : Int32)), .val (.double (9218868437227405312 : UInt64)), .second, .unset, .unset, .unset, .unset, .unset] [(.long (p1 &&& (1048575 : Int32)).toInt64), (.double (FP.i2d (p0 &&& (1048575 : Int32)))), (.ref b1), (.ref b1)])) _
    refine XS.l2dS X1.here hx rfl (hb hby at_79) rfl rfl ?_
    show Steps p.tables e below (T1.setTop (mkF m 80 #[.val (.int p0), .val (.int p1), .val (.int p2), .val (.int p3), .val (.int p4), .val (.long (p1 &&& (1048575 : Int32)).toInt64), .second, .val (.long (p2 &&& (1048575 : Int32)).toInt64), .second, .val (.long (p3 &&& (1048575 : Int32)).toInt64), .second, .val (.double (FP.i2d (p0 &&& (1048575 : Int32)))), .second, .val (.int (1 : Int32)), .val (.double (9218868437227405312 : UInt64)), .second, .unset, .unset, .unset, .unset, .unset] [(.double (FP.l2d (p1 &&& (1048575 : Int32)).toInt64)), (.double (FP.i2d (p0 &&& (1048575 : Int32)))), (.ref b1), (.ref b1)])) _
    refine XS.dload X1.here hx rfl (hb hby at_80) rfl ?_
    show Steps p.tables e below (T1.setTop (mkF m 82 #[.val (.int p0), .val (.int p1), .val (.int p2), .val (.int p3), .val (.int p4), .val (.long (p1 &&& (1048575 : Int32)).toInt64), .second, .val (.long (p2 &&& (1048575 : Int32)).toInt64), .second, .val (.long (p3 &&& (1048575 : Int32)).toInt64), .second, .val (.double (FP.i2d (p0 &&& (1048575 : Int32)))), .second, .val (.int (1 : Int32)), .val (.double (9218868437227405312 : UInt64)), .second, .unset, .unset, .unset, .unset, .unset] [(.double (9218868437227405312 : UInt64)), (.double (FP.l2d (p1 &&& (1048575 : Int32)).toInt64)), (.double (FP.i2d (p0 &&& (1048575 : Int32)))), (.ref b1), (.ref b1)])) _
    refine st2.trans ?_
    show Steps p.tables e below (T2.setTop (mkF m 85 #[.val (.int p0), .val (.int p1), .val (.int p2), .val (.int p3), .val (.int p4), .val (.long (p1 &&& (1048575 : Int32)).toInt64), .second, .val (.long (p2 &&& (1048575 : Int32)).toInt64), .second, .val (.long (p3 &&& (1048575 : Int32)).toInt64), .second, .val (.double (FP.i2d (p0 &&& (1048575 : Int32)))), .second, .val (.int (1 : Int32)), .val (.double (9218868437227405312 : UInt64)), .second, .unset, .unset, .unset, .unset, .unset] [(.ref b1)])) _
    refine XS.astore X2.here hx rfl (hb hby at_85) rfl rfl (l' := #[.val (.int p0), .val (.int p1), .val (.int p2), .val (.int p3), .val (.int p4), .val (.long (p1 &&& (1048575 : Int32)).toInt64), .second, .val (.long (p2 &&& (1048575 : Int32)).toInt64), .second, .val (.long (p3 &&& (1048575 : Int32)).toInt64), .second, .val (.double (FP.i2d (p0 &&& (1048575 : Int32)))), .second, .val (.int (1 : Int32)), .val (.double (9218868437227405312 : UInt64)), .second, .val (.ref b1), .unset, .unset, .unset, .unset]) rfl ?_
    show Steps p.tables e below (T2.setTop (mkF m 87 #[.val (.int p0), .val (.int p1), .val (.int p2), .val (.int p3), .val (.int p4), .val (.long (p1 &&& (1048575 : Int32)).toInt64), .second, .val (.long (p2 &&& (1048575 : Int32)).toInt64), .second, .val (.long (p3 &&& (1048575 : Int32)).toInt64), .second, .val (.double (FP.i2d (p0 &&& (1048575 : Int32)))), .second, .val (.int (1 : Int32)), .val (.double (9218868437227405312 : UInt64)), .second, .val (.ref b1), .unset, .unset, .unset, .unset] [])) _
    refine XS.aload X2.here hx rfl (hb hby at_87) rfl rfl ?_
    show Steps p.tables e below (T2.setTop (mkF m 89 #[.val (.int p0), .val (.int p1), .val (.int p2), .val (.int p3), .val (.int p4), .val (.long (p1 &&& (1048575 : Int32)).toInt64), .second, .val (.long (p2 &&& (1048575 : Int32)).toInt64), .second, .val (.long (p3 &&& (1048575 : Int32)).toInt64), .second, .val (.double (FP.i2d (p0 &&& (1048575 : Int32)))), .second, .val (.int (1 : Int32)), .val (.double (9218868437227405312 : UInt64)), .second, .val (.ref b1), .unset, .unset, .unset, .unset] [(.ref b1)])) _
    refine XS.lload X2.here hx rfl (hb hby at_89) rfl ?_
    show Steps p.tables e below (T2.setTop (mkF m 91 #[.val (.int p0), .val (.int p1), .val (.int p2), .val (.int p3), .val (.int p4), .val (.long (p1 &&& (1048575 : Int32)).toInt64), .second, .val (.long (p2 &&& (1048575 : Int32)).toInt64), .second, .val (.long (p3 &&& (1048575 : Int32)).toInt64), .second, .val (.double (FP.i2d (p0 &&& (1048575 : Int32)))), .second, .val (.int (1 : Int32)), .val (.double (9218868437227405312 : UInt64)), .second, .val (.ref b1), .unset, .unset, .unset, .unset] [(.long (p3 &&& (1048575 : Int32)).toInt64), (.ref b1)])) _
    refine XS.l2dS X2.here hx rfl (hb hby at_91) rfl rfl ?_
    show Steps p.tables e below (T2.setTop (mkF m 92 #[.val (.int p0), .val (.int p1), .val (.int p2), .val (.int p3), .val (.int p4), .val (.long (p1 &&& (1048575 : Int32)).toInt64), .second, .val (.long (p2 &&& (1048575 : Int32)).toInt64), .second, .val (.long (p3 &&& (1048575 : Int32)).toInt64), .second, .val (.double (FP.i2d (p0 &&& (1048575 : Int32)))), .second, .val (.int (1 : Int32)), .val (.double (9218868437227405312 : UInt64)), .second, .val (.ref b1), .unset, .unset, .unset, .unset] [(.double (FP.l2d (p3 &&& (1048575 : Int32)).toInt64)), (.ref b1)])) _
    refine st3.trans ?_
    show Steps p.tables e below (T3.setTop (mkF m 95 #[.val (.int p0), .val (.int p1), .val (.int p2), .val (.int p3), .val (.int p4), .val (.long (p1 &&& (1048575 : Int32)).toInt64), .second, .val (.long (p2 &&& (1048575 : Int32)).toInt64), .second, .val (.long (p3 &&& (1048575 : Int32)).toInt64), .second, .val (.double (FP.i2d (p0 &&& (1048575 : Int32)))), .second, .val (.int (1 : Int32)), .val (.double (9218868437227405312 : UInt64)), .second, .val (.ref b1), .unset, .unset, .unset, .unset] [(.double (FP.dadd (FP.dmul (FP.l2d (p1 &&& (1048575 : Int32)).toInt64) (FP.l2d (p3 &&& (1048575 : Int32)).toInt64)) (9218868437227405312 : UInt64)))])) _
    refine XS.dstore X3.here hx rfl (hb hby at_95) rfl (l' := #[.val (.int p0), .val (.int p1), .val (.int p2), .val (.int p3), .val (.int p4), .val (.long (p1 &&& (1048575 : Int32)).toInt64), .second, .val (.long (p2 &&& (1048575 : Int32)).toInt64), .second, .val (.long (p3 &&& (1048575 : Int32)).toInt64), .second, .val (.double (FP.i2d (p0 &&& (1048575 : Int32)))), .second, .val (.int (1 : Int32)), .val (.double (9218868437227405312 : UInt64)), .second, .val (.ref b1), .val (.double (FP.dadd (FP.dmul (FP.l2d (p1 &&& (1048575 : Int32)).toInt64) (FP.l2d (p3 &&& (1048575 : Int32)).toInt64)) (9218868437227405312 : UInt64))), .second, .unset, .unset]) rfl ?_
    show Steps p.tables e below (T3.setTop (mkF m 97 #[.val (.int p0), .val (.int p1), .val (.int p2), .val (.int p3), .val (.int p4), .val (.long (p1 &&& (1048575 : Int32)).toInt64), .second, .val (.long (p2 &&& (1048575 : Int32)).toInt64), .second, .val (.long (p3 &&& (1048575 : Int32)).toInt64), .second, .val (.double (FP.i2d (p0 &&& (1048575 : Int32)))), .second, .val (.int (1 : Int32)), .val (.double (9218868437227405312 : UInt64)), .second, .val (.ref b1), .val (.double (FP.dadd (FP.dmul (FP.l2d (p1 &&& (1048575 : Int32)).toInt64) (FP.l2d (p3 &&& (1048575 : Int32)).toInt64)) (9218868437227405312 : UInt64))), .second, .unset, .unset] [])) _
    refine XS.iload X3.here hx rfl (hb hby at_97) rfl ?_
    show Steps p.tables e below (T3.setTop (mkF m 99 #[.val (.int p0), .val (.int p1), .val (.int p2), .val (.int p3), .val (.int p4), .val (.long (p1 &&& (1048575 : Int32)).toInt64), .second, .val (.long (p2 &&& (1048575 : Int32)).toInt64), .second, .val (.long (p3 &&& (1048575 : Int32)).toInt64), .second, .val (.double (FP.i2d (p0 &&& (1048575 : Int32)))), .second, .val (.int (1 : Int32)), .val (.double (9218868437227405312 : UInt64)), .second, .val (.ref b1), .val (.double (FP.dadd (FP.dmul (FP.l2d (p1 &&& (1048575 : Int32)).toInt64) (FP.l2d (p3 &&& (1048575 : Int32)).toInt64)) (9218868437227405312 : UInt64))), .second, .unset, .unset] [(.int (1 : Int32))])) _
    refine XS.ifNo X3.here hx rfl (hb hby at_99) rfl (by decide) ?_
    show Steps p.tables e below (T3.setTop (mkF m 102 #[.val (.int p0), .val (.int p1), .val (.int p2), .val (.int p3), .val (.int p4), .val (.long (p1 &&& (1048575 : Int32)).toInt64), .second, .val (.long (p2 &&& (1048575 : Int32)).toInt64), .second, .val (.long (p3 &&& (1048575 : Int32)).toInt64), .second, .val (.double (FP.i2d (p0 &&& (1048575 : Int32)))), .second, .val (.int (1 : Int32)), .val (.double (9218868437227405312 : UInt64)), .second, .val (.ref b1), .val (.double (FP.dadd (FP.dmul (FP.l2d (p1 &&& (1048575 : Int32)).toInt64) (FP.l2d (p3 &&& (1048575 : Int32)).toInt64)) (9218868437227405312 : UInt64))), .second, .unset, .unset] [])) _
    refine XS.dload X3.here hx rfl (hb hby at_102) rfl ?_
    show Steps p.tables e below (T3.setTop (mkF m 104 #[.val (.int p0), .val (.int p1), .val (.int p2), .val (.int p3), .val (.int p4), .val (.long (p1 &&& (1048575 : Int32)).toInt64), .second, .val (.long (p2 &&& (1048575 : Int32)).toInt64), .second, .val (.long (p3 &&& (1048575 : Int32)).toInt64), .second, .val (.double (FP.i2d (p0 &&& (1048575 : Int32)))), .second, .val (.int (1 : Int32)), .val (.double (9218868437227405312 : UInt64)), .second, .val (.ref b1), .val (.double (FP.dadd (FP.dmul (FP.l2d (p1 &&& (1048575 : Int32)).toInt64) (FP.l2d (p3 &&& (1048575 : Int32)).toInt64)) (9218868437227405312 : UInt64))), .second, .unset, .unset] [(.double (FP.dadd (FP.dmul (FP.l2d (p1 &&& (1048575 : Int32)).toInt64) (FP.l2d (p3 &&& (1048575 : Int32)).toInt64)) (9218868437227405312 : UInt64)))])) _
    refine X3.ldc2DoubleC hx hown (mvT hZ (hw _ (List.mem_of_getElem? (i := 26) rfl))) (g := (mkF m 104 #[.val (.int p0), .val (.int p1), .val (.int p2), .val (.int p3), .val (.int p4), .val (.long (p1 &&& (1048575 : Int32)).toInt64), .second, .val (.long (p2 &&& (1048575 : Int32)).toInt64), .second, .val (.long (p3 &&& (1048575 : Int32)).toInt64), .second, .val (.double (FP.i2d (p0 &&& (1048575 : Int32)))), .second, .val (.int (1 : Int32)), .val (.double (9218868437227405312 : UInt64)), .second, .val (.ref b1), .val (.double (FP.dadd (FP.dmul (FP.l2d (p1 &&& (1048575 : Int32)).toInt64) (FP.l2d (p3 &&& (1048575 : Int32)).toInt64)) (9218868437227405312 : UInt64))), .second, .unset, .unset] [(.double (FP.dadd (FP.dmul (FP.l2d (p1 &&& (1048575 : Int32)).toInt64) (FP.l2d (p3 &&& (1048575 : Int32)).toInt64)) (9218868437227405312 : UInt64)))])) rfl (hb hby at_104) _ ?_
    show Steps p.tables e below (T3.setTop (mkF m 107 #[.val (.int p0), .val (.int p1), .val (.int p2), .val (.int p3), .val (.int p4), .val (.long (p1 &&& (1048575 : Int32)).toInt64), .second, .val (.long (p2 &&& (1048575 : Int32)).toInt64), .second, .val (.long (p3 &&& (1048575 : Int32)).toInt64), .second, .val (.double (FP.i2d (p0 &&& (1048575 : Int32)))), .second, .val (.int (1 : Int32)), .val (.double (9218868437227405312 : UInt64)), .second, .val (.ref b1), .val (.double (FP.dadd (FP.dmul (FP.l2d (p1 &&& (1048575 : Int32)).toInt64) (FP.l2d (p3 &&& (1048575 : Int32)).toInt64)) (9218868437227405312 : UInt64))), .second, .unset, .unset] [(.double (9218868437227405312 : UInt64)), (.double (FP.dadd (FP.dmul (FP.l2d (p1 &&& (1048575 : Int32)).toInt64) (FP.l2d (p3 &&& (1048575 : Int32)).toInt64)) (9218868437227405312 : UInt64)))])) _
    refine XS.dcmpS X3.here hx rfl (hb hby at_107) rfl (cmpV_l _) ?_
    show Steps p.tables e below (T3.setTop (mkF m 108 #[.val (.int p0), .val (.int p1), .val (.int p2), .val (.int p3), .val (.int p4), .val (.long (p1 &&& (1048575 : Int32)).toInt64), .second, .val (.long (p2 &&& (1048575 : Int32)).toInt64), .second, .val (.long (p3 &&& (1048575 : Int32)).toInt64), .second, .val (.double (FP.i2d (p0 &&& (1048575 : Int32)))), .second, .val (.int (1 : Int32)), .val (.double (9218868437227405312 : UInt64)), .second, .val (.ref b1), .val (.double (FP.dadd (FP.dmul (FP.l2d (p1 &&& (1048575 : Int32)).toInt64) (FP.l2d (p3 &&& (1048575 : Int32)).toInt64)) (9218868437227405312 : UInt64))), .second, .unset, .unset] [(.int (FP.cmpInt (-1) (FP.dcmp (FP.dadd (FP.dmul (FP.l2d (p1 &&& (1048575 : Int32)).toInt64) (FP.l2d (p3 &&& (1048575 : Int32)).toInt64)) (9218868437227405312 : UInt64)) (9218868437227405312 : UInt64))))])) _
    refine XS.ifNo X3.here hx rfl (hb hby at_108) rfl b108 ?_
    show Steps p.tables e below (T3.setTop (mkF m 111 #[.val (.int p0), .val (.int p1), .val (.int p2), .val (.int p3), .val (.int p4), .val (.long (p1 &&& (1048575 : Int32)).toInt64), .second, .val (.long (p2 &&& (1048575 : Int32)).toInt64), .second, .val (.long (p3 &&& (1048575 : Int32)).toInt64), .second, .val (.double (FP.i2d (p0 &&& (1048575 : Int32)))), .second, .val (.int (1 : Int32)), .val (.double (9218868437227405312 : UInt64)), .second, .val (.ref b1), .val (.double (FP.dadd (FP.dmul (FP.l2d (p1 &&& (1048575 : Int32)).toInt64) (FP.l2d (p3 &&& (1048575 : Int32)).toInt64)) (9218868437227405312 : UInt64))), .second, .unset, .unset] [])) _
    refine XS.iconst X3.here hx rfl (hb hby at_111) ?_
    show Steps p.tables e below (T3.setTop (mkF m 112 #[.val (.int p0), .val (.int p1), .val (.int p2), .val (.int p3), .val (.int p4), .val (.long (p1 &&& (1048575 : Int32)).toInt64), .second, .val (.long (p2 &&& (1048575 : Int32)).toInt64), .second, .val (.long (p3 &&& (1048575 : Int32)).toInt64), .second, .val (.double (FP.i2d (p0 &&& (1048575 : Int32)))), .second, .val (.int (1 : Int32)), .val (.double (9218868437227405312 : UInt64)), .second, .val (.ref b1), .val (.double (FP.dadd (FP.dmul (FP.l2d (p1 &&& (1048575 : Int32)).toInt64) (FP.l2d (p3 &&& (1048575 : Int32)).toInt64)) (9218868437227405312 : UInt64))), .second, .unset, .unset] [(.int (1 : Int32))])) _
    refine XS.goto X3.here hx rfl (pc0 := 112) (pc' := 116) rfl (hb hby at_112) (by decide) (by decide) ?_
    show Steps p.tables e below (T3.setTop (mkF m 116 #[.val (.int p0), .val (.int p1), .val (.int p2), .val (.int p3), .val (.int p4), .val (.long (p1 &&& (1048575 : Int32)).toInt64), .second, .val (.long (p2 &&& (1048575 : Int32)).toInt64), .second, .val (.long (p3 &&& (1048575 : Int32)).toInt64), .second, .val (.double (FP.i2d (p0 &&& (1048575 : Int32)))), .second, .val (.int (1 : Int32)), .val (.double (9218868437227405312 : UInt64)), .second, .val (.ref b1), .val (.double (FP.dadd (FP.dmul (FP.l2d (p1 &&& (1048575 : Int32)).toInt64) (FP.l2d (p3 &&& (1048575 : Int32)).toInt64)) (9218868437227405312 : UInt64))), .second, .unset, .unset] [(.int (1 : Int32))])) _
    exact retN X3 hx (t := .boolean) Bd.returns (by simp) (hb hby at_116) hr
  · show QL n0 _ T3.heap _
    exact ⟨rfl, N3⟩
theorem ef_rm0ft (m : MethodId) (x0 : Int32) (x1 : Int32) (x2 : Int32) (x3 : Int32) (x4 : Int32) : entryFrame m #[(.int x0), (.int x1), (.int x2), (.int x3), (.int x4)] maxLocals = mkF m 0 #[.val (.int x0), .val (.int x1), .val (.int x2), .val (.int x3), .val (.int x4), .unset, .unset, .unset, .unset, .unset, .unset, .unset, .unset, .unset, .unset, .unset, .unset, .unset, .unset, .unset, .unset] [] := by first | (simp [entryFrame, mkF, argsToLocals, Value.category, maxLocals]; done) | rfl
set_option maxRecDepth 65536 in
set_option maxHeartbeats 40000000 in
theorem rm0ft (l : Launch) (Z : State) (a0 : Array Value) (hw : ∀ d ∈ tables_1, d.before a0 Z = true) (ws : List Jvm.Cond)  (p0 : Int32) (p1 : Int32) (p2 : Int32) (p3 : Int32) (p4 : Int32) (h0 : Heap) (n0 : Nat) (Z0 : n0 ≤ h0.size) 
    (b25 : ifCond.holds .eq (p4 &&& (1 : Int32)) = false)
    (b45 : ifCond.holds .eq (p4 &&& (2 : Int32)) = true)
    (c1 : NoNaN64 (FP.dmul (FP.l2d (p1 &&& (1048575 : Int32)).toInt64) (FP.l2d (p3 &&& (1048575 : Int32)).toInt64)))
    (c2 : NoNaN64 (FP.dadd (FP.dmul (FP.l2d (p1 &&& (1048575 : Int32)).toInt64) (FP.l2d (p3 &&& (1048575 : Int32)).toInt64)) (FP.l2d (p2 &&& (1048575 : Int32)).toInt64)))
    (b133 : ifCond.holds .ne (FP.cmpInt (-1) (FP.dcmp (FP.dadd (FP.dmul (FP.l2d (p1 &&& (1048575 : Int32)).toInt64) (FP.l2d (p3 &&& (1048575 : Int32)).toInt64)) (FP.l2d (p2 &&& (1048575 : Int32)).toInt64)) (FP.l2d (((p1 &&& (1048575 : Int32)).toInt64 * (p3 &&& (1048575 : Int32)).toInt64) + (p2 &&& (1048575 : Int32)).toInt64)))) = false) :
    MetFree l x (head1 (Jvm.Cond.code x code maxLocals ret :: ws) room_1) (fun a U => a = #[(.int p0), (.int p1), (.int p2), (.int p3), (.int p4)] ∧ Z.Warmed39 U.vm ∧ U.heap = h0) (fun _ _ _ _ _ => True) (fun _ U o U' => ∃ v L, o = .returned v ∧ QL n0 v U'.heap L ∧ FrameEnd U o U' L 16 128) := by
  refine MetFree.of_bodySF (plainFor_of_name pn_2) hisR ?_
  intro p e s m args below meth c s₁ Bd hml0 hP hK
  obtain ⟨rfl, hZ, hh⟩ := hP
  have hx := Bd.exec
  have hby := Bd.bytes
  have hml : c.maxLocals = 21 := hml0
  have hown : s.vm.findClass "com/example/roving_fleet/rovingfleet/ServiceLimitsLongestRidePinLaw" = some m.cls := findClass_of_methodNamed Bd.named
  have hnm := (name_of_methodNamed Bd.named Bd.method).1
  have X0 : Stand p l e room_1 s m #[(.int p0), (.int p1), (.int p2), (.int p3), (.int p4)] below meth c s₁ [] 0 0 := Stand.of_body Bd
  have e0 : s₁.heap = h0 := by rw [← hh, Bd.state]; rfl
  have N0 := Fr.nil n0
  have pre0 : ∀ t, Steps p.tables e below (s₁.setTop (mkF m 0 #[.val (.int p0), .val (.int p1), .val (.int p2), .val (.int p3), .val (.int p4), .unset, .unset, .unset, .unset, .unset, .unset, .unset, .unset, .unset, .unset, .unset, .unset, .unset, .unset, .unset, .unset] [])) t → Steps p.tables e below (s₁.setTop (entryFrame m #[(.int p0), (.int p1), (.int p2), (.int p3), (.int p4)] maxLocals)) t := fun t k => castTop (ef_rm0ft m p0 p1 p2 p3 p4) k
  obtain ⟨T1, h1, X1, e1, E1, A1, D1, -, st1⟩ := newO X0 hx hZ hown (hw _ (List.mem_of_getElem? (i := 1) rfl)) (hw _ (List.mem_of_getElem? (i := 2) rfl)) (hw _ (List.mem_of_getElem? (i := 3) rfl)) e0 (g := (mkF m 71 #[.val (.int p0), .val (.int p1), .val (.int p2), .val (.int p3), .val (.int p4), .val (.long (p1 &&& (1048575 : Int32)).toInt64), .second, .val (.long (p2 &&& (1048575 : Int32)).toInt64), .second, .val (.long (p3 &&& (1048575 : Int32)).toInt64), .second, .val (.double (9218868437227405312 : UInt64)), .second, .val (.int (0 : Int32)), .val (.double (FP.l2d (p2 &&& (1048575 : Int32)).toInt64)), .second, .unset, .unset, .unset, .unset, .unset] [])) rfl (hb hby at_71) (by decide) (by decide)
  obtain ⟨b1, g1⟩ : ∃ z, z = h0.size := ⟨_, rfl⟩
  have g_b1 : n0 ≤ b1 := Nat.le_trans Z0 (Nat.le_of_eq g1.symm)
  rw [← g1] at A1 D1 st1
  have F1_maxWait : Fld Z h1 b1 "com/example/roving_fleet/rovingfleet/ServiceLimits" "maxWait" "D" (.double (0 : UInt64)) := D1 (Or.inr (hw _ (List.mem_of_getElem? (i := 16) rfl))) (ty := .double) (by decide)
  have F1_detourFactor : Fld Z h1 b1 "com/example/roving_fleet/rovingfleet/ServiceLimits" "detourFactor" "D" (.double (0 : UInt64)) := D1 (Or.inr (hw _ (List.mem_of_getElem? (i := 18) rfl))) (ty := .double) (by decide)
  have F1_detourAllowance : Fld Z h1 b1 "com/example/roving_fleet/rovingfleet/ServiceLimits" "detourAllowance" "D" (.double (0 : UInt64)) := D1 (Or.inr (hw _ (List.mem_of_getElem? (i := 20) rfl))) (ty := .double) (by decide)
  obtain ⟨_, _, ⟨T2, L2, k2, n2⟩, -, X2, ⟨Lc2, hQ2, l2, y2, z2⟩, st2⟩ := X1.specialBack hx (y := (⟨"com/example/roving_fleet/rovingfleet/ServiceLimits", "<init>", "(DDD)V"⟩ : MethodName)) rfl hown (mvT hZ (hw _ (List.mem_of_getElem? (i := 4) rfl))) (mvT hZ (hw _ (List.mem_of_getElem? (i := 5) rfl))) (mvT hZ (hw _ (List.mem_of_getElem? (i := 6) rfl))) (by decide) (backOf (W := 1) (rmI l Z a0 hw [] _ _ _ b1 (9218868437227405312 : UInt64) (FP.l2d (p1 &&& (1048575 : Int32)).toInt64) (FP.l2d (p2 &&& (1048575 : Int32)).toInt64) h1 n0 (Nat.le_trans Z0 E1.1) A1 g_b1 F1_maxWait F1_detourFactor F1_detourAllowance) hZ (hw _ (List.mem_of_getElem? (i := 6) rfl)) (hw _ (List.mem_of_getElem? (i := 3) rfl)) (by decide) (by decide)) (g := (mkF m 82 #[.val (.int p0), .val (.int p1), .val (.int p2), .val (.int p3), .val (.int p4), .val (.long (p1 &&& (1048575 : Int32)).toInt64), .second, .val (.long (p2 &&& (1048575 : Int32)).toInt64), .second, .val (.long (p3 &&& (1048575 : Int32)).toInt64), .second, .val (.double (9218868437227405312 : UInt64)), .second, .val (.int (0 : Int32)), .val (.double (FP.l2d (p2 &&& (1048575 : Int32)).toInt64)), .second, .unset, .unset, .unset, .unset, .unset] [(.double (FP.l2d (p2 &&& (1048575 : Int32)).toInt64)), (.double (FP.l2d (p1 &&& (1048575 : Int32)).toInt64)), (.double (9218868437227405312 : UInt64)), (.ref b1), (.ref b1)])) rfl (by rw [hml]; rfl) (Steps.refl _) (a := b1) (argsL := [(.double (9218868437227405312 : UInt64)), (.double (FP.l2d (p1 &&& (1048575 : Int32)).toInt64)), (.double (FP.l2d (p2 &&& (1048575 : Int32)).toInt64))]) (rest := [(.ref b1)]) (lenOf pd_1 rfl) rfl (by show 2 * 0 + _ ≤ _; exact Nat.le_of_eq rfl) (hb hby at_82) (fun _ _ => ⟨rfl, e1, (by decide : 1 + 0 ≤ _), (by decide : 3 + 0 ≤ _)⟩)
  dsimp only [Pt.U, Pt.locs, Pt.cells, Pt.slots] at X2 l2 y2 z2 st2 hQ2
  subst l2 y2 z2
  obtain ⟨rfl, N2a, K2a, E2a, F2a, F2b⟩ := hQ2
  have N2 := Fr.app N0 N2a
  obtain ⟨cq3, kq3, q3a, q3b, q3c⟩ := isOf hZ rfl E2a
  obtain ⟨_, _, ⟨T3, L3, k3, n3⟩, -, X3, ⟨Lc3, hQ3, l3, y3, z3⟩, st3⟩ := X2.virtualBack hx (y := (⟨"com/example/roving_fleet/rovingfleet/ServiceLimits", "longestRide", "(D)D"⟩ : MethodName)) (z := (⟨"com/example/roving_fleet/rovingfleet/ServiceLimits", "longestRide", "(D)D"⟩ : MethodName)) hown (mvT hZ (hw _ (List.mem_of_getElem? (i := 21) rfl))) (mvT hZ (hw _ (List.mem_of_getElem? (i := 22) rfl))) (notFace_of_selects (args := #[]) (mvT hZ (hw _ (List.mem_of_getElem? (i := 24) rfl)))) (mvT hZ (hw _ (List.mem_of_getElem? (i := 24) rfl))) (mvT hZ (hw _ (List.mem_of_getElem? (i := 23) rfl))) (by decide) (backOf (W := 0) (rmL l Z a0 hw [] (FP.l2d (p1 &&& (1048575 : Int32)).toInt64) (FP.l2d (p2 &&& (1048575 : Int32)).toInt64) b1 (FP.l2d (p3 &&& (1048575 : Int32)).toInt64) T2.heap n0 (Nat.le_trans (Nat.le_trans Z0 E1.1) K2a.1) F2a F2b c1 c2) hZ (hw _ (List.mem_of_getElem? (i := 25) rfl)) (hw _ (List.mem_of_getElem? (i := 3) rfl)) (by decide) (by decide)) q3a q3c (g := (mkF m 92 #[.val (.int p0), .val (.int p1), .val (.int p2), .val (.int p3), .val (.int p4), .val (.long (p1 &&& (1048575 : Int32)).toInt64), .second, .val (.long (p2 &&& (1048575 : Int32)).toInt64), .second, .val (.long (p3 &&& (1048575 : Int32)).toInt64), .second, .val (.double (9218868437227405312 : UInt64)), .second, .val (.int (0 : Int32)), .val (.double (FP.l2d (p2 &&& (1048575 : Int32)).toInt64)), .second, .val (.ref b1), .unset, .unset, .unset, .unset] [(.double (FP.l2d (p3 &&& (1048575 : Int32)).toInt64)), (.ref b1)])) rfl (by rw [hml]; rfl) (Steps.refl _) (argsL := [(.double (FP.l2d (p3 &&& (1048575 : Int32)).toInt64))]) (rest := []) (lenOf pd_2 rfl) rfl (by show 2 * 0 + _ ≤ _; exact Nat.le_of_eq rfl) (hb hby at_92) (fun _ _ => ⟨rfl, rfl, (by decide : 1 + 0 ≤ _), (by decide : 3 + 0 ≤ _)⟩)
  dsimp only [Pt.U, Pt.locs, Pt.cells, Pt.slots] at X3 l3 y3 z3 st3 hQ3
  subst l3 y3 z3
  obtain ⟨rfl, N3a, e3⟩ := hQ3
  have N3 := Fr.app N2 N3a
  obtain ⟨fs, hr, hrun, hended, hW, hsame⟩ := X3.leave (v := some (.int (1 : Int32))) (fun h => by rw [Bd.returns] at h; cases h)
  refine ⟨_, _, pre0 _ ?_, hrun, hended, _, _, rfl, ?_, ⟨_, rfl⟩, hW, hsame.mono (Nat.le_of_ble_eq_true rfl) (Nat.le_of_ble_eq_true rfl)⟩
  · show Steps p.tables e below (s₁.setTop (mkF m 0 #[.val (.int p0), .val (.int p1), .val (.int p2), .val (.int p3), .val (.int p4), .unset, .unset, .unset, .unset, .unset, .unset, .unset, .unset, .unset, .unset, .unset, .unset, .unset, .unset, .unset, .unset] [])) _
    refine XS.iloadN X0.here hx rfl (hb hby at_0) rfl ?_
    show Steps p.tables e below (s₁.setTop (mkF m 1 #[.val (.int p0), .val (.int p1), .val (.int p2), .val (.int p3), .val (.int p4), .unset, .unset, .unset, .unset, .unset, .unset, .unset, .unset, .unset, .unset, .unset, .unset, .unset, .unset, .unset, .unset] [(.int p1)])) _
    refine X0.ldcInt hx hown (mvT hZ (hw _ (List.mem_of_getElem? (i := 0) rfl))) (g := (mkF m 1 #[.val (.int p0), .val (.int p1), .val (.int p2), .val (.int p3), .val (.int p4), .unset, .unset, .unset, .unset, .unset, .unset, .unset, .unset, .unset, .unset, .unset, .unset, .unset, .unset, .unset, .unset] [(.int p1)])) rfl (hb hby at_1) _ ?_
    show Steps p.tables e below (s₁.setTop (mkF m 3 #[.val (.int p0), .val (.int p1), .val (.int p2), .val (.int p3), .val (.int p4), .unset, .unset, .unset, .unset, .unset, .unset, .unset, .unset, .unset, .unset, .unset, .unset, .unset, .unset, .unset, .unset] [(.int (1048575 : Int32)), (.int p1)])) _
    refine XS.iand X0.here hx rfl (hb hby at_3) rfl ?_
    show Steps p.tables e below (s₁.setTop (mkF m 4 #[.val (.int p0), .val (.int p1), .val (.int p2), .val (.int p3), .val (.int p4), .unset, .unset, .unset, .unset, .unset, .unset, .unset, .unset, .unset, .unset, .unset, .unset, .unset, .unset, .unset, .unset] [(.int (p1 &&& (1048575 : Int32)))])) _
    refine XS.i2l X0.here hx rfl (hb hby at_4) rfl ?_
    show Steps p.tables e below (s₁.setTop (mkF m 5 #[.val (.int p0), .val (.int p1), .val (.int p2), .val (.int p3), .val (.int p4), .unset, .unset, .unset, .unset, .unset, .unset, .unset, .unset, .unset, .unset, .unset, .unset, .unset, .unset, .unset, .unset] [(.long (p1 &&& (1048575 : Int32)).toInt64)])) _
    refine XS.lstore X0.here hx rfl (hb hby at_5) rfl (l' := #[.val (.int p0), .val (.int p1), .val (.int p2), .val (.int p3), .val (.int p4), .val (.long (p1 &&& (1048575 : Int32)).toInt64), .second, .unset, .unset, .unset, .unset, .unset, .unset, .unset, .unset, .unset, .unset, .unset, .unset, .unset, .unset]) rfl ?_
    show Steps p.tables e below (s₁.setTop (mkF m 7 #[.val (.int p0), .val (.int p1), .val (.int p2), .val (.int p3), .val (.int p4), .val (.long (p1 &&& (1048575 : Int32)).toInt64), .second, .unset, .unset, .unset, .unset, .unset, .unset, .unset, .unset, .unset, .unset, .unset, .unset, .unset, .unset] [])) _
    refine XS.iloadN X0.here hx rfl (hb hby at_7) rfl ?_
    show Steps p.tables e below (s₁.setTop (mkF m 8 #[.val (.int p0), .val (.int p1), .val (.int p2), .val (.int p3), .val (.int p4), .val (.long (p1 &&& (1048575 : Int32)).toInt64), .second, .unset, .unset, .unset, .unset, .unset, .unset, .unset, .unset, .unset, .unset, .unset, .unset, .unset, .unset] [(.int p2)])) _
    refine X0.ldcInt hx hown (mvT hZ (hw _ (List.mem_of_getElem? (i := 0) rfl))) (g := (mkF m 8 #[.val (.int p0), .val (.int p1), .val (.int p2), .val (.int p3), .val (.int p4), .val (.long (p1 &&& (1048575 : Int32)).toInt64), .second, .unset, .unset, .unset, .unset, .unset, .unset, .unset, .unset, .unset, .unset, .unset, .unset, .unset, .unset] [(.int p2)])) rfl (hb hby at_8) _ ?_
    show Steps p.tables e below (s₁.setTop (mkF m 10 #[.val (.int p0), .val (.int p1), .val (.int p2), .val (.int p3), .val (.int p4), .val (.long (p1 &&& (1048575 : Int32)).toInt64), .second, .unset, .unset, .unset, .unset, .unset, .unset, .unset, .unset, .unset, .unset, .unset, .unset, .unset, .unset] [(.int (1048575 : Int32)), (.int p2)])) _
    refine XS.iand X0.here hx rfl (hb hby at_10) rfl ?_
    show Steps p.tables e below (s₁.setTop (mkF m 11 #[.val (.int p0), .val (.int p1), .val (.int p2), .val (.int p3), .val (.int p4), .val (.long (p1 &&& (1048575 : Int32)).toInt64), .second, .unset, .unset, .unset, .unset, .unset, .unset, .unset, .unset, .unset, .unset, .unset, .unset, .unset, .unset] [(.int (p2 &&& (1048575 : Int32)))])) _
    refine XS.i2l X0.here hx rfl (hb hby at_11) rfl ?_
    show Steps p.tables e below (s₁.setTop (mkF m 12 #[.val (.int p0), .val (.int p1), .val (.int p2), .val (.int p3), .val (.int p4), .val (.long (p1 &&& (1048575 : Int32)).toInt64), .second, .unset, .unset, .unset, .unset, .unset, .unset, .unset, .unset, .unset, .unset, .unset, .unset, .unset, .unset] [(.long (p2 &&& (1048575 : Int32)).toInt64)])) _
    refine XS.lstore X0.here hx rfl (hb hby at_12) rfl (l' := #[.val (.int p0), .val (.int p1), .val (.int p2), .val (.int p3), .val (.int p4), .val (.long (p1 &&& (1048575 : Int32)).toInt64), .second, .val (.long (p2 &&& (1048575 : Int32)).toInt64), .second, .unset, .unset, .unset, .unset, .unset, .unset, .unset, .unset, .unset, .unset, .unset, .unset]) rfl ?_
    show Steps p.tables e below (s₁.setTop (mkF m 14 #[.val (.int p0), .val (.int p1), .val (.int p2), .val (.int p3), .val (.int p4), .val (.long (p1 &&& (1048575 : Int32)).toInt64), .second, .val (.long (p2 &&& (1048575 : Int32)).toInt64), .second, .unset, .unset, .unset, .unset, .unset, .unset, .unset, .unset, .unset, .unset, .unset, .unset] [])) _
    refine XS.iloadN X0.here hx rfl (hb hby at_14) rfl ?_
    show Steps p.tables e below (s₁.setTop (mkF m 15 #[.val (.int p0), .val (.int p1), .val (.int p2), .val (.int p3), .val (.int p4), .val (.long (p1 &&& (1048575 : Int32)).toInt64), .second, .val (.long (p2 &&& (1048575 : Int32)).toInt64), .second, .unset, .unset, .unset, .unset, .unset, .unset, .unset, .unset, .unset, .unset, .unset, .unset] [(.int p3)])) _
    refine X0.ldcInt hx hown (mvT hZ (hw _ (List.mem_of_getElem? (i := 0) rfl))) (g := (mkF m 15 #[.val (.int p0), .val (.int p1), .val (.int p2), .val (.int p3), .val (.int p4), .val (.long (p1 &&& (1048575 : Int32)).toInt64), .second, .val (.long (p2 &&& (1048575 : Int32)).toInt64), .second, .unset, .unset, .unset, .unset, .unset, .unset, .unset, .unset, .unset, .unset, .unset, .unset] [(.int p3)])) rfl (hb hby at_15) _ ?_
    show Steps p.tables e below (s₁.setTop (mkF m 17 #[.val (.int p0), .val (.int p1), .val (.int p2), .val (.int p3), .val (.int p4), .val (.long (p1 &&& (1048575 : Int32)).toInt64), .second, .val (.long (p2 &&& (1048575 : Int32)).toInt64), .second, .unset, .unset, .unset, .unset, .unset, .unset, .unset, .unset, .unset, .unset, .unset, .unset] [(.int (1048575 : Int32)), (.int p3)])) _
    refine XS.iand X0.here hx rfl (hb hby at_17) rfl ?_
    show Steps p.tables e below (s₁.setTop (mkF m 18 #[.val (.int p0), .val (.int p1), .val (.int p2), .val (.int p3), .val (.int p4), .val (.long (p1 &&& (1048575 : Int32)).toInt64), .second, .val (.long (p2 &&& (1048575 : Int32)).toInt64), .second, .unset, .unset, .unset, .unset, .unset, .unset, .unset, .unset, .unset, .unset, .unset, .unset] [(.int (p3 &&& (1048575 : Int32)))])) _
    refine XS.i2l X0.here hx rfl (hb hby at_18) rfl ?_
    show Steps p.tables e below (s₁.setTop (mkF m 19 #[.val (.int p0), .val (.int p1), .val (.int p2), .val (.int p3), .val (.int p4), .val (.long (p1 &&& (1048575 : Int32)).toInt64), .second, .val (.long (p2 &&& (1048575 : Int32)).toInt64), .second, .unset, .unset, .unset, .unset, .unset, .unset, .unset, .unset, .unset, .unset, .unset, .unset] [(.long (p3 &&& (1048575 : Int32)).toInt64)])) _
    refine XS.lstore X0.here hx rfl (hb hby at_19) rfl (l' := #[.val (.int p0), .val (.int p1), .val (.int p2), .val (.int p3), .val (.int p4), .val (.long (p1 &&& (1048575 : Int32)).toInt64), .second, .val (.long (p2 &&& (1048575 : Int32)).toInt64), .second, .val (.long (p3 &&& (1048575 : Int32)).toInt64), .second, .unset, .unset, .unset, .unset, .unset, .unset, .unset, .unset, .unset, .unset]) rfl ?_
    show Steps p.tables e below (s₁.setTop (mkF m 21 #[.val (.int p0), .val (.int p1), .val (.int p2), .val (.int p3), .val (.int p4), .val (.long (p1 &&& (1048575 : Int32)).toInt64), .second, .val (.long (p2 &&& (1048575 : Int32)).toInt64), .second, .val (.long (p3 &&& (1048575 : Int32)).toInt64), .second, .unset, .unset, .unset, .unset, .unset, .unset, .unset, .unset, .unset, .unset] [])) _
    refine XS.iload X0.here hx rfl (hb hby at_21) rfl ?_
    show Steps p.tables e below (s₁.setTop (mkF m 23 #[.val (.int p0), .val (.int p1), .val (.int p2), .val (.int p3), .val (.int p4), .val (.long (p1 &&& (1048575 : Int32)).toInt64), .second, .val (.long (p2 &&& (1048575 : Int32)).toInt64), .second, .val (.long (p3 &&& (1048575 : Int32)).toInt64), .second, .unset, .unset, .unset, .unset, .unset, .unset, .unset, .unset, .unset, .unset] [(.int p4)])) _
    refine XS.iconst X0.here hx rfl (hb hby at_23) ?_
    show Steps p.tables e below (s₁.setTop (mkF m 24 #[.val (.int p0), .val (.int p1), .val (.int p2), .val (.int p3), .val (.int p4), .val (.long (p1 &&& (1048575 : Int32)).toInt64), .second, .val (.long (p2 &&& (1048575 : Int32)).toInt64), .second, .val (.long (p3 &&& (1048575 : Int32)).toInt64), .second, .unset, .unset, .unset, .unset, .unset, .unset, .unset, .unset, .unset, .unset] [(.int (1 : Int32)), (.int p4)])) _
    refine XS.iand X0.here hx rfl (hb hby at_24) rfl ?_
    show Steps p.tables e below (s₁.setTop (mkF m 25 #[.val (.int p0), .val (.int p1), .val (.int p2), .val (.int p3), .val (.int p4), .val (.long (p1 &&& (1048575 : Int32)).toInt64), .second, .val (.long (p2 &&& (1048575 : Int32)).toInt64), .second, .val (.long (p3 &&& (1048575 : Int32)).toInt64), .second, .unset, .unset, .unset, .unset, .unset, .unset, .unset, .unset, .unset, .unset] [(.int (p4 &&& (1 : Int32)))])) _
    refine XS.ifNo X0.here hx rfl (hb hby at_25) rfl b25 ?_
    show Steps p.tables e below (s₁.setTop (mkF m 28 #[.val (.int p0), .val (.int p1), .val (.int p2), .val (.int p3), .val (.int p4), .val (.long (p1 &&& (1048575 : Int32)).toInt64), .second, .val (.long (p2 &&& (1048575 : Int32)).toInt64), .second, .val (.long (p3 &&& (1048575 : Int32)).toInt64), .second, .unset, .unset, .unset, .unset, .unset, .unset, .unset, .unset, .unset, .unset] [])) _
    refine X0.ldc2DoubleC hx hown (mvT hZ (hw _ (List.mem_of_getElem? (i := 26) rfl))) (g := (mkF m 28 #[.val (.int p0), .val (.int p1), .val (.int p2), .val (.int p3), .val (.int p4), .val (.long (p1 &&& (1048575 : Int32)).toInt64), .second, .val (.long (p2 &&& (1048575 : Int32)).toInt64), .second, .val (.long (p3 &&& (1048575 : Int32)).toInt64), .second, .unset, .unset, .unset, .unset, .unset, .unset, .unset, .unset, .unset, .unset] [])) rfl (hb hby at_28) _ ?_
    show Steps p.tables e below (s₁.setTop (mkF m 31 #[.val (.int p0), .val (.int p1), .val (.int p2), .val (.int p3), .val (.int p4), .val (.long (p1 &&& (1048575 : Int32)).toInt64), .second, .val (.long (p2 &&& (1048575 : Int32)).toInt64), .second, .val (.long (p3 &&& (1048575 : Int32)).toInt64), .second, .unset, .unset, .unset, .unset, .unset, .unset, .unset, .unset, .unset, .unset] [(.double (9218868437227405312 : UInt64))])) _
    refine XS.goto X0.here hx rfl (pc0 := 31) (pc' := 39) rfl (hb hby at_31) (by decide) (by decide) ?_
    show Steps p.tables e below (s₁.setTop (mkF m 39 #[.val (.int p0), .val (.int p1), .val (.int p2), .val (.int p3), .val (.int p4), .val (.long (p1 &&& (1048575 : Int32)).toInt64), .second, .val (.long (p2 &&& (1048575 : Int32)).toInt64), .second, .val (.long (p3 &&& (1048575 : Int32)).toInt64), .second, .unset, .unset, .unset, .unset, .unset, .unset, .unset, .unset, .unset, .unset] [(.double (9218868437227405312 : UInt64))])) _
    refine XS.dstore X0.here hx rfl (hb hby at_39) rfl (l' := #[.val (.int p0), .val (.int p1), .val (.int p2), .val (.int p3), .val (.int p4), .val (.long (p1 &&& (1048575 : Int32)).toInt64), .second, .val (.long (p2 &&& (1048575 : Int32)).toInt64), .second, .val (.long (p3 &&& (1048575 : Int32)).toInt64), .second, .val (.double (9218868437227405312 : UInt64)), .second, .unset, .unset, .unset, .unset, .unset, .unset, .unset, .unset]) rfl ?_
    show Steps p.tables e below (s₁.setTop (mkF m 41 #[.val (.int p0), .val (.int p1), .val (.int p2), .val (.int p3), .val (.int p4), .val (.long (p1 &&& (1048575 : Int32)).toInt64), .second, .val (.long (p2 &&& (1048575 : Int32)).toInt64), .second, .val (.long (p3 &&& (1048575 : Int32)).toInt64), .second, .val (.double (9218868437227405312 : UInt64)), .second, .unset, .unset, .unset, .unset, .unset, .unset, .unset, .unset] [])) _
    refine XS.iload X0.here hx rfl (hb hby at_41) rfl ?_
    show Steps p.tables e below (s₁.setTop (mkF m 43 #[.val (.int p0), .val (.int p1), .val (.int p2), .val (.int p3), .val (.int p4), .val (.long (p1 &&& (1048575 : Int32)).toInt64), .second, .val (.long (p2 &&& (1048575 : Int32)).toInt64), .second, .val (.long (p3 &&& (1048575 : Int32)).toInt64), .second, .val (.double (9218868437227405312 : UInt64)), .second, .unset, .unset, .unset, .unset, .unset, .unset, .unset, .unset] [(.int p4)])) _
    refine XS.iconst X0.here hx rfl (hb hby at_43) ?_
    show Steps p.tables e below (s₁.setTop (mkF m 44 #[.val (.int p0), .val (.int p1), .val (.int p2), .val (.int p3), .val (.int p4), .val (.long (p1 &&& (1048575 : Int32)).toInt64), .second, .val (.long (p2 &&& (1048575 : Int32)).toInt64), .second, .val (.long (p3 &&& (1048575 : Int32)).toInt64), .second, .val (.double (9218868437227405312 : UInt64)), .second, .unset, .unset, .unset, .unset, .unset, .unset, .unset, .unset] [(.int (2 : Int32)), (.int p4)])) _
    refine XS.iand X0.here hx rfl (hb hby at_44) rfl ?_
    show Steps p.tables e below (s₁.setTop (mkF m 45 #[.val (.int p0), .val (.int p1), .val (.int p2), .val (.int p3), .val (.int p4), .val (.long (p1 &&& (1048575 : Int32)).toInt64), .second, .val (.long (p2 &&& (1048575 : Int32)).toInt64), .second, .val (.long (p3 &&& (1048575 : Int32)).toInt64), .second, .val (.double (9218868437227405312 : UInt64)), .second, .unset, .unset, .unset, .unset, .unset, .unset, .unset, .unset] [(.int (p4 &&& (2 : Int32)))])) _
    refine XS.ifYes X0.here hx rfl (pc0 := 45) (pc' := 52) rfl (hb hby at_45) rfl b45 (by decide) (by decide) ?_
    show Steps p.tables e below (s₁.setTop (mkF m 52 #[.val (.int p0), .val (.int p1), .val (.int p2), .val (.int p3), .val (.int p4), .val (.long (p1 &&& (1048575 : Int32)).toInt64), .second, .val (.long (p2 &&& (1048575 : Int32)).toInt64), .second, .val (.long (p3 &&& (1048575 : Int32)).toInt64), .second, .val (.double (9218868437227405312 : UInt64)), .second, .unset, .unset, .unset, .unset, .unset, .unset, .unset, .unset] [])) _
    refine XS.iconst X0.here hx rfl (hb hby at_52) ?_
    show Steps p.tables e below (s₁.setTop (mkF m 53 #[.val (.int p0), .val (.int p1), .val (.int p2), .val (.int p3), .val (.int p4), .val (.long (p1 &&& (1048575 : Int32)).toInt64), .second, .val (.long (p2 &&& (1048575 : Int32)).toInt64), .second, .val (.long (p3 &&& (1048575 : Int32)).toInt64), .second, .val (.double (9218868437227405312 : UInt64)), .second, .unset, .unset, .unset, .unset, .unset, .unset, .unset, .unset] [(.int (0 : Int32))])) _
    refine XS.istore X0.here hx rfl (hb hby at_53) rfl (l' := #[.val (.int p0), .val (.int p1), .val (.int p2), .val (.int p3), .val (.int p4), .val (.long (p1 &&& (1048575 : Int32)).toInt64), .second, .val (.long (p2 &&& (1048575 : Int32)).toInt64), .second, .val (.long (p3 &&& (1048575 : Int32)).toInt64), .second, .val (.double (9218868437227405312 : UInt64)), .second, .val (.int (0 : Int32)), .unset, .unset, .unset, .unset, .unset, .unset, .unset]) rfl ?_
    show Steps p.tables e below (s₁.setTop (mkF m 55 #[.val (.int p0), .val (.int p1), .val (.int p2), .val (.int p3), .val (.int p4), .val (.long (p1 &&& (1048575 : Int32)).toInt64), .second, .val (.long (p2 &&& (1048575 : Int32)).toInt64), .second, .val (.long (p3 &&& (1048575 : Int32)).toInt64), .second, .val (.double (9218868437227405312 : UInt64)), .second, .val (.int (0 : Int32)), .unset, .unset, .unset, .unset, .unset, .unset, .unset] [])) _
    refine XS.iload X0.here hx rfl (hb hby at_55) rfl ?_
    show Steps p.tables e below (s₁.setTop (mkF m 57 #[.val (.int p0), .val (.int p1), .val (.int p2), .val (.int p3), .val (.int p4), .val (.long (p1 &&& (1048575 : Int32)).toInt64), .second, .val (.long (p2 &&& (1048575 : Int32)).toInt64), .second, .val (.long (p3 &&& (1048575 : Int32)).toInt64), .second, .val (.double (9218868437227405312 : UInt64)), .second, .val (.int (0 : Int32)), .unset, .unset, .unset, .unset, .unset, .unset, .unset] [(.int (0 : Int32))])) _
    refine XS.ifYes X0.here hx rfl (pc0 := 57) (pc' := 66) rfl (hb hby at_57) rfl (by decide) (by decide) (by decide) ?_
    show Steps p.tables e below (s₁.setTop (mkF m 66 #[.val (.int p0), .val (.int p1), .val (.int p2), .val (.int p3), .val (.int p4), .val (.long (p1 &&& (1048575 : Int32)).toInt64), .second, .val (.long (p2 &&& (1048575 : Int32)).toInt64), .second, .val (.long (p3 &&& (1048575 : Int32)).toInt64), .second, .val (.double (9218868437227405312 : UInt64)), .second, .val (.int (0 : Int32)), .unset, .unset, .unset, .unset, .unset, .unset, .unset] [])) _
    refine XS.lload X0.here hx rfl (hb hby at_66) rfl ?_
    show Steps p.tables e below (s₁.setTop (mkF m 68 #[.val (.int p0), .val (.int p1), .val (.int p2), .val (.int p3), .val (.int p4), .val (.long (p1 &&& (1048575 : Int32)).toInt64), .second, .val (.long (p2 &&& (1048575 : Int32)).toInt64), .second, .val (.long (p3 &&& (1048575 : Int32)).toInt64), .second, .val (.double (9218868437227405312 : UInt64)), .second, .val (.int (0 : Int32)), .unset, .unset, .unset, .unset, .unset, .unset, .unset] [(.long (p2 &&& (1048575 : Int32)).toInt64)])) _
    refine XS.l2dS X0.here hx rfl (hb hby at_68) rfl rfl ?_
    show Steps p.tables e below (s₁.setTop (mkF m 69 #[.val (.int p0), .val (.int p1), .val (.int p2), .val (.int p3), .val (.int p4), .val (.long (p1 &&& (1048575 : Int32)).toInt64), .second, .val (.long (p2 &&& (1048575 : Int32)).toInt64), .second, .val (.long (p3 &&& (1048575 : Int32)).toInt64), .second, .val (.double (9218868437227405312 : UInt64)), .second, .val (.int (0 : Int32)), .unset, .unset, .unset, .unset, .unset, .unset, .unset] [(.double (FP.l2d (p2 &&& (1048575 : Int32)).toInt64))])) _
    refine XS.dstore X0.here hx rfl (hb hby at_69) rfl (l' := #[.val (.int p0), .val (.int p1), .val (.int p2), .val (.int p3), .val (.int p4), .val (.long (p1 &&& (1048575 : Int32)).toInt64), .second, .val (.long (p2 &&& (1048575 : Int32)).toInt64), .second, .val (.long (p3 &&& (1048575 : Int32)).toInt64), .second, .val (.double (9218868437227405312 : UInt64)), .second, .val (.int (0 : Int32)), .val (.double (FP.l2d (p2 &&& (1048575 : Int32)).toInt64)), .second, .unset, .unset, .unset, .unset, .unset]) rfl ?_
    show Steps p.tables e below (s₁.setTop (mkF m 71 #[.val (.int p0), .val (.int p1), .val (.int p2), .val (.int p3), .val (.int p4), .val (.long (p1 &&& (1048575 : Int32)).toInt64), .second, .val (.long (p2 &&& (1048575 : Int32)).toInt64), .second, .val (.long (p3 &&& (1048575 : Int32)).toInt64), .second, .val (.double (9218868437227405312 : UInt64)), .second, .val (.int (0 : Int32)), .val (.double (FP.l2d (p2 &&& (1048575 : Int32)).toInt64)), .second, .unset, .unset, .unset, .unset, .unset] [])) _
    refine st1 _ ?_
    show Steps p.tables e below (T1.setTop (mkF m 74 #[.val (.int p0), .val (.int p1), .val (.int p2), .val (.int p3), .val (.int p4), .val (.long (p1 &&& (1048575 : Int32)).toInt64), .second, .val (.long (p2 &&& (1048575 : Int32)).toInt64), .second, .val (.long (p3 &&& (1048575 : Int32)).toInt64), .second, .val (.double (9218868437227405312 : UInt64)), .second, .val (.int (0 : Int32)), .val (.double (FP.l2d (p2 &&& (1048575 : Int32)).toInt64)), .second, .unset, .unset, .unset, .unset, .unset] [(.ref b1)])) _
    refine XS.dup X1.here hx rfl (hb hby at_74) rfl rfl ?_
    show Steps p.tables e below (T1.setTop (mkF m 75 #[.val (.int p0), .val (.int p1), .val (.int p2), .val (.int p3), .val (.int p4), .val (.long (p1 &&& (1048575 : Int32)).toInt64), .second, .val (.long (p2 &&& (1048575 : Int32)).toInt64), .second, .val (.long (p3 &&& (1048575 : Int32)).toInt64), .second, .val (.double (9218868437227405312 : UInt64)), .second, .val (.int (0 : Int32)), .val (.double (FP.l2d (p2 &&& (1048575 : Int32)).toInt64)), .second, .unset, .unset, .unset, .unset, .unset] [(.ref b1), (.ref b1)])) _
    refine XS.dload X1.here hx rfl (hb hby at_75) rfl ?_
    show Steps p.tables e below (T1.setTop (mkF m 77 #[.val (.int p0), .val (.int p1), .val (.int p2), .val (.int p3), .val (.int p4), .val (.long (p1 &&& (1048575 : Int32)).toInt64), .second, .val (.long (p2 &&& (1048575 : Int32)).toInt64), .second, .val (.long (p3 &&& (1048575 : Int32)).toInt64), .second, .val (.double (9218868437227405312 : UInt64)), .second, .val (.int (0 : Int32)), .val (.double (FP.l2d (p2 &&& (1048575 : Int32)).toInt64)), .second, .unset, .unset, .unset, .unset, .unset] [(.double (9218868437227405312 : UInt64)), (.ref b1), (.ref b1)])) _
    refine XS.lload X1.here hx rfl (hb hby at_77) rfl ?_
    show Steps p.tables e below (T1.setTop (mkF m 79 #[.val (.int p0), .val (.int p1), .val (.int p2), .val (.int p3), .val (.int p4), .val (.long (p1 &&& (1048575 : Int32)).toInt64), .second, .val (.long (p2 &&& (1048575 : Int32)).toInt64), .second, .val (.long (p3 &&& (1048575 : Int32)).toInt64), .second, .val (.double (9218868437227405312 : UInt64)), .second, .val (.int (0 : Int32)), .val (.double (FP.l2d (p2 &&& (1048575 : Int32)).toInt64)), .second, .unset, .unset, .unset, .unset, .unset] [(.long (p1 &&& (1048575 : Int32)).toInt64), (.double (9218868437227405312 : UInt64)), (.ref b1), (.ref b1)])) _
    refine XS.l2dS X1.here hx rfl (hb hby at_79) rfl rfl ?_
    show Steps p.tables e below (T1.setTop (mkF m 80 #[.val (.int p0), .val (.int p1), .val (.int p2), .val (.int p3), .val (.int p4), .val (.long (p1 &&& (1048575 : Int32)).toInt64), .second, .val (.long (p2 &&& (1048575 : Int32)).toInt64), .second, .val (.long (p3 &&& (1048575 : Int32)).toInt64), .second, .val (.double (9218868437227405312 : UInt64)), .second, .val (.int (0 : Int32)), .val (.double (FP.l2d (p2 &&& (1048575 : Int32)).toInt64)), .second, .unset, .unset, .unset, .unset, .unset] [(.double (FP.l2d (p1 &&& (1048575 : Int32)).toInt64)), (.double (9218868437227405312 : UInt64)), (.ref b1), (.ref b1)])) _
    refine XS.dload X1.here hx rfl (hb hby at_80) rfl ?_
    show Steps p.tables e below (T1.setTop (mkF m 82 #[.val (.int p0), .val (.int p1), .val (.int p2), .val (.int p3), .val (.int p4), .val (.long (p1 &&& (1048575 : Int32)).toInt64), .second, .val (.long (p2 &&& (1048575 : Int32)).toInt64), .second, .val (.long (p3 &&& (1048575 : Int32)).toInt64), .second, .val (.double (9218868437227405312 : UInt64)), .second, .val (.int (0 : Int32)), .val (.double (FP.l2d (p2 &&& (1048575 : Int32)).toInt64)), .second, .unset, .unset, .unset, .unset, .unset] [(.double (FP.l2d (p2 &&& (1048575 : Int32)).toInt64)), (.double (FP.l2d (p1 &&& (1048575 : Int32)).toInt64)), (.double (9218868437227405312 : UInt64)), (.ref b1), (.ref b1)])) _
    refine st2.trans ?_
    show Steps p.tables e below (T2.setTop (mkF m 85 #[.val (.int p0), .val (.int p1), .val (.int p2), .val (.int p3), .val (.int p4), .val (.long (p1 &&& (1048575 : Int32)).toInt64), .second, .val (.long (p2 &&& (1048575 : Int32)).toInt64), .second, .val (.long (p3 &&& (1048575 : Int32)).toInt64), .second, .val (.double (9218868437227405312 : UInt64)), .second, .val (.int (0 : Int32)), .val (.double (FP.l2d (p2 &&& (1048575 : Int32)).toInt64)), .second, .unset, .unset, .unset, .unset, .unset] [(.ref b1)])) _
    refine XS.astore X2.here hx rfl (hb hby at_85) rfl rfl (l' := #[.val (.int p0), .val (.int p1), .val (.int p2), .val (.int p3), .val (.int p4), .val (.long (p1 &&& (1048575 : Int32)).toInt64), .second, .val (.long (p2 &&& (1048575 : Int32)).toInt64), .second, .val (.long (p3 &&& (1048575 : Int32)).toInt64), .second, .val (.double (9218868437227405312 : UInt64)), .second, .val (.int (0 : Int32)), .val (.double (FP.l2d (p2 &&& (1048575 : Int32)).toInt64)), .second, .val (.ref b1), .unset, .unset, .unset, .unset]) rfl ?_
    show Steps p.tables e below (T2.setTop (mkF m 87 #[.val (.int p0), .val (.int p1), .val (.int p2), .val (.int p3), .val (.int p4), .val (.long (p1 &&& (1048575 : Int32)).toInt64), .second, .val (.long (p2 &&& (1048575 : Int32)).toInt64), .second, .val (.long (p3 &&& (1048575 : Int32)).toInt64), .second, .val (.double (9218868437227405312 : UInt64)), .second, .val (.int (0 : Int32)), .val (.double (FP.l2d (p2 &&& (1048575 : Int32)).toInt64)), .second, .val (.ref b1), .unset, .unset, .unset, .unset] [])) _
    refine XS.aload X2.here hx rfl (hb hby at_87) rfl rfl ?_
    show Steps p.tables e below (T2.setTop (mkF m 89 #[.val (.int p0), .val (.int p1), .val (.int p2), .val (.int p3), .val (.int p4), .val (.long (p1 &&& (1048575 : Int32)).toInt64), .second, .val (.long (p2 &&& (1048575 : Int32)).toInt64), .second, .val (.long (p3 &&& (1048575 : Int32)).toInt64), .second, .val (.double (9218868437227405312 : UInt64)), .second, .val (.int (0 : Int32)), .val (.double (FP.l2d (p2 &&& (1048575 : Int32)).toInt64)), .second, .val (.ref b1), .unset, .unset, .unset, .unset] [(.ref b1)])) _
    refine XS.lload X2.here hx rfl (hb hby at_89) rfl ?_
    show Steps p.tables e below (T2.setTop (mkF m 91 #[.val (.int p0), .val (.int p1), .val (.int p2), .val (.int p3), .val (.int p4), .val (.long (p1 &&& (1048575 : Int32)).toInt64), .second, .val (.long (p2 &&& (1048575 : Int32)).toInt64), .second, .val (.long (p3 &&& (1048575 : Int32)).toInt64), .second, .val (.double (9218868437227405312 : UInt64)), .second, .val (.int (0 : Int32)), .val (.double (FP.l2d (p2 &&& (1048575 : Int32)).toInt64)), .second, .val (.ref b1), .unset, .unset, .unset, .unset] [(.long (p3 &&& (1048575 : Int32)).toInt64), (.ref b1)])) _
    refine XS.l2dS X2.here hx rfl (hb hby at_91) rfl rfl ?_
    show Steps p.tables e below (T2.setTop (mkF m 92 #[.val (.int p0), .val (.int p1), .val (.int p2), .val (.int p3), .val (.int p4), .val (.long (p1 &&& (1048575 : Int32)).toInt64), .second, .val (.long (p2 &&& (1048575 : Int32)).toInt64), .second, .val (.long (p3 &&& (1048575 : Int32)).toInt64), .second, .val (.double (9218868437227405312 : UInt64)), .second, .val (.int (0 : Int32)), .val (.double (FP.l2d (p2 &&& (1048575 : Int32)).toInt64)), .second, .val (.ref b1), .unset, .unset, .unset, .unset] [(.double (FP.l2d (p3 &&& (1048575 : Int32)).toInt64)), (.ref b1)])) _
    refine st3.trans ?_
    show Steps p.tables e below (T3.setTop (mkF m 95 #[.val (.int p0), .val (.int p1), .val (.int p2), .val (.int p3), .val (.int p4), .val (.long (p1 &&& (1048575 : Int32)).toInt64), .second, .val (.long (p2 &&& (1048575 : Int32)).toInt64), .second, .val (.long (p3 &&& (1048575 : Int32)).toInt64), .second, .val (.double (9218868437227405312 : UInt64)), .second, .val (.int (0 : Int32)), .val (.double (FP.l2d (p2 &&& (1048575 : Int32)).toInt64)), .second, .val (.ref b1), .unset, .unset, .unset, .unset] [(.double (FP.dadd (FP.dmul (FP.l2d (p1 &&& (1048575 : Int32)).toInt64) (FP.l2d (p3 &&& (1048575 : Int32)).toInt64)) (FP.l2d (p2 &&& (1048575 : Int32)).toInt64)))])) _
    refine XS.dstore X3.here hx rfl (hb hby at_95) rfl (l' := #[.val (.int p0), .val (.int p1), .val (.int p2), .val (.int p3), .val (.int p4), .val (.long (p1 &&& (1048575 : Int32)).toInt64), .second, .val (.long (p2 &&& (1048575 : Int32)).toInt64), .second, .val (.long (p3 &&& (1048575 : Int32)).toInt64), .second, .val (.double (9218868437227405312 : UInt64)), .second, .val (.int (0 : Int32)), .val (.double (FP.l2d (p2 &&& (1048575 : Int32)).toInt64)), .second, .val (.ref b1), .val (.double (FP.dadd (FP.dmul (FP.l2d (p1 &&& (1048575 : Int32)).toInt64) (FP.l2d (p3 &&& (1048575 : Int32)).toInt64)) (FP.l2d (p2 &&& (1048575 : Int32)).toInt64))), .second, .unset, .unset]) rfl ?_
    show Steps p.tables e below (T3.setTop (mkF m 97 #[.val (.int p0), .val (.int p1), .val (.int p2), .val (.int p3), .val (.int p4), .val (.long (p1 &&& (1048575 : Int32)).toInt64), .second, .val (.long (p2 &&& (1048575 : Int32)).toInt64), .second, .val (.long (p3 &&& (1048575 : Int32)).toInt64), .second, .val (.double (9218868437227405312 : UInt64)), .second, .val (.int (0 : Int32)), .val (.double (FP.l2d (p2 &&& (1048575 : Int32)).toInt64)), .second, .val (.ref b1), .val (.double (FP.dadd (FP.dmul (FP.l2d (p1 &&& (1048575 : Int32)).toInt64) (FP.l2d (p3 &&& (1048575 : Int32)).toInt64)) (FP.l2d (p2 &&& (1048575 : Int32)).toInt64))), .second, .unset, .unset] [])) _
    refine XS.iload X3.here hx rfl (hb hby at_97) rfl ?_
    show Steps p.tables e below (T3.setTop (mkF m 99 #[.val (.int p0), .val (.int p1), .val (.int p2), .val (.int p3), .val (.int p4), .val (.long (p1 &&& (1048575 : Int32)).toInt64), .second, .val (.long (p2 &&& (1048575 : Int32)).toInt64), .second, .val (.long (p3 &&& (1048575 : Int32)).toInt64), .second, .val (.double (9218868437227405312 : UInt64)), .second, .val (.int (0 : Int32)), .val (.double (FP.l2d (p2 &&& (1048575 : Int32)).toInt64)), .second, .val (.ref b1), .val (.double (FP.dadd (FP.dmul (FP.l2d (p1 &&& (1048575 : Int32)).toInt64) (FP.l2d (p3 &&& (1048575 : Int32)).toInt64)) (FP.l2d (p2 &&& (1048575 : Int32)).toInt64))), .second, .unset, .unset] [(.int (0 : Int32))])) _
    refine XS.ifYes X3.here hx rfl (pc0 := 99) (pc' := 117) rfl (hb hby at_99) rfl (by decide) (by decide) (by decide) ?_
    show Steps p.tables e below (T3.setTop (mkF m 117 #[.val (.int p0), .val (.int p1), .val (.int p2), .val (.int p3), .val (.int p4), .val (.long (p1 &&& (1048575 : Int32)).toInt64), .second, .val (.long (p2 &&& (1048575 : Int32)).toInt64), .second, .val (.long (p3 &&& (1048575 : Int32)).toInt64), .second, .val (.double (9218868437227405312 : UInt64)), .second, .val (.int (0 : Int32)), .val (.double (FP.l2d (p2 &&& (1048575 : Int32)).toInt64)), .second, .val (.ref b1), .val (.double (FP.dadd (FP.dmul (FP.l2d (p1 &&& (1048575 : Int32)).toInt64) (FP.l2d (p3 &&& (1048575 : Int32)).toInt64)) (FP.l2d (p2 &&& (1048575 : Int32)).toInt64))), .second, .unset, .unset] [])) _
    refine XS.lload X3.here hx rfl (hb hby at_117) rfl ?_
    show Steps p.tables e below (T3.setTop (mkF m 119 #[.val (.int p0), .val (.int p1), .val (.int p2), .val (.int p3), .val (.int p4), .val (.long (p1 &&& (1048575 : Int32)).toInt64), .second, .val (.long (p2 &&& (1048575 : Int32)).toInt64), .second, .val (.long (p3 &&& (1048575 : Int32)).toInt64), .second, .val (.double (9218868437227405312 : UInt64)), .second, .val (.int (0 : Int32)), .val (.double (FP.l2d (p2 &&& (1048575 : Int32)).toInt64)), .second, .val (.ref b1), .val (.double (FP.dadd (FP.dmul (FP.l2d (p1 &&& (1048575 : Int32)).toInt64) (FP.l2d (p3 &&& (1048575 : Int32)).toInt64)) (FP.l2d (p2 &&& (1048575 : Int32)).toInt64))), .second, .unset, .unset] [(.long (p1 &&& (1048575 : Int32)).toInt64)])) _
    refine XS.lload X3.here hx rfl (hb hby at_119) rfl ?_
    show Steps p.tables e below (T3.setTop (mkF m 121 #[.val (.int p0), .val (.int p1), .val (.int p2), .val (.int p3), .val (.int p4), .val (.long (p1 &&& (1048575 : Int32)).toInt64), .second, .val (.long (p2 &&& (1048575 : Int32)).toInt64), .second, .val (.long (p3 &&& (1048575 : Int32)).toInt64), .second, .val (.double (9218868437227405312 : UInt64)), .second, .val (.int (0 : Int32)), .val (.double (FP.l2d (p2 &&& (1048575 : Int32)).toInt64)), .second, .val (.ref b1), .val (.double (FP.dadd (FP.dmul (FP.l2d (p1 &&& (1048575 : Int32)).toInt64) (FP.l2d (p3 &&& (1048575 : Int32)).toInt64)) (FP.l2d (p2 &&& (1048575 : Int32)).toInt64))), .second, .unset, .unset] [(.long (p3 &&& (1048575 : Int32)).toInt64), (.long (p1 &&& (1048575 : Int32)).toInt64)])) _
    refine XS.lmul X3.here hx rfl (hb hby at_121) rfl ?_
    show Steps p.tables e below (T3.setTop (mkF m 122 #[.val (.int p0), .val (.int p1), .val (.int p2), .val (.int p3), .val (.int p4), .val (.long (p1 &&& (1048575 : Int32)).toInt64), .second, .val (.long (p2 &&& (1048575 : Int32)).toInt64), .second, .val (.long (p3 &&& (1048575 : Int32)).toInt64), .second, .val (.double (9218868437227405312 : UInt64)), .second, .val (.int (0 : Int32)), .val (.double (FP.l2d (p2 &&& (1048575 : Int32)).toInt64)), .second, .val (.ref b1), .val (.double (FP.dadd (FP.dmul (FP.l2d (p1 &&& (1048575 : Int32)).toInt64) (FP.l2d (p3 &&& (1048575 : Int32)).toInt64)) (FP.l2d (p2 &&& (1048575 : Int32)).toInt64))), .second, .unset, .unset] [(.long ((p1 &&& (1048575 : Int32)).toInt64 * (p3 &&& (1048575 : Int32)).toInt64))])) _
    refine XS.lload X3.here hx rfl (hb hby at_122) rfl ?_
    show Steps p.tables e below (T3.setTop (mkF m 124 #[.val (.int p0), .val (.int p1), .val (.int p2), .val (.int p3), .val (.int p4), .val (.long (p1 &&& (1048575 : Int32)).toInt64), .second, .val (.long (p2 &&& (1048575 : Int32)).toInt64), .second, .val (.long (p3 &&& (1048575 : Int32)).toInt64), .second, .val (.double (9218868437227405312 : UInt64)), .second, .val (.int (0 : Int32)), .val (.double (FP.l2d (p2 &&& (1048575 : Int32)).toInt64)), .second, .val (.ref b1), .val (.double (FP.dadd (FP.dmul (FP.l2d (p1 &&& (1048575 : Int32)).toInt64) (FP.l2d (p3 &&& (1048575 : Int32)).toInt64)) (FP.l2d (p2 &&& (1048575 : Int32)).toInt64))), .second, .unset, .unset] [(.long (p2 &&& (1048575 : Int32)).toInt64), (.long ((p1 &&& (1048575 : Int32)).toInt64 * (p3 &&& (1048575 : Int32)).toInt64))])) _
    refine XS.ladd X3.here hx rfl (hb hby at_124) rfl ?_
    show Steps p.tables e below (T3.setTop (mkF m 125 #[.val (.int p0), .val (.int p1), .val (.int p2), .val (.int p3), .val (.int p4), .val (.long (p1 &&& (1048575 : Int32)).toInt64), .second, .val (.long (p2 &&& (1048575 : Int32)).toInt64), .second, .val (.long (p3 &&& (1048575 : Int32)).toInt64), .second, .val (.double (9218868437227405312 : UInt64)), .second, .val (.int (0 : Int32)), .val (.double (FP.l2d (p2 &&& (1048575 : Int32)).toInt64)), .second, .val (.ref b1), .val (.double (FP.dadd (FP.dmul (FP.l2d (p1 &&& (1048575 : Int32)).toInt64) (FP.l2d (p3 &&& (1048575 : Int32)).toInt64)) (FP.l2d (p2 &&& (1048575 : Int32)).toInt64))), .second, .unset, .unset] [(.long (((p1 &&& (1048575 : Int32)).toInt64 * (p3 &&& (1048575 : Int32)).toInt64) + (p2 &&& (1048575 : Int32)).toInt64))])) _
    refine XS.lstore X3.here hx rfl (hb hby at_125) rfl (l' := #[.val (.int p0), .val (.int p1), .val (.int p2), .val (.int p3), .val (.int p4), .val (.long (p1 &&& (1048575 : Int32)).toInt64), .second, .val (.long (p2 &&& (1048575 : Int32)).toInt64), .second, .val (.long (p3 &&& (1048575 : Int32)).toInt64), .second, .val (.double (9218868437227405312 : UInt64)), .second, .val (.int (0 : Int32)), .val (.double (FP.l2d (p2 &&& (1048575 : Int32)).toInt64)), .second, .val (.ref b1), .val (.double (FP.dadd (FP.dmul (FP.l2d (p1 &&& (1048575 : Int32)).toInt64) (FP.l2d (p3 &&& (1048575 : Int32)).toInt64)) (FP.l2d (p2 &&& (1048575 : Int32)).toInt64))), .second, .val (.long (((p1 &&& (1048575 : Int32)).toInt64 * (p3 &&& (1048575 : Int32)).toInt64) + (p2 &&& (1048575 : Int32)).toInt64)), .second]) rfl ?_
    show Steps p.tables e below (T3.setTop (mkF m 127 #[.val (.int p0), .val (.int p1), .val (.int p2), .val (.int p3), .val (.int p4), .val (.long (p1 &&& (1048575 : Int32)).toInt64), .second, .val (.long (p2 &&& (1048575 : Int32)).toInt64), .second, .val (.long (p3 &&& (1048575 : Int32)).toInt64), .second, .val (.double (9218868437227405312 : UInt64)), .second, .val (.int (0 : Int32)), .val (.double (FP.l2d (p2 &&& (1048575 : Int32)).toInt64)), .second, .val (.ref b1), .val (.double (FP.dadd (FP.dmul (FP.l2d (p1 &&& (1048575 : Int32)).toInt64) (FP.l2d (p3 &&& (1048575 : Int32)).toInt64)) (FP.l2d (p2 &&& (1048575 : Int32)).toInt64))), .second, .val (.long (((p1 &&& (1048575 : Int32)).toInt64 * (p3 &&& (1048575 : Int32)).toInt64) + (p2 &&& (1048575 : Int32)).toInt64)), .second] [])) _
    refine XS.dload X3.here hx rfl (hb hby at_127) rfl ?_
    show Steps p.tables e below (T3.setTop (mkF m 129 #[.val (.int p0), .val (.int p1), .val (.int p2), .val (.int p3), .val (.int p4), .val (.long (p1 &&& (1048575 : Int32)).toInt64), .second, .val (.long (p2 &&& (1048575 : Int32)).toInt64), .second, .val (.long (p3 &&& (1048575 : Int32)).toInt64), .second, .val (.double (9218868437227405312 : UInt64)), .second, .val (.int (0 : Int32)), .val (.double (FP.l2d (p2 &&& (1048575 : Int32)).toInt64)), .second, .val (.ref b1), .val (.double (FP.dadd (FP.dmul (FP.l2d (p1 &&& (1048575 : Int32)).toInt64) (FP.l2d (p3 &&& (1048575 : Int32)).toInt64)) (FP.l2d (p2 &&& (1048575 : Int32)).toInt64))), .second, .val (.long (((p1 &&& (1048575 : Int32)).toInt64 * (p3 &&& (1048575 : Int32)).toInt64) + (p2 &&& (1048575 : Int32)).toInt64)), .second] [(.double (FP.dadd (FP.dmul (FP.l2d (p1 &&& (1048575 : Int32)).toInt64) (FP.l2d (p3 &&& (1048575 : Int32)).toInt64)) (FP.l2d (p2 &&& (1048575 : Int32)).toInt64)))])) _
    refine XS.lload X3.here hx rfl (hb hby at_129) rfl ?_
    show Steps p.tables e below (T3.setTop (mkF m 131 #[.val (.int p0), .val (.int p1), .val (.int p2), .val (.int p3), .val (.int p4), .val (.long (p1 &&& (1048575 : Int32)).toInt64), .second, .val (.long (p2 &&& (1048575 : Int32)).toInt64), .second, .val (.long (p3 &&& (1048575 : Int32)).toInt64), .second, .val (.double (9218868437227405312 : UInt64)), .second, .val (.int (0 : Int32)), .val (.double (FP.l2d (p2 &&& (1048575 : Int32)).toInt64)), .second, .val (.ref b1), .val (.double (FP.dadd (FP.dmul (FP.l2d (p1 &&& (1048575 : Int32)).toInt64) (FP.l2d (p3 &&& (1048575 : Int32)).toInt64)) (FP.l2d (p2 &&& (1048575 : Int32)).toInt64))), .second, .val (.long (((p1 &&& (1048575 : Int32)).toInt64 * (p3 &&& (1048575 : Int32)).toInt64) + (p2 &&& (1048575 : Int32)).toInt64)), .second] [(.long (((p1 &&& (1048575 : Int32)).toInt64 * (p3 &&& (1048575 : Int32)).toInt64) + (p2 &&& (1048575 : Int32)).toInt64)), (.double (FP.dadd (FP.dmul (FP.l2d (p1 &&& (1048575 : Int32)).toInt64) (FP.l2d (p3 &&& (1048575 : Int32)).toInt64)) (FP.l2d (p2 &&& (1048575 : Int32)).toInt64)))])) _
    refine XS.l2dS X3.here hx rfl (hb hby at_131) rfl rfl ?_
    show Steps p.tables e below (T3.setTop (mkF m 132 #[.val (.int p0), .val (.int p1), .val (.int p2), .val (.int p3), .val (.int p4), .val (.long (p1 &&& (1048575 : Int32)).toInt64), .second, .val (.long (p2 &&& (1048575 : Int32)).toInt64), .second, .val (.long (p3 &&& (1048575 : Int32)).toInt64), .second, .val (.double (9218868437227405312 : UInt64)), .second, .val (.int (0 : Int32)), .val (.double (FP.l2d (p2 &&& (1048575 : Int32)).toInt64)), .second, .val (.ref b1), .val (.double (FP.dadd (FP.dmul (FP.l2d (p1 &&& (1048575 : Int32)).toInt64) (FP.l2d (p3 &&& (1048575 : Int32)).toInt64)) (FP.l2d (p2 &&& (1048575 : Int32)).toInt64))), .second, .val (.long (((p1 &&& (1048575 : Int32)).toInt64 * (p3 &&& (1048575 : Int32)).toInt64) + (p2 &&& (1048575 : Int32)).toInt64)), .second] [(.double (FP.l2d (((p1 &&& (1048575 : Int32)).toInt64 * (p3 &&& (1048575 : Int32)).toInt64) + (p2 &&& (1048575 : Int32)).toInt64))), (.double (FP.dadd (FP.dmul (FP.l2d (p1 &&& (1048575 : Int32)).toInt64) (FP.l2d (p3 &&& (1048575 : Int32)).toInt64)) (FP.l2d (p2 &&& (1048575 : Int32)).toInt64)))])) _
    refine XS.dcmpS X3.here hx rfl (hb hby at_132) rfl (cmpV_l _) ?_
    show Steps p.tables e below (T3.setTop (mkF m 133 #[.val (.int p0), .val (.int p1), .val (.int p2), .val (.int p3), .val (.int p4), .val (.long (p1 &&& (1048575 : Int32)).toInt64), .second, .val (.long (p2 &&& (1048575 : Int32)).toInt64), .second, .val (.long (p3 &&& (1048575 : Int32)).toInt64), .second, .val (.double (9218868437227405312 : UInt64)), .second, .val (.int (0 : Int32)), .val (.double (FP.l2d (p2 &&& (1048575 : Int32)).toInt64)), .second, .val (.ref b1), .val (.double (FP.dadd (FP.dmul (FP.l2d (p1 &&& (1048575 : Int32)).toInt64) (FP.l2d (p3 &&& (1048575 : Int32)).toInt64)) (FP.l2d (p2 &&& (1048575 : Int32)).toInt64))), .second, .val (.long (((p1 &&& (1048575 : Int32)).toInt64 * (p3 &&& (1048575 : Int32)).toInt64) + (p2 &&& (1048575 : Int32)).toInt64)), .second] [(.int (FP.cmpInt (-1) (FP.dcmp (FP.dadd (FP.dmul (FP.l2d (p1 &&& (1048575 : Int32)).toInt64) (FP.l2d (p3 &&& (1048575 : Int32)).toInt64)) (FP.l2d (p2 &&& (1048575 : Int32)).toInt64)) (FP.l2d (((p1 &&& (1048575 : Int32)).toInt64 * (p3 &&& (1048575 : Int32)).toInt64) + (p2 &&& (1048575 : Int32)).toInt64)))))])) _
    refine XS.ifNo X3.here hx rfl (hb hby at_133) rfl b133 ?_
    show Steps p.tables e below (T3.setTop (mkF m 136 #[.val (.int p0), .val (.int p1), .val (.int p2), .val (.int p3), .val (.int p4), .val (.long (p1 &&& (1048575 : Int32)).toInt64), .second, .val (.long (p2 &&& (1048575 : Int32)).toInt64), .second, .val (.long (p3 &&& (1048575 : Int32)).toInt64), .second, .val (.double (9218868437227405312 : UInt64)), .second, .val (.int (0 : Int32)), .val (.double (FP.l2d (p2 &&& (1048575 : Int32)).toInt64)), .second, .val (.ref b1), .val (.double (FP.dadd (FP.dmul (FP.l2d (p1 &&& (1048575 : Int32)).toInt64) (FP.l2d (p3 &&& (1048575 : Int32)).toInt64)) (FP.l2d (p2 &&& (1048575 : Int32)).toInt64))), .second, .val (.long (((p1 &&& (1048575 : Int32)).toInt64 * (p3 &&& (1048575 : Int32)).toInt64) + (p2 &&& (1048575 : Int32)).toInt64)), .second] [])) _
    refine XS.iconst X3.here hx rfl (hb hby at_136) ?_
    show Steps p.tables e below (T3.setTop (mkF m 137 #[.val (.int p0), .val (.int p1), .val (.int p2), .val (.int p3), .val (.int p4), .val (.long (p1 &&& (1048575 : Int32)).toInt64), .second, .val (.long (p2 &&& (1048575 : Int32)).toInt64), .second, .val (.long (p3 &&& (1048575 : Int32)).toInt64), .second, .val (.double (9218868437227405312 : UInt64)), .second, .val (.int (0 : Int32)), .val (.double (FP.l2d (p2 &&& (1048575 : Int32)).toInt64)), .second, .val (.ref b1), .val (.double (FP.dadd (FP.dmul (FP.l2d (p1 &&& (1048575 : Int32)).toInt64) (FP.l2d (p3 &&& (1048575 : Int32)).toInt64)) (FP.l2d (p2 &&& (1048575 : Int32)).toInt64))), .second, .val (.long (((p1 &&& (1048575 : Int32)).toInt64 * (p3 &&& (1048575 : Int32)).toInt64) + (p2 &&& (1048575 : Int32)).toInt64)), .second] [(.int (1 : Int32))])) _
    refine XS.goto X3.here hx rfl (pc0 := 137) (pc' := 141) rfl (hb hby at_137) (by decide) (by decide) ?_
    show Steps p.tables e below (T3.setTop (mkF m 141 #[.val (.int p0), .val (.int p1), .val (.int p2), .val (.int p3), .val (.int p4), .val (.long (p1 &&& (1048575 : Int32)).toInt64), .second, .val (.long (p2 &&& (1048575 : Int32)).toInt64), .second, .val (.long (p3 &&& (1048575 : Int32)).toInt64), .second, .val (.double (9218868437227405312 : UInt64)), .second, .val (.int (0 : Int32)), .val (.double (FP.l2d (p2 &&& (1048575 : Int32)).toInt64)), .second, .val (.ref b1), .val (.double (FP.dadd (FP.dmul (FP.l2d (p1 &&& (1048575 : Int32)).toInt64) (FP.l2d (p3 &&& (1048575 : Int32)).toInt64)) (FP.l2d (p2 &&& (1048575 : Int32)).toInt64))), .second, .val (.long (((p1 &&& (1048575 : Int32)).toInt64 * (p3 &&& (1048575 : Int32)).toInt64) + (p2 &&& (1048575 : Int32)).toInt64)), .second] [(.int (1 : Int32))])) _
    exact retN X3 hx (t := .boolean) Bd.returns (by simp) (hb hby at_141) hr
  · show QL n0 _ T3.heap _
    exact ⟨rfl, N3⟩
theorem ef_rm0tt (m : MethodId) (x0 : Int32) (x1 : Int32) (x2 : Int32) (x3 : Int32) (x4 : Int32) : entryFrame m #[(.int x0), (.int x1), (.int x2), (.int x3), (.int x4)] maxLocals = mkF m 0 #[.val (.int x0), .val (.int x1), .val (.int x2), .val (.int x3), .val (.int x4), .unset, .unset, .unset, .unset, .unset, .unset, .unset, .unset, .unset, .unset, .unset, .unset, .unset, .unset, .unset, .unset] [] := by first | (simp [entryFrame, mkF, argsToLocals, Value.category, maxLocals]; done) | rfl
set_option maxRecDepth 65536 in
set_option maxHeartbeats 40000000 in
theorem rm0tt (l : Launch) (Z : State) (a0 : Array Value) (hw : ∀ d ∈ tables_1, d.before a0 Z = true) (ws : List Jvm.Cond)  (p0 : Int32) (p1 : Int32) (p2 : Int32) (p3 : Int32) (p4 : Int32) (h0 : Heap) (n0 : Nat) (Z0 : n0 ≤ h0.size) 
    (b25 : ifCond.holds .eq (p4 &&& (1 : Int32)) = true)
    (b45 : ifCond.holds .eq (p4 &&& (2 : Int32)) = true)
    (c1 : NoNaN64 (FP.dmul (FP.l2d (p1 &&& (1048575 : Int32)).toInt64) (FP.l2d (p3 &&& (1048575 : Int32)).toInt64)))
    (c2 : NoNaN64 (FP.dadd (FP.dmul (FP.l2d (p1 &&& (1048575 : Int32)).toInt64) (FP.l2d (p3 &&& (1048575 : Int32)).toInt64)) (FP.l2d (p2 &&& (1048575 : Int32)).toInt64)))
    (b133 : ifCond.holds .ne (FP.cmpInt (-1) (FP.dcmp (FP.dadd (FP.dmul (FP.l2d (p1 &&& (1048575 : Int32)).toInt64) (FP.l2d (p3 &&& (1048575 : Int32)).toInt64)) (FP.l2d (p2 &&& (1048575 : Int32)).toInt64)) (FP.l2d (((p1 &&& (1048575 : Int32)).toInt64 * (p3 &&& (1048575 : Int32)).toInt64) + (p2 &&& (1048575 : Int32)).toInt64)))) = false) :
    MetFree l x (head1 (Jvm.Cond.code x code maxLocals ret :: ws) room_1) (fun a U => a = #[(.int p0), (.int p1), (.int p2), (.int p3), (.int p4)] ∧ Z.Warmed39 U.vm ∧ U.heap = h0) (fun _ _ _ _ _ => True) (fun _ U o U' => ∃ v L, o = .returned v ∧ QL n0 v U'.heap L ∧ FrameEnd U o U' L 16 128) := by
  refine MetFree.of_bodySF (plainFor_of_name pn_2) hisR ?_
  intro p e s m args below meth c s₁ Bd hml0 hP hK
  obtain ⟨rfl, hZ, hh⟩ := hP
  have hx := Bd.exec
  have hby := Bd.bytes
  have hml : c.maxLocals = 21 := hml0
  have hown : s.vm.findClass "com/example/roving_fleet/rovingfleet/ServiceLimitsLongestRidePinLaw" = some m.cls := findClass_of_methodNamed Bd.named
  have hnm := (name_of_methodNamed Bd.named Bd.method).1
  have X0 : Stand p l e room_1 s m #[(.int p0), (.int p1), (.int p2), (.int p3), (.int p4)] below meth c s₁ [] 0 0 := Stand.of_body Bd
  have e0 : s₁.heap = h0 := by rw [← hh, Bd.state]; rfl
  have N0 := Fr.nil n0
  have pre0 : ∀ t, Steps p.tables e below (s₁.setTop (mkF m 0 #[.val (.int p0), .val (.int p1), .val (.int p2), .val (.int p3), .val (.int p4), .unset, .unset, .unset, .unset, .unset, .unset, .unset, .unset, .unset, .unset, .unset, .unset, .unset, .unset, .unset, .unset] [])) t → Steps p.tables e below (s₁.setTop (entryFrame m #[(.int p0), (.int p1), (.int p2), (.int p3), (.int p4)] maxLocals)) t := fun t k => castTop (ef_rm0tt m p0 p1 p2 p3 p4) k
  obtain ⟨T1, h1, X1, e1, E1, A1, D1, -, st1⟩ := newO X0 hx hZ hown (hw _ (List.mem_of_getElem? (i := 1) rfl)) (hw _ (List.mem_of_getElem? (i := 2) rfl)) (hw _ (List.mem_of_getElem? (i := 3) rfl)) e0 (g := (mkF m 71 #[.val (.int p0), .val (.int p1), .val (.int p2), .val (.int p3), .val (.int p4), .val (.long (p1 &&& (1048575 : Int32)).toInt64), .second, .val (.long (p2 &&& (1048575 : Int32)).toInt64), .second, .val (.long (p3 &&& (1048575 : Int32)).toInt64), .second, .val (.double (FP.i2d (p0 &&& (1048575 : Int32)))), .second, .val (.int (0 : Int32)), .val (.double (FP.l2d (p2 &&& (1048575 : Int32)).toInt64)), .second, .unset, .unset, .unset, .unset, .unset] [])) rfl (hb hby at_71) (by decide) (by decide)
  obtain ⟨b1, g1⟩ : ∃ z, z = h0.size := ⟨_, rfl⟩
  have g_b1 : n0 ≤ b1 := Nat.le_trans Z0 (Nat.le_of_eq g1.symm)
  rw [← g1] at A1 D1 st1
  have F1_maxWait : Fld Z h1 b1 "com/example/roving_fleet/rovingfleet/ServiceLimits" "maxWait" "D" (.double (0 : UInt64)) := D1 (Or.inr (hw _ (List.mem_of_getElem? (i := 16) rfl))) (ty := .double) (by decide)
  have F1_detourFactor : Fld Z h1 b1 "com/example/roving_fleet/rovingfleet/ServiceLimits" "detourFactor" "D" (.double (0 : UInt64)) := D1 (Or.inr (hw _ (List.mem_of_getElem? (i := 18) rfl))) (ty := .double) (by decide)
  have F1_detourAllowance : Fld Z h1 b1 "com/example/roving_fleet/rovingfleet/ServiceLimits" "detourAllowance" "D" (.double (0 : UInt64)) := D1 (Or.inr (hw _ (List.mem_of_getElem? (i := 20) rfl))) (ty := .double) (by decide)
  obtain ⟨_, _, ⟨T2, L2, k2, n2⟩, -, X2, ⟨Lc2, hQ2, l2, y2, z2⟩, st2⟩ := X1.specialBack hx (y := (⟨"com/example/roving_fleet/rovingfleet/ServiceLimits", "<init>", "(DDD)V"⟩ : MethodName)) rfl hown (mvT hZ (hw _ (List.mem_of_getElem? (i := 4) rfl))) (mvT hZ (hw _ (List.mem_of_getElem? (i := 5) rfl))) (mvT hZ (hw _ (List.mem_of_getElem? (i := 6) rfl))) (by decide) (backOf (W := 1) (rmI l Z a0 hw [] _ _ _ b1 (FP.i2d (p0 &&& (1048575 : Int32))) (FP.l2d (p1 &&& (1048575 : Int32)).toInt64) (FP.l2d (p2 &&& (1048575 : Int32)).toInt64) h1 n0 (Nat.le_trans Z0 E1.1) A1 g_b1 F1_maxWait F1_detourFactor F1_detourAllowance) hZ (hw _ (List.mem_of_getElem? (i := 6) rfl)) (hw _ (List.mem_of_getElem? (i := 3) rfl)) (by decide) (by decide)) (g := (mkF m 82 #[.val (.int p0), .val (.int p1), .val (.int p2), .val (.int p3), .val (.int p4), .val (.long (p1 &&& (1048575 : Int32)).toInt64), .second, .val (.long (p2 &&& (1048575 : Int32)).toInt64), .second, .val (.long (p3 &&& (1048575 : Int32)).toInt64), .second, .val (.double (FP.i2d (p0 &&& (1048575 : Int32)))), .second, .val (.int (0 : Int32)), .val (.double (FP.l2d (p2 &&& (1048575 : Int32)).toInt64)), .second, .unset, .unset, .unset, .unset, .unset] [(.double (FP.l2d (p2 &&& (1048575 : Int32)).toInt64)), (.double (FP.l2d (p1 &&& (1048575 : Int32)).toInt64)), (.double (FP.i2d (p0 &&& (1048575 : Int32)))), (.ref b1), (.ref b1)])) rfl (by rw [hml]; rfl) (Steps.refl _) (a := b1) (argsL := [(.double (FP.i2d (p0 &&& (1048575 : Int32)))), (.double (FP.l2d (p1 &&& (1048575 : Int32)).toInt64)), (.double (FP.l2d (p2 &&& (1048575 : Int32)).toInt64))]) (rest := [(.ref b1)]) (lenOf pd_1 rfl) rfl (by show 2 * 0 + _ ≤ _; exact Nat.le_of_eq rfl) (hb hby at_82) (fun _ _ => ⟨rfl, e1, (by decide : 1 + 0 ≤ _), (by decide : 3 + 0 ≤ _)⟩)
  dsimp only [Pt.U, Pt.locs, Pt.cells, Pt.slots] at X2 l2 y2 z2 st2 hQ2
  subst l2 y2 z2
  obtain ⟨rfl, N2a, K2a, E2a, F2a, F2b⟩ := hQ2
  have N2 := Fr.app N0 N2a
  obtain ⟨cq3, kq3, q3a, q3b, q3c⟩ := isOf hZ rfl E2a
  obtain ⟨_, _, ⟨T3, L3, k3, n3⟩, -, X3, ⟨Lc3, hQ3, l3, y3, z3⟩, st3⟩ := X2.virtualBack hx (y := (⟨"com/example/roving_fleet/rovingfleet/ServiceLimits", "longestRide", "(D)D"⟩ : MethodName)) (z := (⟨"com/example/roving_fleet/rovingfleet/ServiceLimits", "longestRide", "(D)D"⟩ : MethodName)) hown (mvT hZ (hw _ (List.mem_of_getElem? (i := 21) rfl))) (mvT hZ (hw _ (List.mem_of_getElem? (i := 22) rfl))) (notFace_of_selects (args := #[]) (mvT hZ (hw _ (List.mem_of_getElem? (i := 24) rfl)))) (mvT hZ (hw _ (List.mem_of_getElem? (i := 24) rfl))) (mvT hZ (hw _ (List.mem_of_getElem? (i := 23) rfl))) (by decide) (backOf (W := 0) (rmL l Z a0 hw [] (FP.l2d (p1 &&& (1048575 : Int32)).toInt64) (FP.l2d (p2 &&& (1048575 : Int32)).toInt64) b1 (FP.l2d (p3 &&& (1048575 : Int32)).toInt64) T2.heap n0 (Nat.le_trans (Nat.le_trans Z0 E1.1) K2a.1) F2a F2b c1 c2) hZ (hw _ (List.mem_of_getElem? (i := 25) rfl)) (hw _ (List.mem_of_getElem? (i := 3) rfl)) (by decide) (by decide)) q3a q3c (g := (mkF m 92 #[.val (.int p0), .val (.int p1), .val (.int p2), .val (.int p3), .val (.int p4), .val (.long (p1 &&& (1048575 : Int32)).toInt64), .second, .val (.long (p2 &&& (1048575 : Int32)).toInt64), .second, .val (.long (p3 &&& (1048575 : Int32)).toInt64), .second, .val (.double (FP.i2d (p0 &&& (1048575 : Int32)))), .second, .val (.int (0 : Int32)), .val (.double (FP.l2d (p2 &&& (1048575 : Int32)).toInt64)), .second, .val (.ref b1), .unset, .unset, .unset, .unset] [(.double (FP.l2d (p3 &&& (1048575 : Int32)).toInt64)), (.ref b1)])) rfl (by rw [hml]; rfl) (Steps.refl _) (argsL := [(.double (FP.l2d (p3 &&& (1048575 : Int32)).toInt64))]) (rest := []) (lenOf pd_2 rfl) rfl (by show 2 * 0 + _ ≤ _; exact Nat.le_of_eq rfl) (hb hby at_92) (fun _ _ => ⟨rfl, rfl, (by decide : 1 + 0 ≤ _), (by decide : 3 + 0 ≤ _)⟩)
  dsimp only [Pt.U, Pt.locs, Pt.cells, Pt.slots] at X3 l3 y3 z3 st3 hQ3
  subst l3 y3 z3
  obtain ⟨rfl, N3a, e3⟩ := hQ3
  have N3 := Fr.app N2 N3a
  obtain ⟨fs, hr, hrun, hended, hW, hsame⟩ := X3.leave (v := some (.int (1 : Int32))) (fun h => by rw [Bd.returns] at h; cases h)
  refine ⟨_, _, pre0 _ ?_, hrun, hended, _, _, rfl, ?_, ⟨_, rfl⟩, hW, hsame.mono (Nat.le_of_ble_eq_true rfl) (Nat.le_of_ble_eq_true rfl)⟩
  · show Steps p.tables e below (s₁.setTop (mkF m 0 #[.val (.int p0), .val (.int p1), .val (.int p2), .val (.int p3), .val (.int p4), .unset, .unset, .unset, .unset, .unset, .unset, .unset, .unset, .unset, .unset, .unset, .unset, .unset, .unset, .unset, .unset] [])) _
    refine XS.iloadN X0.here hx rfl (hb hby at_0) rfl ?_
    show Steps p.tables e below (s₁.setTop (mkF m 1 #[.val (.int p0), .val (.int p1), .val (.int p2), .val (.int p3), .val (.int p4), .unset, .unset, .unset, .unset, .unset, .unset, .unset, .unset, .unset, .unset, .unset, .unset, .unset, .unset, .unset, .unset] [(.int p1)])) _
    refine X0.ldcInt hx hown (mvT hZ (hw _ (List.mem_of_getElem? (i := 0) rfl))) (g := (mkF m 1 #[.val (.int p0), .val (.int p1), .val (.int p2), .val (.int p3), .val (.int p4), .unset, .unset, .unset, .unset, .unset, .unset, .unset, .unset, .unset, .unset, .unset, .unset, .unset, .unset, .unset, .unset] [(.int p1)])) rfl (hb hby at_1) _ ?_
    show Steps p.tables e below (s₁.setTop (mkF m 3 #[.val (.int p0), .val (.int p1), .val (.int p2), .val (.int p3), .val (.int p4), .unset, .unset, .unset, .unset, .unset, .unset, .unset, .unset, .unset, .unset, .unset, .unset, .unset, .unset, .unset, .unset] [(.int (1048575 : Int32)), (.int p1)])) _
    refine XS.iand X0.here hx rfl (hb hby at_3) rfl ?_
    show Steps p.tables e below (s₁.setTop (mkF m 4 #[.val (.int p0), .val (.int p1), .val (.int p2), .val (.int p3), .val (.int p4), .unset, .unset, .unset, .unset, .unset, .unset, .unset, .unset, .unset, .unset, .unset, .unset, .unset, .unset, .unset, .unset] [(.int (p1 &&& (1048575 : Int32)))])) _
    refine XS.i2l X0.here hx rfl (hb hby at_4) rfl ?_
    show Steps p.tables e below (s₁.setTop (mkF m 5 #[.val (.int p0), .val (.int p1), .val (.int p2), .val (.int p3), .val (.int p4), .unset, .unset, .unset, .unset, .unset, .unset, .unset, .unset, .unset, .unset, .unset, .unset, .unset, .unset, .unset, .unset] [(.long (p1 &&& (1048575 : Int32)).toInt64)])) _
    refine XS.lstore X0.here hx rfl (hb hby at_5) rfl (l' := #[.val (.int p0), .val (.int p1), .val (.int p2), .val (.int p3), .val (.int p4), .val (.long (p1 &&& (1048575 : Int32)).toInt64), .second, .unset, .unset, .unset, .unset, .unset, .unset, .unset, .unset, .unset, .unset, .unset, .unset, .unset, .unset]) rfl ?_
    show Steps p.tables e below (s₁.setTop (mkF m 7 #[.val (.int p0), .val (.int p1), .val (.int p2), .val (.int p3), .val (.int p4), .val (.long (p1 &&& (1048575 : Int32)).toInt64), .second, .unset, .unset, .unset, .unset, .unset, .unset, .unset, .unset, .unset, .unset, .unset, .unset, .unset, .unset] [])) _
    refine XS.iloadN X0.here hx rfl (hb hby at_7) rfl ?_
    show Steps p.tables e below (s₁.setTop (mkF m 8 #[.val (.int p0), .val (.int p1), .val (.int p2), .val (.int p3), .val (.int p4), .val (.long (p1 &&& (1048575 : Int32)).toInt64), .second, .unset, .unset, .unset, .unset, .unset, .unset, .unset, .unset, .unset, .unset, .unset, .unset, .unset, .unset] [(.int p2)])) _
    refine X0.ldcInt hx hown (mvT hZ (hw _ (List.mem_of_getElem? (i := 0) rfl))) (g := (mkF m 8 #[.val (.int p0), .val (.int p1), .val (.int p2), .val (.int p3), .val (.int p4), .val (.long (p1 &&& (1048575 : Int32)).toInt64), .second, .unset, .unset, .unset, .unset, .unset, .unset, .unset, .unset, .unset, .unset, .unset, .unset, .unset, .unset] [(.int p2)])) rfl (hb hby at_8) _ ?_
    show Steps p.tables e below (s₁.setTop (mkF m 10 #[.val (.int p0), .val (.int p1), .val (.int p2), .val (.int p3), .val (.int p4), .val (.long (p1 &&& (1048575 : Int32)).toInt64), .second, .unset, .unset, .unset, .unset, .unset, .unset, .unset, .unset, .unset, .unset, .unset, .unset, .unset, .unset] [(.int (1048575 : Int32)), (.int p2)])) _
    refine XS.iand X0.here hx rfl (hb hby at_10) rfl ?_
    show Steps p.tables e below (s₁.setTop (mkF m 11 #[.val (.int p0), .val (.int p1), .val (.int p2), .val (.int p3), .val (.int p4), .val (.long (p1 &&& (1048575 : Int32)).toInt64), .second, .unset, .unset, .unset, .unset, .unset, .unset, .unset, .unset, .unset, .unset, .unset, .unset, .unset, .unset] [(.int (p2 &&& (1048575 : Int32)))])) _
    refine XS.i2l X0.here hx rfl (hb hby at_11) rfl ?_
    show Steps p.tables e below (s₁.setTop (mkF m 12 #[.val (.int p0), .val (.int p1), .val (.int p2), .val (.int p3), .val (.int p4), .val (.long (p1 &&& (1048575 : Int32)).toInt64), .second, .unset, .unset, .unset, .unset, .unset, .unset, .unset, .unset, .unset, .unset, .unset, .unset, .unset, .unset] [(.long (p2 &&& (1048575 : Int32)).toInt64)])) _
    refine XS.lstore X0.here hx rfl (hb hby at_12) rfl (l' := #[.val (.int p0), .val (.int p1), .val (.int p2), .val (.int p3), .val (.int p4), .val (.long (p1 &&& (1048575 : Int32)).toInt64), .second, .val (.long (p2 &&& (1048575 : Int32)).toInt64), .second, .unset, .unset, .unset, .unset, .unset, .unset, .unset, .unset, .unset, .unset, .unset, .unset]) rfl ?_
    show Steps p.tables e below (s₁.setTop (mkF m 14 #[.val (.int p0), .val (.int p1), .val (.int p2), .val (.int p3), .val (.int p4), .val (.long (p1 &&& (1048575 : Int32)).toInt64), .second, .val (.long (p2 &&& (1048575 : Int32)).toInt64), .second, .unset, .unset, .unset, .unset, .unset, .unset, .unset, .unset, .unset, .unset, .unset, .unset] [])) _
    refine XS.iloadN X0.here hx rfl (hb hby at_14) rfl ?_
    show Steps p.tables e below (s₁.setTop (mkF m 15 #[.val (.int p0), .val (.int p1), .val (.int p2), .val (.int p3), .val (.int p4), .val (.long (p1 &&& (1048575 : Int32)).toInt64), .second, .val (.long (p2 &&& (1048575 : Int32)).toInt64), .second, .unset, .unset, .unset, .unset, .unset, .unset, .unset, .unset, .unset, .unset, .unset, .unset] [(.int p3)])) _
    refine X0.ldcInt hx hown (mvT hZ (hw _ (List.mem_of_getElem? (i := 0) rfl))) (g := (mkF m 15 #[.val (.int p0), .val (.int p1), .val (.int p2), .val (.int p3), .val (.int p4), .val (.long (p1 &&& (1048575 : Int32)).toInt64), .second, .val (.long (p2 &&& (1048575 : Int32)).toInt64), .second, .unset, .unset, .unset, .unset, .unset, .unset, .unset, .unset, .unset, .unset, .unset, .unset] [(.int p3)])) rfl (hb hby at_15) _ ?_
    show Steps p.tables e below (s₁.setTop (mkF m 17 #[.val (.int p0), .val (.int p1), .val (.int p2), .val (.int p3), .val (.int p4), .val (.long (p1 &&& (1048575 : Int32)).toInt64), .second, .val (.long (p2 &&& (1048575 : Int32)).toInt64), .second, .unset, .unset, .unset, .unset, .unset, .unset, .unset, .unset, .unset, .unset, .unset, .unset] [(.int (1048575 : Int32)), (.int p3)])) _
    refine XS.iand X0.here hx rfl (hb hby at_17) rfl ?_
    show Steps p.tables e below (s₁.setTop (mkF m 18 #[.val (.int p0), .val (.int p1), .val (.int p2), .val (.int p3), .val (.int p4), .val (.long (p1 &&& (1048575 : Int32)).toInt64), .second, .val (.long (p2 &&& (1048575 : Int32)).toInt64), .second, .unset, .unset, .unset, .unset, .unset, .unset, .unset, .unset, .unset, .unset, .unset, .unset] [(.int (p3 &&& (1048575 : Int32)))])) _
    refine XS.i2l X0.here hx rfl (hb hby at_18) rfl ?_
    show Steps p.tables e below (s₁.setTop (mkF m 19 #[.val (.int p0), .val (.int p1), .val (.int p2), .val (.int p3), .val (.int p4), .val (.long (p1 &&& (1048575 : Int32)).toInt64), .second, .val (.long (p2 &&& (1048575 : Int32)).toInt64), .second, .unset, .unset, .unset, .unset, .unset, .unset, .unset, .unset, .unset, .unset, .unset, .unset] [(.long (p3 &&& (1048575 : Int32)).toInt64)])) _
    refine XS.lstore X0.here hx rfl (hb hby at_19) rfl (l' := #[.val (.int p0), .val (.int p1), .val (.int p2), .val (.int p3), .val (.int p4), .val (.long (p1 &&& (1048575 : Int32)).toInt64), .second, .val (.long (p2 &&& (1048575 : Int32)).toInt64), .second, .val (.long (p3 &&& (1048575 : Int32)).toInt64), .second, .unset, .unset, .unset, .unset, .unset, .unset, .unset, .unset, .unset, .unset]) rfl ?_
    show Steps p.tables e below (s₁.setTop (mkF m 21 #[.val (.int p0), .val (.int p1), .val (.int p2), .val (.int p3), .val (.int p4), .val (.long (p1 &&& (1048575 : Int32)).toInt64), .second, .val (.long (p2 &&& (1048575 : Int32)).toInt64), .second, .val (.long (p3 &&& (1048575 : Int32)).toInt64), .second, .unset, .unset, .unset, .unset, .unset, .unset, .unset, .unset, .unset, .unset] [])) _
    refine XS.iload X0.here hx rfl (hb hby at_21) rfl ?_
    show Steps p.tables e below (s₁.setTop (mkF m 23 #[.val (.int p0), .val (.int p1), .val (.int p2), .val (.int p3), .val (.int p4), .val (.long (p1 &&& (1048575 : Int32)).toInt64), .second, .val (.long (p2 &&& (1048575 : Int32)).toInt64), .second, .val (.long (p3 &&& (1048575 : Int32)).toInt64), .second, .unset, .unset, .unset, .unset, .unset, .unset, .unset, .unset, .unset, .unset] [(.int p4)])) _
    refine XS.iconst X0.here hx rfl (hb hby at_23) ?_
    show Steps p.tables e below (s₁.setTop (mkF m 24 #[.val (.int p0), .val (.int p1), .val (.int p2), .val (.int p3), .val (.int p4), .val (.long (p1 &&& (1048575 : Int32)).toInt64), .second, .val (.long (p2 &&& (1048575 : Int32)).toInt64), .second, .val (.long (p3 &&& (1048575 : Int32)).toInt64), .second, .unset, .unset, .unset, .unset, .unset, .unset, .unset, .unset, .unset, .unset] [(.int (1 : Int32)), (.int p4)])) _
    refine XS.iand X0.here hx rfl (hb hby at_24) rfl ?_
    show Steps p.tables e below (s₁.setTop (mkF m 25 #[.val (.int p0), .val (.int p1), .val (.int p2), .val (.int p3), .val (.int p4), .val (.long (p1 &&& (1048575 : Int32)).toInt64), .second, .val (.long (p2 &&& (1048575 : Int32)).toInt64), .second, .val (.long (p3 &&& (1048575 : Int32)).toInt64), .second, .unset, .unset, .unset, .unset, .unset, .unset, .unset, .unset, .unset, .unset] [(.int (p4 &&& (1 : Int32)))])) _
    refine XS.ifYes X0.here hx rfl (pc0 := 25) (pc' := 34) rfl (hb hby at_25) rfl b25 (by decide) (by decide) ?_
    show Steps p.tables e below (s₁.setTop (mkF m 34 #[.val (.int p0), .val (.int p1), .val (.int p2), .val (.int p3), .val (.int p4), .val (.long (p1 &&& (1048575 : Int32)).toInt64), .second, .val (.long (p2 &&& (1048575 : Int32)).toInt64), .second, .val (.long (p3 &&& (1048575 : Int32)).toInt64), .second, .unset, .unset, .unset, .unset, .unset, .unset, .unset, .unset, .unset, .unset] [])) _
    refine XS.iloadN X0.here hx rfl (hb hby at_34) rfl ?_
    show Steps p.tables e below (s₁.setTop (mkF m 35 #[.val (.int p0), .val (.int p1), .val (.int p2), .val (.int p3), .val (.int p4), .val (.long (p1 &&& (1048575 : Int32)).toInt64), .second, .val (.long (p2 &&& (1048575 : Int32)).toInt64), .second, .val (.long (p3 &&& (1048575 : Int32)).toInt64), .second, .unset, .unset, .unset, .unset, .unset, .unset, .unset, .unset, .unset, .unset] [(.int p0)])) _
    refine X0.ldcInt hx hown (mvT hZ (hw _ (List.mem_of_getElem? (i := 0) rfl))) (g := (mkF m 35 #[.val (.int p0), .val (.int p1), .val (.int p2), .val (.int p3), .val (.int p4), .val (.long (p1 &&& (1048575 : Int32)).toInt64), .second, .val (.long (p2 &&& (1048575 : Int32)).toInt64), .second, .val (.long (p3 &&& (1048575 : Int32)).toInt64), .second, .unset, .unset, .unset, .unset, .unset, .unset, .unset, .unset, .unset, .unset] [(.int p0)])) rfl (hb hby at_35) _ ?_
    show Steps p.tables e below (s₁.setTop (mkF m 37 #[.val (.int p0), .val (.int p1), .val (.int p2), .val (.int p3), .val (.int p4), .val (.long (p1 &&& (1048575 : Int32)).toInt64), .second, .val (.long (p2 &&& (1048575 : Int32)).toInt64), .second, .val (.long (p3 &&& (1048575 : Int32)).toInt64), .second, .unset, .unset, .unset, .unset, .unset, .unset, .unset, .unset, .unset, .unset] [(.int (1048575 : Int32)), (.int p0)])) _
    refine XS.iand X0.here hx rfl (hb hby at_37) rfl ?_
    show Steps p.tables e below (s₁.setTop (mkF m 38 #[.val (.int p0), .val (.int p1), .val (.int p2), .val (.int p3), .val (.int p4), .val (.long (p1 &&& (1048575 : Int32)).toInt64), .second, .val (.long (p2 &&& (1048575 : Int32)).toInt64), .second, .val (.long (p3 &&& (1048575 : Int32)).toInt64), .second, .unset, .unset, .unset, .unset, .unset, .unset, .unset, .unset, .unset, .unset] [(.int (p0 &&& (1048575 : Int32)))])) _
    refine XS.i2dS X0.here hx rfl (hb hby at_38) rfl rfl ?_
    show Steps p.tables e below (s₁.setTop (mkF m 39 #[.val (.int p0), .val (.int p1), .val (.int p2), .val (.int p3), .val (.int p4), .val (.long (p1 &&& (1048575 : Int32)).toInt64), .second, .val (.long (p2 &&& (1048575 : Int32)).toInt64), .second, .val (.long (p3 &&& (1048575 : Int32)).toInt64), .second, .unset, .unset, .unset, .unset, .unset, .unset, .unset, .unset, .unset, .unset] [(.double (FP.i2d (p0 &&& (1048575 : Int32))))])) _
    refine XS.dstore X0.here hx rfl (hb hby at_39) rfl (l' := #[.val (.int p0), .val (.int p1), .val (.int p2), .val (.int p3), .val (.int p4), .val (.long (p1 &&& (1048575 : Int32)).toInt64), .second, .val (.long (p2 &&& (1048575 : Int32)).toInt64), .second, .val (.long (p3 &&& (1048575 : Int32)).toInt64), .second, .val (.double (FP.i2d (p0 &&& (1048575 : Int32)))), .second, .unset, .unset, .unset, .unset, .unset, .unset, .unset, .unset]) rfl ?_
    show Steps p.tables e below (s₁.setTop (mkF m 41 #[.val (.int p0), .val (.int p1), .val (.int p2), .val (.int p3), .val (.int p4), .val (.long (p1 &&& (1048575 : Int32)).toInt64), .second, .val (.long (p2 &&& (1048575 : Int32)).toInt64), .second, .val (.long (p3 &&& (1048575 : Int32)).toInt64), .second, .val (.double (FP.i2d (p0 &&& (1048575 : Int32)))), .second, .unset, .unset, .unset, .unset, .unset, .unset, .unset, .unset] [])) _
    refine XS.iload X0.here hx rfl (hb hby at_41) rfl ?_
    show Steps p.tables e below (s₁.setTop (mkF m 43 #[.val (.int p0), .val (.int p1), .val (.int p2), .val (.int p3), .val (.int p4), .val (.long (p1 &&& (1048575 : Int32)).toInt64), .second, .val (.long (p2 &&& (1048575 : Int32)).toInt64), .second, .val (.long (p3 &&& (1048575 : Int32)).toInt64), .second, .val (.double (FP.i2d (p0 &&& (1048575 : Int32)))), .second, .unset, .unset, .unset, .unset, .unset, .unset, .unset, .unset] [(.int p4)])) _
    refine XS.iconst X0.here hx rfl (hb hby at_43) ?_
    show Steps p.tables e below (s₁.setTop (mkF m 44 #[.val (.int p0), .val (.int p1), .val (.int p2), .val (.int p3), .val (.int p4), .val (.long (p1 &&& (1048575 : Int32)).toInt64), .second, .val (.long (p2 &&& (1048575 : Int32)).toInt64), .second, .val (.long (p3 &&& (1048575 : Int32)).toInt64), .second, .val (.double (FP.i2d (p0 &&& (1048575 : Int32)))), .second, .unset, .unset, .unset, .unset, .unset, .unset, .unset, .unset] [(.int (2 : Int32)), (.int p4)])) _
    refine XS.iand X0.here hx rfl (hb hby at_44) rfl ?_
    show Steps p.tables e below (s₁.setTop (mkF m 45 #[.val (.int p0), .val (.int p1), .val (.int p2), .val (.int p3), .val (.int p4), .val (.long (p1 &&& (1048575 : Int32)).toInt64), .second, .val (.long (p2 &&& (1048575 : Int32)).toInt64), .second, .val (.long (p3 &&& (1048575 : Int32)).toInt64), .second, .val (.double (FP.i2d (p0 &&& (1048575 : Int32)))), .second, .unset, .unset, .unset, .unset, .unset, .unset, .unset, .unset] [(.int (p4 &&& (2 : Int32)))])) _
    refine XS.ifYes X0.here hx rfl (pc0 := 45) (pc' := 52) rfl (hb hby at_45) rfl b45 (by decide) (by decide) ?_
    show Steps p.tables e below (s₁.setTop (mkF m 52 #[.val (.int p0), .val (.int p1), .val (.int p2), .val (.int p3), .val (.int p4), .val (.long (p1 &&& (1048575 : Int32)).toInt64), .second, .val (.long (p2 &&& (1048575 : Int32)).toInt64), .second, .val (.long (p3 &&& (1048575 : Int32)).toInt64), .second, .val (.double (FP.i2d (p0 &&& (1048575 : Int32)))), .second, .unset, .unset, .unset, .unset, .unset, .unset, .unset, .unset] [])) _
    refine XS.iconst X0.here hx rfl (hb hby at_52) ?_
    show Steps p.tables e below (s₁.setTop (mkF m 53 #[.val (.int p0), .val (.int p1), .val (.int p2), .val (.int p3), .val (.int p4), .val (.long (p1 &&& (1048575 : Int32)).toInt64), .second, .val (.long (p2 &&& (1048575 : Int32)).toInt64), .second, .val (.long (p3 &&& (1048575 : Int32)).toInt64), .second, .val (.double (FP.i2d (p0 &&& (1048575 : Int32)))), .second, .unset, .unset, .unset, .unset, .unset, .unset, .unset, .unset] [(.int (0 : Int32))])) _
    refine XS.istore X0.here hx rfl (hb hby at_53) rfl (l' := #[.val (.int p0), .val (.int p1), .val (.int p2), .val (.int p3), .val (.int p4), .val (.long (p1 &&& (1048575 : Int32)).toInt64), .second, .val (.long (p2 &&& (1048575 : Int32)).toInt64), .second, .val (.long (p3 &&& (1048575 : Int32)).toInt64), .second, .val (.double (FP.i2d (p0 &&& (1048575 : Int32)))), .second, .val (.int (0 : Int32)), .unset, .unset, .unset, .unset, .unset, .unset, .unset]) rfl ?_
    show Steps p.tables e below (s₁.setTop (mkF m 55 #[.val (.int p0), .val (.int p1), .val (.int p2), .val (.int p3), .val (.int p4), .val (.long (p1 &&& (1048575 : Int32)).toInt64), .second, .val (.long (p2 &&& (1048575 : Int32)).toInt64), .second, .val (.long (p3 &&& (1048575 : Int32)).toInt64), .second, .val (.double (FP.i2d (p0 &&& (1048575 : Int32)))), .second, .val (.int (0 : Int32)), .unset, .unset, .unset, .unset, .unset, .unset, .unset] [])) _
    refine XS.iload X0.here hx rfl (hb hby at_55) rfl ?_
    show Steps p.tables e below (s₁.setTop (mkF m 57 #[.val (.int p0), .val (.int p1), .val (.int p2), .val (.int p3), .val (.int p4), .val (.long (p1 &&& (1048575 : Int32)).toInt64), .second, .val (.long (p2 &&& (1048575 : Int32)).toInt64), .second, .val (.long (p3 &&& (1048575 : Int32)).toInt64), .second, .val (.double (FP.i2d (p0 &&& (1048575 : Int32)))), .second, .val (.int (0 : Int32)), .unset, .unset, .unset, .unset, .unset, .unset, .unset] [(.int (0 : Int32))])) _
    refine XS.ifYes X0.here hx rfl (pc0 := 57) (pc' := 66) rfl (hb hby at_57) rfl (by decide) (by decide) (by decide) ?_
    show Steps p.tables e below (s₁.setTop (mkF m 66 #[.val (.int p0), .val (.int p1), .val (.int p2), .val (.int p3), .val (.int p4), .val (.long (p1 &&& (1048575 : Int32)).toInt64), .second, .val (.long (p2 &&& (1048575 : Int32)).toInt64), .second, .val (.long (p3 &&& (1048575 : Int32)).toInt64), .second, .val (.double (FP.i2d (p0 &&& (1048575 : Int32)))), .second, .val (.int (0 : Int32)), .unset, .unset, .unset, .unset, .unset, .unset, .unset] [])) _
    refine XS.lload X0.here hx rfl (hb hby at_66) rfl ?_
    show Steps p.tables e below (s₁.setTop (mkF m 68 #[.val (.int p0), .val (.int p1), .val (.int p2), .val (.int p3), .val (.int p4), .val (.long (p1 &&& (1048575 : Int32)).toInt64), .second, .val (.long (p2 &&& (1048575 : Int32)).toInt64), .second, .val (.long (p3 &&& (1048575 : Int32)).toInt64), .second, .val (.double (FP.i2d (p0 &&& (1048575 : Int32)))), .second, .val (.int (0 : Int32)), .unset, .unset, .unset, .unset, .unset, .unset, .unset] [(.long (p2 &&& (1048575 : Int32)).toInt64)])) _
    refine XS.l2dS X0.here hx rfl (hb hby at_68) rfl rfl ?_
    show Steps p.tables e below (s₁.setTop (mkF m 69 #[.val (.int p0), .val (.int p1), .val (.int p2), .val (.int p3), .val (.int p4), .val (.long (p1 &&& (1048575 : Int32)).toInt64), .second, .val (.long (p2 &&& (1048575 : Int32)).toInt64), .second, .val (.long (p3 &&& (1048575 : Int32)).toInt64), .second, .val (.double (FP.i2d (p0 &&& (1048575 : Int32)))), .second, .val (.int (0 : Int32)), .unset, .unset, .unset, .unset, .unset, .unset, .unset] [(.double (FP.l2d (p2 &&& (1048575 : Int32)).toInt64))])) _
    refine XS.dstore X0.here hx rfl (hb hby at_69) rfl (l' := #[.val (.int p0), .val (.int p1), .val (.int p2), .val (.int p3), .val (.int p4), .val (.long (p1 &&& (1048575 : Int32)).toInt64), .second, .val (.long (p2 &&& (1048575 : Int32)).toInt64), .second, .val (.long (p3 &&& (1048575 : Int32)).toInt64), .second, .val (.double (FP.i2d (p0 &&& (1048575 : Int32)))), .second, .val (.int (0 : Int32)), .val (.double (FP.l2d (p2 &&& (1048575 : Int32)).toInt64)), .second, .unset, .unset, .unset, .unset, .unset]) rfl ?_
    show Steps p.tables e below (s₁.setTop (mkF m 71 #[.val (.int p0), .val (.int p1), .val (.int p2), .val (.int p3), .val (.int p4), .val (.long (p1 &&& (1048575 : Int32)).toInt64), .second, .val (.long (p2 &&& (1048575 : Int32)).toInt64), .second, .val (.long (p3 &&& (1048575 : Int32)).toInt64), .second, .val (.double (FP.i2d (p0 &&& (1048575 : Int32)))), .second, .val (.int (0 : Int32)), .val (.double (FP.l2d (p2 &&& (1048575 : Int32)).toInt64)), .second, .unset, .unset, .unset, .unset, .unset] [])) _
    refine st1 _ ?_
    show Steps p.tables e below (T1.setTop (mkF m 74 #[.val (.int p0), .val (.int p1), .val (.int p2), .val (.int p3), .val (.int p4), .val (.long (p1 &&& (1048575 : Int32)).toInt64), .second, .val (.long (p2 &&& (1048575 : Int32)).toInt64), .second, .val (.long (p3 &&& (1048575 : Int32)).toInt64), .second, .val (.double (FP.i2d (p0 &&& (1048575 : Int32)))), .second, .val (.int (0 : Int32)), .val (.double (FP.l2d (p2 &&& (1048575 : Int32)).toInt64)), .second, .unset, .unset, .unset, .unset, .unset] [(.ref b1)])) _
    refine XS.dup X1.here hx rfl (hb hby at_74) rfl rfl ?_
    show Steps p.tables e below (T1.setTop (mkF m 75 #[.val (.int p0), .val (.int p1), .val (.int p2), .val (.int p3), .val (.int p4), .val (.long (p1 &&& (1048575 : Int32)).toInt64), .second, .val (.long (p2 &&& (1048575 : Int32)).toInt64), .second, .val (.long (p3 &&& (1048575 : Int32)).toInt64), .second, .val (.double (FP.i2d (p0 &&& (1048575 : Int32)))), .second, .val (.int (0 : Int32)), .val (.double (FP.l2d (p2 &&& (1048575 : Int32)).toInt64)), .second, .unset, .unset, .unset, .unset, .unset] [(.ref b1), (.ref b1)])) _
    refine XS.dload X1.here hx rfl (hb hby at_75) rfl ?_
    show Steps p.tables e below (T1.setTop (mkF m 77 #[.val (.int p0), .val (.int p1), .val (.int p2), .val (.int p3), .val (.int p4), .val (.long (p1 &&& (1048575 : Int32)).toInt64), .second, .val (.long (p2 &&& (1048575 : Int32)).toInt64), .second, .val (.long (p3 &&& (1048575 : Int32)).toInt64), .second, .val (.double (FP.i2d (p0 &&& (1048575 : Int32)))), .second, .val (.int (0 : Int32)), .val (.double (FP.l2d (p2 &&& (1048575 : Int32)).toInt64)), .second, .unset, .unset, .unset, .unset, .unset] [(.double (FP.i2d (p0 &&& (1048575 : Int32)))), (.ref b1), (.ref b1)])) _
    refine XS.lload X1.here hx rfl (hb hby at_77) rfl ?_
    show Steps p.tables e below (T1.setTop (mkF m 79 #[.val (.int p0), .val (.int p1), .val (.int p2), .val (.int p3), .val (.int p4), .val (.long (p1 &&& (1048575 : Int32)).toInt64), .second, .val (.long (p2 &&& (1048575 : Int32)).toInt64), .second, .val (.long (p3 &&& (1048575 : Int32)).toInt64), .second, .val (.double (FP.i2d (p0 &&& (1048575 : Int32)))), .second, .val (.int (0 : Int32)), .val (.double (FP.l2d (p2 &&& (1048575 : Int32)).toInt64)), .second, .unset, .unset, .unset, .unset, .unset] [(.long (p1 &&& (1048575 : Int32)).toInt64), (.double (FP.i2d (p0 &&& (1048575 : Int32)))), (.ref b1), (.ref b1)])) _
    refine XS.l2dS X1.here hx rfl (hb hby at_79) rfl rfl ?_
    show Steps p.tables e below (T1.setTop (mkF m 80 #[.val (.int p0), .val (.int p1), .val (.int p2), .val (.int p3), .val (.int p4), .val (.long (p1 &&& (1048575 : Int32)).toInt64), .second, .val (.long (p2 &&& (1048575 : Int32)).toInt64), .second, .val (.long (p3 &&& (1048575 : Int32)).toInt64), .second, .val (.double (FP.i2d (p0 &&& (1048575 : Int32)))), .second, .val (.int (0 : Int32)), .val (.double (FP.l2d (p2 &&& (1048575 : Int32)).toInt64)), .second, .unset, .unset, .unset, .unset, .unset] [(.double (FP.l2d (p1 &&& (1048575 : Int32)).toInt64)), (.double (FP.i2d (p0 &&& (1048575 : Int32)))), (.ref b1), (.ref b1)])) _
    refine XS.dload X1.here hx rfl (hb hby at_80) rfl ?_
    show Steps p.tables e below (T1.setTop (mkF m 82 #[.val (.int p0), .val (.int p1), .val (.int p2), .val (.int p3), .val (.int p4), .val (.long (p1 &&& (1048575 : Int32)).toInt64), .second, .val (.long (p2 &&& (1048575 : Int32)).toInt64), .second, .val (.long (p3 &&& (1048575 : Int32)).toInt64), .second, .val (.double (FP.i2d (p0 &&& (1048575 : Int32)))), .second, .val (.int (0 : Int32)), .val (.double (FP.l2d (p2 &&& (1048575 : Int32)).toInt64)), .second, .unset, .unset, .unset, .unset, .unset] [(.double (FP.l2d (p2 &&& (1048575 : Int32)).toInt64)), (.double (FP.l2d (p1 &&& (1048575 : Int32)).toInt64)), (.double (FP.i2d (p0 &&& (1048575 : Int32)))), (.ref b1), (.ref b1)])) _
    refine st2.trans ?_
    show Steps p.tables e below (T2.setTop (mkF m 85 #[.val (.int p0), .val (.int p1), .val (.int p2), .val (.int p3), .val (.int p4), .val (.long (p1 &&& (1048575 : Int32)).toInt64), .second, .val (.long (p2 &&& (1048575 : Int32)).toInt64), .second, .val (.long (p3 &&& (1048575 : Int32)).toInt64), .second, .val (.double (FP.i2d (p0 &&& (1048575 : Int32)))), .second, .val (.int (0 : Int32)), .val (.double (FP.l2d (p2 &&& (1048575 : Int32)).toInt64)), .second, .unset, .unset, .unset, .unset, .unset] [(.ref b1)])) _
    refine XS.astore X2.here hx rfl (hb hby at_85) rfl rfl (l' := #[.val (.int p0), .val (.int p1), .val (.int p2), .val (.int p3), .val (.int p4), .val (.long (p1 &&& (1048575 : Int32)).toInt64), .second, .val (.long (p2 &&& (1048575 : Int32)).toInt64), .second, .val (.long (p3 &&& (1048575 : Int32)).toInt64), .second, .val (.double (FP.i2d (p0 &&& (1048575 : Int32)))), .second, .val (.int (0 : Int32)), .val (.double (FP.l2d (p2 &&& (1048575 : Int32)).toInt64)), .second, .val (.ref b1), .unset, .unset, .unset, .unset]) rfl ?_
    show Steps p.tables e below (T2.setTop (mkF m 87 #[.val (.int p0), .val (.int p1), .val (.int p2), .val (.int p3), .val (.int p4), .val (.long (p1 &&& (1048575 : Int32)).toInt64), .second, .val (.long (p2 &&& (1048575 : Int32)).toInt64), .second, .val (.long (p3 &&& (1048575 : Int32)).toInt64), .second, .val (.double (FP.i2d (p0 &&& (1048575 : Int32)))), .second, .val (.int (0 : Int32)), .val (.double (FP.l2d (p2 &&& (1048575 : Int32)).toInt64)), .second, .val (.ref b1), .unset, .unset, .unset, .unset] [])) _
    refine XS.aload X2.here hx rfl (hb hby at_87) rfl rfl ?_
    show Steps p.tables e below (T2.setTop (mkF m 89 #[.val (.int p0), .val (.int p1), .val (.int p2), .val (.int p3), .val (.int p4), .val (.long (p1 &&& (1048575 : Int32)).toInt64), .second, .val (.long (p2 &&& (1048575 : Int32)).toInt64), .second, .val (.long (p3 &&& (1048575 : Int32)).toInt64), .second, .val (.double (FP.i2d (p0 &&& (1048575 : Int32)))), .second, .val (.int (0 : Int32)), .val (.double (FP.l2d (p2 &&& (1048575 : Int32)).toInt64)), .second, .val (.ref b1), .unset, .unset, .unset, .unset] [(.ref b1)])) _
    refine XS.lload X2.here hx rfl (hb hby at_89) rfl ?_
    show Steps p.tables e below (T2.setTop (mkF m 91 #[.val (.int p0), .val (.int p1), .val (.int p2), .val (.int p3), .val (.int p4), .val (.long (p1 &&& (1048575 : Int32)).toInt64), .second, .val (.long (p2 &&& (1048575 : Int32)).toInt64), .second, .val (.long (p3 &&& (1048575 : Int32)).toInt64), .second, .val (.double (FP.i2d (p0 &&& (1048575 : Int32)))), .second, .val (.int (0 : Int32)), .val (.double (FP.l2d (p2 &&& (1048575 : Int32)).toInt64)), .second, .val (.ref b1), .unset, .unset, .unset, .unset] [(.long (p3 &&& (1048575 : Int32)).toInt64), (.ref b1)])) _
    refine XS.l2dS X2.here hx rfl (hb hby at_91) rfl rfl ?_
    show Steps p.tables e below (T2.setTop (mkF m 92 #[.val (.int p0), .val (.int p1), .val (.int p2), .val (.int p3), .val (.int p4), .val (.long (p1 &&& (1048575 : Int32)).toInt64), .second, .val (.long (p2 &&& (1048575 : Int32)).toInt64), .second, .val (.long (p3 &&& (1048575 : Int32)).toInt64), .second, .val (.double (FP.i2d (p0 &&& (1048575 : Int32)))), .second, .val (.int (0 : Int32)), .val (.double (FP.l2d (p2 &&& (1048575 : Int32)).toInt64)), .second, .val (.ref b1), .unset, .unset, .unset, .unset] [(.double (FP.l2d (p3 &&& (1048575 : Int32)).toInt64)), (.ref b1)])) _
    refine st3.trans ?_
    show Steps p.tables e below (T3.setTop (mkF m 95 #[.val (.int p0), .val (.int p1), .val (.int p2), .val (.int p3), .val (.int p4), .val (.long (p1 &&& (1048575 : Int32)).toInt64), .second, .val (.long (p2 &&& (1048575 : Int32)).toInt64), .second, .val (.long (p3 &&& (1048575 : Int32)).toInt64), .second, .val (.double (FP.i2d (p0 &&& (1048575 : Int32)))), .second, .val (.int (0 : Int32)), .val (.double (FP.l2d (p2 &&& (1048575 : Int32)).toInt64)), .second, .val (.ref b1), .unset, .unset, .unset, .unset] [(.double (FP.dadd (FP.dmul (FP.l2d (p1 &&& (1048575 : Int32)).toInt64) (FP.l2d (p3 &&& (1048575 : Int32)).toInt64)) (FP.l2d (p2 &&& (1048575 : Int32)).toInt64)))])) _
    refine XS.dstore X3.here hx rfl (hb hby at_95) rfl (l' := #[.val (.int p0), .val (.int p1), .val (.int p2), .val (.int p3), .val (.int p4), .val (.long (p1 &&& (1048575 : Int32)).toInt64), .second, .val (.long (p2 &&& (1048575 : Int32)).toInt64), .second, .val (.long (p3 &&& (1048575 : Int32)).toInt64), .second, .val (.double (FP.i2d (p0 &&& (1048575 : Int32)))), .second, .val (.int (0 : Int32)), .val (.double (FP.l2d (p2 &&& (1048575 : Int32)).toInt64)), .second, .val (.ref b1), .val (.double (FP.dadd (FP.dmul (FP.l2d (p1 &&& (1048575 : Int32)).toInt64) (FP.l2d (p3 &&& (1048575 : Int32)).toInt64)) (FP.l2d (p2 &&& (1048575 : Int32)).toInt64))), .second, .unset, .unset]) rfl ?_
    show Steps p.tables e below (T3.setTop (mkF m 97 #[.val (.int p0), .val (.int p1), .val (.int p2), .val (.int p3), .val (.int p4), .val (.long (p1 &&& (1048575 : Int32)).toInt64), .second, .val (.long (p2 &&& (1048575 : Int32)).toInt64), .second, .val (.long (p3 &&& (1048575 : Int32)).toInt64), .second, .val (.double (FP.i2d (p0 &&& (1048575 : Int32)))), .second, .val (.int (0 : Int32)), .val (.double (FP.l2d (p2 &&& (1048575 : Int32)).toInt64)), .second, .val (.ref b1), .val (.double (FP.dadd (FP.dmul (FP.l2d (p1 &&& (1048575 : Int32)).toInt64) (FP.l2d (p3 &&& (1048575 : Int32)).toInt64)) (FP.l2d (p2 &&& (1048575 : Int32)).toInt64))), .second, .unset, .unset] [])) _
    refine XS.iload X3.here hx rfl (hb hby at_97) rfl ?_
    show Steps p.tables e below (T3.setTop (mkF m 99 #[.val (.int p0), .val (.int p1), .val (.int p2), .val (.int p3), .val (.int p4), .val (.long (p1 &&& (1048575 : Int32)).toInt64), .second, .val (.long (p2 &&& (1048575 : Int32)).toInt64), .second, .val (.long (p3 &&& (1048575 : Int32)).toInt64), .second, .val (.double (FP.i2d (p0 &&& (1048575 : Int32)))), .second, .val (.int (0 : Int32)), .val (.double (FP.l2d (p2 &&& (1048575 : Int32)).toInt64)), .second, .val (.ref b1), .val (.double (FP.dadd (FP.dmul (FP.l2d (p1 &&& (1048575 : Int32)).toInt64) (FP.l2d (p3 &&& (1048575 : Int32)).toInt64)) (FP.l2d (p2 &&& (1048575 : Int32)).toInt64))), .second, .unset, .unset] [(.int (0 : Int32))])) _
    refine XS.ifYes X3.here hx rfl (pc0 := 99) (pc' := 117) rfl (hb hby at_99) rfl (by decide) (by decide) (by decide) ?_
    show Steps p.tables e below (T3.setTop (mkF m 117 #[.val (.int p0), .val (.int p1), .val (.int p2), .val (.int p3), .val (.int p4), .val (.long (p1 &&& (1048575 : Int32)).toInt64), .second, .val (.long (p2 &&& (1048575 : Int32)).toInt64), .second, .val (.long (p3 &&& (1048575 : Int32)).toInt64), .second, .val (.double (FP.i2d (p0 &&& (1048575 : Int32)))), .second, .val (.int (0 : Int32)), .val (.double (FP.l2d (p2 &&& (1048575 : Int32)).toInt64)), .second, .val (.ref b1), .val (.double (FP.dadd (FP.dmul (FP.l2d (p1 &&& (1048575 : Int32)).toInt64) (FP.l2d (p3 &&& (1048575 : Int32)).toInt64)) (FP.l2d (p2 &&& (1048575 : Int32)).toInt64))), .second, .unset, .unset] [])) _
    refine XS.lload X3.here hx rfl (hb hby at_117) rfl ?_
    show Steps p.tables e below (T3.setTop (mkF m 119 #[.val (.int p0), .val (.int p1), .val (.int p2), .val (.int p3), .val (.int p4), .val (.long (p1 &&& (1048575 : Int32)).toInt64), .second, .val (.long (p2 &&& (1048575 : Int32)).toInt64), .second, .val (.long (p3 &&& (1048575 : Int32)).toInt64), .second, .val (.double (FP.i2d (p0 &&& (1048575 : Int32)))), .second, .val (.int (0 : Int32)), .val (.double (FP.l2d (p2 &&& (1048575 : Int32)).toInt64)), .second, .val (.ref b1), .val (.double (FP.dadd (FP.dmul (FP.l2d (p1 &&& (1048575 : Int32)).toInt64) (FP.l2d (p3 &&& (1048575 : Int32)).toInt64)) (FP.l2d (p2 &&& (1048575 : Int32)).toInt64))), .second, .unset, .unset] [(.long (p1 &&& (1048575 : Int32)).toInt64)])) _
    refine XS.lload X3.here hx rfl (hb hby at_119) rfl ?_
    show Steps p.tables e below (T3.setTop (mkF m 121 #[.val (.int p0), .val (.int p1), .val (.int p2), .val (.int p3), .val (.int p4), .val (.long (p1 &&& (1048575 : Int32)).toInt64), .second, .val (.long (p2 &&& (1048575 : Int32)).toInt64), .second, .val (.long (p3 &&& (1048575 : Int32)).toInt64), .second, .val (.double (FP.i2d (p0 &&& (1048575 : Int32)))), .second, .val (.int (0 : Int32)), .val (.double (FP.l2d (p2 &&& (1048575 : Int32)).toInt64)), .second, .val (.ref b1), .val (.double (FP.dadd (FP.dmul (FP.l2d (p1 &&& (1048575 : Int32)).toInt64) (FP.l2d (p3 &&& (1048575 : Int32)).toInt64)) (FP.l2d (p2 &&& (1048575 : Int32)).toInt64))), .second, .unset, .unset] [(.long (p3 &&& (1048575 : Int32)).toInt64), (.long (p1 &&& (1048575 : Int32)).toInt64)])) _
    refine XS.lmul X3.here hx rfl (hb hby at_121) rfl ?_
    show Steps p.tables e below (T3.setTop (mkF m 122 #[.val (.int p0), .val (.int p1), .val (.int p2), .val (.int p3), .val (.int p4), .val (.long (p1 &&& (1048575 : Int32)).toInt64), .second, .val (.long (p2 &&& (1048575 : Int32)).toInt64), .second, .val (.long (p3 &&& (1048575 : Int32)).toInt64), .second, .val (.double (FP.i2d (p0 &&& (1048575 : Int32)))), .second, .val (.int (0 : Int32)), .val (.double (FP.l2d (p2 &&& (1048575 : Int32)).toInt64)), .second, .val (.ref b1), .val (.double (FP.dadd (FP.dmul (FP.l2d (p1 &&& (1048575 : Int32)).toInt64) (FP.l2d (p3 &&& (1048575 : Int32)).toInt64)) (FP.l2d (p2 &&& (1048575 : Int32)).toInt64))), .second, .unset, .unset] [(.long ((p1 &&& (1048575 : Int32)).toInt64 * (p3 &&& (1048575 : Int32)).toInt64))])) _
    refine XS.lload X3.here hx rfl (hb hby at_122) rfl ?_
    show Steps p.tables e below (T3.setTop (mkF m 124 #[.val (.int p0), .val (.int p1), .val (.int p2), .val (.int p3), .val (.int p4), .val (.long (p1 &&& (1048575 : Int32)).toInt64), .second, .val (.long (p2 &&& (1048575 : Int32)).toInt64), .second, .val (.long (p3 &&& (1048575 : Int32)).toInt64), .second, .val (.double (FP.i2d (p0 &&& (1048575 : Int32)))), .second, .val (.int (0 : Int32)), .val (.double (FP.l2d (p2 &&& (1048575 : Int32)).toInt64)), .second, .val (.ref b1), .val (.double (FP.dadd (FP.dmul (FP.l2d (p1 &&& (1048575 : Int32)).toInt64) (FP.l2d (p3 &&& (1048575 : Int32)).toInt64)) (FP.l2d (p2 &&& (1048575 : Int32)).toInt64))), .second, .unset, .unset] [(.long (p2 &&& (1048575 : Int32)).toInt64), (.long ((p1 &&& (1048575 : Int32)).toInt64 * (p3 &&& (1048575 : Int32)).toInt64))])) _
    refine XS.ladd X3.here hx rfl (hb hby at_124) rfl ?_
    show Steps p.tables e below (T3.setTop (mkF m 125 #[.val (.int p0), .val (.int p1), .val (.int p2), .val (.int p3), .val (.int p4), .val (.long (p1 &&& (1048575 : Int32)).toInt64), .second, .val (.long (p2 &&& (1048575 : Int32)).toInt64), .second, .val (.long (p3 &&& (1048575 : Int32)).toInt64), .second, .val (.double (FP.i2d (p0 &&& (1048575 : Int32)))), .second, .val (.int (0 : Int32)), .val (.double (FP.l2d (p2 &&& (1048575 : Int32)).toInt64)), .second, .val (.ref b1), .val (.double (FP.dadd (FP.dmul (FP.l2d (p1 &&& (1048575 : Int32)).toInt64) (FP.l2d (p3 &&& (1048575 : Int32)).toInt64)) (FP.l2d (p2 &&& (1048575 : Int32)).toInt64))), .second, .unset, .unset] [(.long (((p1 &&& (1048575 : Int32)).toInt64 * (p3 &&& (1048575 : Int32)).toInt64) + (p2 &&& (1048575 : Int32)).toInt64))])) _
    refine XS.lstore X3.here hx rfl (hb hby at_125) rfl (l' := #[.val (.int p0), .val (.int p1), .val (.int p2), .val (.int p3), .val (.int p4), .val (.long (p1 &&& (1048575 : Int32)).toInt64), .second, .val (.long (p2 &&& (1048575 : Int32)).toInt64), .second, .val (.long (p3 &&& (1048575 : Int32)).toInt64), .second, .val (.double (FP.i2d (p0 &&& (1048575 : Int32)))), .second, .val (.int (0 : Int32)), .val (.double (FP.l2d (p2 &&& (1048575 : Int32)).toInt64)), .second, .val (.ref b1), .val (.double (FP.dadd (FP.dmul (FP.l2d (p1 &&& (1048575 : Int32)).toInt64) (FP.l2d (p3 &&& (1048575 : Int32)).toInt64)) (FP.l2d (p2 &&& (1048575 : Int32)).toInt64))), .second, .val (.long (((p1 &&& (1048575 : Int32)).toInt64 * (p3 &&& (1048575 : Int32)).toInt64) + (p2 &&& (1048575 : Int32)).toInt64)), .second]) rfl ?_
    show Steps p.tables e below (T3.setTop (mkF m 127 #[.val (.int p0), .val (.int p1), .val (.int p2), .val (.int p3), .val (.int p4), .val (.long (p1 &&& (1048575 : Int32)).toInt64), .second, .val (.long (p2 &&& (1048575 : Int32)).toInt64), .second, .val (.long (p3 &&& (1048575 : Int32)).toInt64), .second, .val (.double (FP.i2d (p0 &&& (1048575 : Int32)))), .second, .val (.int (0 : Int32)), .val (.double (FP.l2d (p2 &&& (1048575 : Int32)).toInt64)), .second, .val (.ref b1), .val (.double (FP.dadd (FP.dmul (FP.l2d (p1 &&& (1048575 : Int32)).toInt64) (FP.l2d (p3 &&& (1048575 : Int32)).toInt64)) (FP.l2d (p2 &&& (1048575 : Int32)).toInt64))), .second, .val (.long (((p1 &&& (1048575 : Int32)).toInt64 * (p3 &&& (1048575 : Int32)).toInt64) + (p2 &&& (1048575 : Int32)).toInt64)), .second] [])) _
    refine XS.dload X3.here hx rfl (hb hby at_127) rfl ?_
    show Steps p.tables e below (T3.setTop (mkF m 129 #[.val (.int p0), .val (.int p1), .val (.int p2), .val (.int p3), .val (.int p4), .val (.long (p1 &&& (1048575 : Int32)).toInt64), .second, .val (.long (p2 &&& (1048575 : Int32)).toInt64), .second, .val (.long (p3 &&& (1048575 : Int32)).toInt64), .second, .val (.double (FP.i2d (p0 &&& (1048575 : Int32)))), .second, .val (.int (0 : Int32)), .val (.double (FP.l2d (p2 &&& (1048575 : Int32)).toInt64)), .second, .val (.ref b1), .val (.double (FP.dadd (FP.dmul (FP.l2d (p1 &&& (1048575 : Int32)).toInt64) (FP.l2d (p3 &&& (1048575 : Int32)).toInt64)) (FP.l2d (p2 &&& (1048575 : Int32)).toInt64))), .second, .val (.long (((p1 &&& (1048575 : Int32)).toInt64 * (p3 &&& (1048575 : Int32)).toInt64) + (p2 &&& (1048575 : Int32)).toInt64)), .second] [(.double (FP.dadd (FP.dmul (FP.l2d (p1 &&& (1048575 : Int32)).toInt64) (FP.l2d (p3 &&& (1048575 : Int32)).toInt64)) (FP.l2d (p2 &&& (1048575 : Int32)).toInt64)))])) _
    refine XS.lload X3.here hx rfl (hb hby at_129) rfl ?_
    show Steps p.tables e below (T3.setTop (mkF m 131 #[.val (.int p0), .val (.int p1), .val (.int p2), .val (.int p3), .val (.int p4), .val (.long (p1 &&& (1048575 : Int32)).toInt64), .second, .val (.long (p2 &&& (1048575 : Int32)).toInt64), .second, .val (.long (p3 &&& (1048575 : Int32)).toInt64), .second, .val (.double (FP.i2d (p0 &&& (1048575 : Int32)))), .second, .val (.int (0 : Int32)), .val (.double (FP.l2d (p2 &&& (1048575 : Int32)).toInt64)), .second, .val (.ref b1), .val (.double (FP.dadd (FP.dmul (FP.l2d (p1 &&& (1048575 : Int32)).toInt64) (FP.l2d (p3 &&& (1048575 : Int32)).toInt64)) (FP.l2d (p2 &&& (1048575 : Int32)).toInt64))), .second, .val (.long (((p1 &&& (1048575 : Int32)).toInt64 * (p3 &&& (1048575 : Int32)).toInt64) + (p2 &&& (1048575 : Int32)).toInt64)), .second] [(.long (((p1 &&& (1048575 : Int32)).toInt64 * (p3 &&& (1048575 : Int32)).toInt64) + (p2 &&& (1048575 : Int32)).toInt64)), (.double (FP.dadd (FP.dmul (FP.l2d (p1 &&& (1048575 : Int32)).toInt64) (FP.l2d (p3 &&& (1048575 : Int32)).toInt64)) (FP.l2d (p2 &&& (1048575 : Int32)).toInt64)))])) _
    refine XS.l2dS X3.here hx rfl (hb hby at_131) rfl rfl ?_
    show Steps p.tables e below (T3.setTop (mkF m 132 #[.val (.int p0), .val (.int p1), .val (.int p2), .val (.int p3), .val (.int p4), .val (.long (p1 &&& (1048575 : Int32)).toInt64), .second, .val (.long (p2 &&& (1048575 : Int32)).toInt64), .second, .val (.long (p3 &&& (1048575 : Int32)).toInt64), .second, .val (.double (FP.i2d (p0 &&& (1048575 : Int32)))), .second, .val (.int (0 : Int32)), .val (.double (FP.l2d (p2 &&& (1048575 : Int32)).toInt64)), .second, .val (.ref b1), .val (.double (FP.dadd (FP.dmul (FP.l2d (p1 &&& (1048575 : Int32)).toInt64) (FP.l2d (p3 &&& (1048575 : Int32)).toInt64)) (FP.l2d (p2 &&& (1048575 : Int32)).toInt64))), .second, .val (.long (((p1 &&& (1048575 : Int32)).toInt64 * (p3 &&& (1048575 : Int32)).toInt64) + (p2 &&& (1048575 : Int32)).toInt64)), .second] [(.double (FP.l2d (((p1 &&& (1048575 : Int32)).toInt64 * (p3 &&& (1048575 : Int32)).toInt64) + (p2 &&& (1048575 : Int32)).toInt64))), (.double (FP.dadd (FP.dmul (FP.l2d (p1 &&& (1048575 : Int32)).toInt64) (FP.l2d (p3 &&& (1048575 : Int32)).toInt64)) (FP.l2d (p2 &&& (1048575 : Int32)).toInt64)))])) _
    refine XS.dcmpS X3.here hx rfl (hb hby at_132) rfl (cmpV_l _) ?_
    show Steps p.tables e below (T3.setTop (mkF m 133 #[.val (.int p0), .val (.int p1), .val (.int p2), .val (.int p3), .val (.int p4), .val (.long (p1 &&& (1048575 : Int32)).toInt64), .second, .val (.long (p2 &&& (1048575 : Int32)).toInt64), .second, .val (.long (p3 &&& (1048575 : Int32)).toInt64), .second, .val (.double (FP.i2d (p0 &&& (1048575 : Int32)))), .second, .val (.int (0 : Int32)), .val (.double (FP.l2d (p2 &&& (1048575 : Int32)).toInt64)), .second, .val (.ref b1), .val (.double (FP.dadd (FP.dmul (FP.l2d (p1 &&& (1048575 : Int32)).toInt64) (FP.l2d (p3 &&& (1048575 : Int32)).toInt64)) (FP.l2d (p2 &&& (1048575 : Int32)).toInt64))), .second, .val (.long (((p1 &&& (1048575 : Int32)).toInt64 * (p3 &&& (1048575 : Int32)).toInt64) + (p2 &&& (1048575 : Int32)).toInt64)), .second] [(.int (FP.cmpInt (-1) (FP.dcmp (FP.dadd (FP.dmul (FP.l2d (p1 &&& (1048575 : Int32)).toInt64) (FP.l2d (p3 &&& (1048575 : Int32)).toInt64)) (FP.l2d (p2 &&& (1048575 : Int32)).toInt64)) (FP.l2d (((p1 &&& (1048575 : Int32)).toInt64 * (p3 &&& (1048575 : Int32)).toInt64) + (p2 &&& (1048575 : Int32)).toInt64)))))])) _
    refine XS.ifNo X3.here hx rfl (hb hby at_133) rfl b133 ?_
    show Steps p.tables e below (T3.setTop (mkF m 136 #[.val (.int p0), .val (.int p1), .val (.int p2), .val (.int p3), .val (.int p4), .val (.long (p1 &&& (1048575 : Int32)).toInt64), .second, .val (.long (p2 &&& (1048575 : Int32)).toInt64), .second, .val (.long (p3 &&& (1048575 : Int32)).toInt64), .second, .val (.double (FP.i2d (p0 &&& (1048575 : Int32)))), .second, .val (.int (0 : Int32)), .val (.double (FP.l2d (p2 &&& (1048575 : Int32)).toInt64)), .second, .val (.ref b1), .val (.double (FP.dadd (FP.dmul (FP.l2d (p1 &&& (1048575 : Int32)).toInt64) (FP.l2d (p3 &&& (1048575 : Int32)).toInt64)) (FP.l2d (p2 &&& (1048575 : Int32)).toInt64))), .second, .val (.long (((p1 &&& (1048575 : Int32)).toInt64 * (p3 &&& (1048575 : Int32)).toInt64) + (p2 &&& (1048575 : Int32)).toInt64)), .second] [])) _
    refine XS.iconst X3.here hx rfl (hb hby at_136) ?_
    show Steps p.tables e below (T3.setTop (mkF m 137 #[.val (.int p0), .val (.int p1), .val (.int p2), .val (.int p3), .val (.int p4), .val (.long (p1 &&& (1048575 : Int32)).toInt64), .second, .val (.long (p2 &&& (1048575 : Int32)).toInt64), .second, .val (.long (p3 &&& (1048575 : Int32)).toInt64), .second, .val (.double (FP.i2d (p0 &&& (1048575 : Int32)))), .second, .val (.int (0 : Int32)), .val (.double (FP.l2d (p2 &&& (1048575 : Int32)).toInt64)), .second, .val (.ref b1), .val (.double (FP.dadd (FP.dmul (FP.l2d (p1 &&& (1048575 : Int32)).toInt64) (FP.l2d (p3 &&& (1048575 : Int32)).toInt64)) (FP.l2d (p2 &&& (1048575 : Int32)).toInt64))), .second, .val (.long (((p1 &&& (1048575 : Int32)).toInt64 * (p3 &&& (1048575 : Int32)).toInt64) + (p2 &&& (1048575 : Int32)).toInt64)), .second] [(.int (1 : Int32))])) _
    refine XS.goto X3.here hx rfl (pc0 := 137) (pc' := 141) rfl (hb hby at_137) (by decide) (by decide) ?_
    show Steps p.tables e below (T3.setTop (mkF m 141 #[.val (.int p0), .val (.int p1), .val (.int p2), .val (.int p3), .val (.int p4), .val (.long (p1 &&& (1048575 : Int32)).toInt64), .second, .val (.long (p2 &&& (1048575 : Int32)).toInt64), .second, .val (.long (p3 &&& (1048575 : Int32)).toInt64), .second, .val (.double (FP.i2d (p0 &&& (1048575 : Int32)))), .second, .val (.int (0 : Int32)), .val (.double (FP.l2d (p2 &&& (1048575 : Int32)).toInt64)), .second, .val (.ref b1), .val (.double (FP.dadd (FP.dmul (FP.l2d (p1 &&& (1048575 : Int32)).toInt64) (FP.l2d (p3 &&& (1048575 : Int32)).toInt64)) (FP.l2d (p2 &&& (1048575 : Int32)).toInt64))), .second, .val (.long (((p1 &&& (1048575 : Int32)).toInt64 * (p3 &&& (1048575 : Int32)).toInt64) + (p2 &&& (1048575 : Int32)).toInt64)), .second] [(.int (1 : Int32))])) _
    exact retN X3 hx (t := .boolean) Bd.returns (by simp) (hb hby at_141) hr
  · show QL n0 _ T3.heap _
    exact ⟨rfl, N3⟩
section Law
open Jvm.FP.Core Jvm.OwnF Jvm.Kit
def own_k (p : Int32) : Int64 := (p &&& (1048575 : Int32)).toInt64
theorem own_k_range (p : Int32) : 0 ≤ (own_k p).toInt ∧ (own_k p).toInt < 1048576 := by
  have h := i32_mask p 1048575 (k := 20) (by decide) (by decide)
  have h1 : (own_k p).toInt = (p &&& 1048575).toInt := i64_of_i32 _
  omega
theorem own_kD (p : Int32) : DInt (own_k p).toInt (l2d (own_k p)) := l2d_int (by have := own_k_range p; omega)
theorem own_prod_range (p1 p3 : Int32) : 0 ≤ (own_k p1).toInt * (own_k p3).toInt ∧ (own_k p1).toInt * (own_k p3).toInt ≤ 1048576 * 1048576 := by
  obtain ⟨a1, a2⟩ := own_k_range p1
  obtain ⟨b1, b2⟩ := own_k_range p3
  exact ⟨Int.mul_nonneg a1 b1, Int.mul_le_mul (by omega) (by omega) b1 (by omega)⟩
theorem own_prodD (p1 p3 : Int32) : DInt ((own_k p1).toInt * (own_k p3).toInt) (dmul (l2d (own_k p1)) (l2d (own_k p3))) :=
  dmul_int (own_kD p1) (own_kD p3) (by have := own_prod_range p1 p3; omega)
theorem own_sumD (p1 p2 p3 : Int32) : DInt ((own_k p1).toInt * (own_k p3).toInt + (own_k p2).toInt) (dadd (dmul (l2d (own_k p1)) (l2d (own_k p3))) (l2d (own_k p2))) :=
  dadd_int (own_prodD p1 p3) (own_kD p2) (by have := own_prod_range p1 p3; have := own_k_range p2; omega)
theorem own_longD (p1 p2 p3 : Int32) : DInt ((own_k p1).toInt * (own_k p3).toInt + (own_k p2).toInt) (l2d (own_k p1 * own_k p3 + own_k p2)) := by
  have h1 := own_prod_range p1 p3
  have h2 := own_k_range p2
  have e1 : (own_k p1 * own_k p3).toInt = (own_k p1).toInt * (own_k p3).toInt := i64_mul (by omega) (by omega)
  have e2 : (own_k p1 * own_k p3 + own_k p2).toInt = (own_k p1).toInt * (own_k p3).toInt + (own_k p2).toInt := by rw [i64_add (by omega) (by omega), e1]
  have h := l2d_int (a := own_k p1 * own_k p3 + own_k p2) (by omega)
  rw [e2] at h
  exact h
theorem own_inf : val64 9218868437227405312 = .inf false := by decide +kernel
theorem own_suminf (p1 p3 : Int32) : val64 (dadd (dmul (l2d (own_k p1)) (l2d (own_k p3))) 9218868437227405312) = .inf false := by
  obtain ⟨s, c, q, e⟩ := DInt_fin (own_prodD p1 p3)
  rw [val64_dadd, e, own_inf]; rfl
theorem own_c1 (p1 p3 : Int32) : NoNaN64 (FP.dmul (FP.l2d (own_k p1)) (FP.l2d (own_k p3))) := noNaN (DInt_fin (own_prodD p1 p3)).ne_nan
theorem own_c2 (p1 p2 p3 : Int32) : NoNaN64 (FP.dadd (FP.dmul (FP.l2d (own_k p1)) (FP.l2d (own_k p3))) (FP.l2d (own_k p2))) := noNaN (DInt_fin (own_sumD p1 p2 p3)).ne_nan
theorem own_c2i (p1 p3 : Int32) : NoNaN64 (FP.dadd (FP.dmul (FP.l2d (own_k p1)) (FP.l2d (own_k p3))) (9218868437227405312 : UInt64)) := noNaN (by rw [own_suminf]; nofun)
theorem own_b108 (p1 p3 : Int32) : ifCond.holds .ne (FP.cmpInt (-1) (FP.dcmp (FP.dadd (FP.dmul (FP.l2d (own_k p1)) (FP.l2d (own_k p3))) (9218868437227405312 : UInt64)) (9218868437227405312 : UInt64))) = false := by
  have h : dcmp (dadd (dmul (l2d (own_k p1)) (l2d (own_k p3))) 9218868437227405312) 9218868437227405312 = some .eq := by
    show order (val64 _) (val64 _) = _
    rw [own_suminf, own_inf]; rfl
  exact if_l_eq h (by decide)
theorem own_b133 (p1 p2 p3 : Int32) : ifCond.holds .ne (FP.cmpInt (-1) (FP.dcmp (FP.dadd (FP.dmul (FP.l2d (own_k p1)) (FP.l2d (own_k p3))) (FP.l2d (own_k p2))) (FP.l2d (own_k p1 * own_k p3 + own_k p2)))) = false := by
  have h := dcmp_int (own_sumD p1 p2 p3) (own_longD p1 p2 p3)
  rw [compare_self_int] at h
  exact if_l_eq h (by decide)
end Law
theorem own_rm0 (l : Launch) (Z : State) (a0 : Array Value) (hw : ∀ d ∈ tables_1, d.before a0 Z = true) (ws : List Jvm.Cond) (p0 p1 p2 p3 p4 : Int32) (h0 : Heap) (n0 : Nat) (Z0 : n0 ≤ h0.size) :
    MetFree l x (head1 (Jvm.Cond.code x code maxLocals ret :: ws) room_1) (fun a U => a = #[(.int p0), (.int p1), (.int p2), (.int p3), (.int p4)] ∧ Z.Warmed39 U.vm ∧ U.heap = h0) (fun _ _ _ _ _ => True) (fun _ U o U' => ∃ v L, o = .returned v ∧ QL n0 v U'.heap L ∧ FrameEnd U o U' L 16 128) := by
  cases h : ifCond.holds .eq (p4 &&& (1 : Int32)) <;> cases h2 : ifCond.holds .eq (p4 &&& (2 : Int32))
  · exact rm0ff l Z a0 hw ws p0 p1 p2 p3 p4 h0 n0 Z0 h h2 (own_c1 p1 p3) (own_c2i p1 p3) (own_b108 p1 p3)
  · exact rm0ft l Z a0 hw ws p0 p1 p2 p3 p4 h0 n0 Z0 h h2 (own_c1 p1 p3) (own_c2 p1 p2 p3) (own_b133 p1 p2 p3)
  · exact rm0tf l Z a0 hw ws p0 p1 p2 p3 p4 h0 n0 Z0 h h2 (own_c1 p1 p3) (own_c2i p1 p3) (own_b108 p1 p3)
  · exact rm0tt l Z a0 hw ws p0 p1 p2 p3 p4 h0 n0 Z0 h h2 (own_c1 p1 p3) (own_c2 p1 p2 p3) (own_b133 p1 p2 p3)

set_option maxRecDepth 65536 in
set_option maxHeartbeats 40000000 in
theorem comes_1 {Post : Tables → Env → Array Value → State → Outcome → State → Prop} (hpost : ∀ tb e args s v u, (limb_1_1.after args s (.returned v) u = true ∧ limb_1_2.after args s (.returned v) u = true ∧ True) → FrameEnd s (.returned v) u (Jvm.fieldLocs frame_1_writes args s ++ Jvm.arrayLocs frame_1_arrays args s ++ Jvm.staticLocs frame_1_statics s) 16 128 → Post tb e args s (.returned v) u) :
    ArmFor flags0 classFile x code maxLocals ret World_1 tables_1 room_1 Calls_1 rest_1 Pre_1 Post := by
  intro l hfl _ _ p e ha hc hk s m args below hf hA hF happ hP
  obtain ⟨hcalls, hrest, hpre⟩ := hP
  obtain ⟨-, -, -, hnamed, -, -, -, hat⟩ := (Spec.applies_iff hf).mp happ
  obtain ⟨hg, hn⟩ := and_e (Cond.before_iff.mp (show (Jvm.Cond.and given_1 narrow_1).before args s = true from hpre))
  obtain ⟨hcnt, g0⟩ := and_e hg
  obtain ⟨k0, g1⟩ := and_e g0
  obtain ⟨k1, g2⟩ := and_e g1
  obtain ⟨k2, g3⟩ := and_e g2
  obtain ⟨k3, g4⟩ := and_e g3
  obtain ⟨w0, w1, w2, w3, w4, rfl⟩ : ∃ w0 w1 w2 w3 w4 : Value, args = #[w0, w1, w2, w3, w4] := by
    have hs : args.size = 5 := by simpa [Cond.value, given_1] using hcnt
    obtain ⟨L⟩ := args
    match L, hs with
    | [w0, w1, w2, w3, w4], _ => exact ⟨w0, w1, w2, w3, w4, rfl⟩
  have hw := fun d (hd : d ∈ tables_1) => atoms_spec (ws := Jvm.Cond.code x code maxLocals ret :: tables_1) hat d (List.mem_cons_of_mem _ hd)
  have hfit : Fit s := fun {y c} hc i hi => by
    obtain ⟨ha, rfl⟩ := Array.getElem?_eq_some_iff.mp hc
    have q := List.all_eq_true.mp ((Array.all_eq_true_iff_forall_mem.mp hF) _ (Array.getElem_mem ha)) i (List.mem_range.mpr hi)
    simpa [Array.getElem?_eq_getElem hi] using q
  obtain ⟨i0, ei0⟩ := is_v k0
  obtain rfl : w0 = (.int i0) := Option.some.inj ei0
  obtain ⟨i1, ei1⟩ := is_v k1
  obtain rfl : w1 = (.int i1) := Option.some.inj ei1
  obtain ⟨i2, ei2⟩ := is_v k2
  obtain rfl : w2 = (.int i2) := Option.some.inj ei2
  obtain ⟨i3, ei3⟩ := is_v k3
  obtain rfl : w3 = (.int i3) := Option.some.inj ei3
  obtain ⟨i4, ei4⟩ := is_v g4
  obtain rfl : w4 = (.int i4) := Option.some.inj ei4
  obtain ⟨n, o, h1, h2, h3, _, L, rfl, ⟨rfl, N⟩, hq⟩ := own_rm0 l s _ hw tables_1 i0 i1 i2 i3 i4 s.heap s.heap.size (Nat.le_refl _) p e ha hc hk s m _ below hf ((Spec.applies_iff_loose hf).mp happ).1 ⟨rfl, State.Warmed39.refl s, rfl⟩ trivial
  refine ⟨n, _, h1, h2, h3, hpost _ _ _ _ _ _ ⟨Cond.after_iff.mpr rfl, Cond.after_iff.mpr (eq_i res_at (Term.int_eval (1)) rfl), trivial⟩ ⟨hq.1, hq.2.1, (hq.2.2.sift fun y hy => Or.inr (N y hy)).mono (by decide) (by decide)⟩⟩
theorem main_1_1 : Claimed_1_1 := comes_1 fun _ _ _ _ _ _ h hF => ⟨h.1, hF⟩
theorem main_1_2 : Claimed_1_2 := comes_1 fun _ _ _ _ _ _ h hF => ⟨h.2.1, hF⟩
end Jvm.Pilot.@@N@@
namespace Jvm.Pilot.@@N@@
open Jvm Jvm.ClassFile Sem Op Lib Jvm.Free Jvm.Stand Jvm.Pilot.@@N@@.Jvm.D
/-! MADE BY PROGRAM (witnessworld.py) out of the Statement's table words and the real class files: 10 classes; the members and pool entries that the words name. The judged class is class 1, her method 1. -/
namespace start1
open Jvm.ClassFile
def u (s : String) : CpInfo := .utf8 (stringToUtf16 s)
/-- a pool by its gaps: so many unusable entries, then the entry; so many at the end -/
def gap : Nat → List CpInfo → List CpInfo
  | 0, r => r
  | n + 1, r => .unusable :: gap n r
def poolList (es : List (Nat × CpInfo)) (last : Nat) : List CpInfo := es.foldr (fun e r => gap e.1 (e.2 :: r)) (gap last [])
def pool (es : List (Nat × CpInfo)) (last : Nat) : Array CpInfo := ⟨poolList es last⟩
def fileOf (pool : Array CpInfo) (this : Nat) (attrs : Array Attribute := #[]) (ms : Array MethodInfo := #[]) (fl : Nat := 33) (sup : Nat := 0) (ifs : Array Nat := #[]) (fds : Array FieldInfo := #[]) : ClassFile where
  minorVersion := 0
  majorVersion := 65
  constantPool := pool
  accessFlags := fl
  thisClass := this
  superClass := sup
  interfaces := ifs
  fields := fds
  methods := ms
  attributes := attrs
def plain (name : String) (sup : Option ClassId) : Class where
  name := name
  kind := .ordinary
  loader := none
  accessFlags := 33
  super := sup
  interfaces := #[]
  cf := none
  fields := #[]
  methods := #[]
  instanceTypes := #[]
  staticTypes := #[]
  resolved := #[]
  callSites := []
  init := .initialized
  statics := none
  mirror := none

def pool0 : Array CpInfo := pool [(5, u "<init>"), (0, u "()V"), (1, .class_ 10), (1, u "java/lang/Object")] 113

def k0c0 : Code := { maxStack := 0, maxLocals := 1, code := object_method_1_code, exceptionTable := #[], attributes := #[] }
def k0m0 : Method := { name := "<init>", desc := "()V", sig := { parameters := [], returnType := none }, accessFlags := 1, code := some k0c0 }
/-- java/lang/Object -/
def k0 : Class := { plain "java/lang/Object" none with
  accessFlags := 33
  interfaces := #[]
  cf := some (fileOf pool0 8 #[] #[{ accessFlags := 1, nameIndex := 5, descriptorIndex := 6, attributes := #[] }] 33 0 #[] #[])
  fields := #[]
  methods := #[k0m0]
  instanceTypes := #[]
  staticTypes := #[]
  resolved := Array.replicate 124 none
  statics := none }

def pool1 : Array CpInfo := pool [(2, .class_ 4), (1, u "java/lang/Object"), (0, u "<init>"), (0, u "()V"), (0, .integer 1048575), (2, .double 9218868437227405312), (1, .class_ 13), (0, u "com/example/roving_fleet/rovingfleet/ServiceLimits"), (0, .methodref 12 15), (0, .nameAndType 5 16), (0, u "(DDD)V"), (0, .methodref 12 18), (0, .nameAndType 19 20), (0, u "longestRide"), (0, u "(D)D"), (0, .class_ 22), (0, u "com/example/roving_fleet/rovingfleet/ServiceLimitsLongestRidePinLaw"), (2, u "law"), (0, u "(IIIII)Z")] 3

def k1m0 : Method := { name := "<init>", desc := "()V", sig := { parameters := [], returnType := none }, accessFlags := 1, code := none }
def k1c1 : Code := { maxStack := 8, maxLocals := 21, code := code, exceptionTable := #[], attributes := #[] }
def k1m1 : Method := { name := "law", desc := "(IIIII)Z", sig := { parameters := [.int, .int, .int, .int, .int], returnType := some .boolean }, accessFlags := 9, code := some k1c1 }
/-- com/example/roving_fleet/rovingfleet/ServiceLimitsLongestRidePinLaw -/
def k1 : Class := { plain "com/example/roving_fleet/rovingfleet/ServiceLimitsLongestRidePinLaw" (some 0) with
  accessFlags := 49
  interfaces := #[]
  cf := some (fileOf pool1 21 #[] #[{ accessFlags := 1, nameIndex := 5, descriptorIndex := 6, attributes := #[] }, { accessFlags := 9, nameIndex := 25, descriptorIndex := 26, attributes := #[] }] 49 2 #[] #[])
  fields := #[]
  methods := #[k1m0, k1m1]
  instanceTypes := #[]
  staticTypes := #[]
  resolved := Array.replicate 30 none
  statics := none }

def pool2 : Array CpInfo := pool [(1, .methodref 2 3), (0, .class_ 4), (0, .nameAndType 5 6), (0, u "java/lang/Object"), (0, u "<init>"), (0, u "()V"), (0, .class_ 8), (0, u "java/lang/Record")] 13

def k2c0 : Code := { maxStack := 1, maxLocals := 1, code := jdk_30_method_1_code, exceptionTable := #[], attributes := #[] }
def k2m0 : Method := { name := "<init>", desc := "()V", sig := { parameters := [], returnType := none }, accessFlags := 4, code := some k2c0 }
/-- java/lang/Record -/
def k2 : Class := { plain "java/lang/Record" (some 0) with
  accessFlags := 1057
  interfaces := #[]
  cf := some (fileOf pool2 7 #[] #[{ accessFlags := 4, nameIndex := 5, descriptorIndex := 6, attributes := #[] }] 1057 2 #[] #[])
  fields := #[]
  methods := #[k2m0]
  instanceTypes := #[]
  staticTypes := #[]
  resolved := Array.replicate 22 none
  statics := none }

def pool3 : Array CpInfo := pool [(1, .methodref 2 3), (0, .class_ 4), (0, .nameAndType 5 6), (0, u "java/lang/Record"), (0, u "<init>"), (0, u "()V"), (0, .fieldref 8 9), (0, .class_ 10), (0, .nameAndType 11 12), (0, u "com/example/roving_fleet/rovingfleet/ServiceLimits"), (0, u "maxWait"), (0, u "D"), (0, .fieldref 8 14), (0, .nameAndType 15 12), (0, u "detourFactor"), (0, .fieldref 8 17), (0, .nameAndType 18 12), (0, u "detourAllowance"), (12, u "ROUNDING"), (3, u "(DDD)V"), (4, u "(D)D"), (0, u "longestRide")] 26

def k3c0 : Code := { maxStack := 3, maxLocals := 7, code := prog_14_method_1_code, exceptionTable := #[], attributes := #[] }
def k3m0 : Method := { name := "<init>", desc := "(DDD)V", sig := { parameters := [.double, .double, .double], returnType := none }, accessFlags := 0, code := some k3c0 }
def k3c1 : Code := { maxStack := 4, maxLocals := 3, code := prog_14_method_3_code, exceptionTable := #[], attributes := #[] }
def k3m1 : Method := { name := "longestRide", desc := "(D)D", sig := { parameters := [.double], returnType := some .double }, accessFlags := 0, code := some k3c1 }
/-- com/example/roving_fleet/rovingfleet/ServiceLimits -/
def k3 : Class := { plain "com/example/roving_fleet/rovingfleet/ServiceLimits" (some 2) with
  accessFlags := 48
  interfaces := #[]
  cf := some (fileOf pool3 8 #[] #[{ accessFlags := 0, nameIndex := 5, descriptorIndex := 35, attributes := #[] }, { accessFlags := 0, nameIndex := 41, descriptorIndex := 40, attributes := #[] }] 48 2 #[] #[{ accessFlags := 18, nameIndex := 11, descriptorIndex := 12, attributes := #[] }, { accessFlags := 18, nameIndex := 15, descriptorIndex := 12, attributes := #[] }, { accessFlags := 18, nameIndex := 18, descriptorIndex := 12, attributes := #[] }, { accessFlags := 24, nameIndex := 31, descriptorIndex := 12, attributes := #[] }])
  fields := #[{ name := "maxWait", type := .double, accessFlags := 18, slot := 0, constantValue := 0 }, { name := "detourFactor", type := .double, accessFlags := 18, slot := 1, constantValue := 0 }, { name := "detourAllowance", type := .double, accessFlags := 18, slot := 2, constantValue := 0 }, { name := "ROUNDING", type := .double, accessFlags := 24, slot := 0, constantValue := 0 }]
  methods := #[k3m0, k3m1]
  instanceTypes := #[.double, .double, .double]
  staticTypes := #[.double]
  resolved := Array.replicate 68 none
  statics := none }

def pool4 : Array CpInfo := pool [(1, u "java/lang/Cloneable"), (0, .class_ 1), (0, u "java/lang/Object"), (0, .class_ 3)] 3

/-- java/lang/Cloneable -/
def k4 : Class := { plain "java/lang/Cloneable" (some 0) with
  accessFlags := 1537
  interfaces := #[]
  cf := some (fileOf pool4 2 #[] #[] 1537 4 #[] #[])
  fields := #[]
  methods := #[]
  instanceTypes := #[]
  staticTypes := #[]
  resolved := Array.replicate 8 none
  statics := none }

def pool5 : Array CpInfo := pool [(1, u "java/io/Serializable"), (0, .class_ 1), (0, u "java/lang/Object"), (0, .class_ 3)] 3

/-- java/io/Serializable -/
def k5 : Class := { plain "java/io/Serializable" (some 0) with
  accessFlags := 1537
  interfaces := #[]
  cf := some (fileOf pool5 2 #[] #[] 1537 4 #[] #[])
  fields := #[]
  methods := #[]
  instanceTypes := #[]
  staticTypes := #[]
  resolved := Array.replicate 8 none
  statics := none }

/-- the primitive byte -/
def k6 : Class := { plain "byte" none with kind := .primitive 'B', accessFlags := 0x411 }
/-- [B -/
def k7 : Class := { plain "[B" (some 0) with kind := .array 6 .byte, interfaces := #[4, 5], accessFlags := 1041 }

/-- the primitive int -/
def k8 : Class := { plain "int" none with kind := .primitive 'I', accessFlags := 0x411 }
/-- [I -/
def k9 : Class := { plain "[I" (some 0) with kind := .array 8 .int, interfaces := #[4, 5], accessFlags := 1041 }

def heap : Heap := #[]
def classes : Array Class := #[k0, k1, k2, k3, k4, k5, k6, k7, k8, k9]
def interned : List (Array UInt16 × Addr) := []
def slotsUsed : Nat := 0
def theMethod : MethodId := ⟨1, 1⟩
def args0 : Array Value := #[.int 5, .int 3, .int 7, .int 1, .int 2]
def aboutOver (below : List Frame) : State where
  vm := { classes := classes, interned := interned.toArray }
  heap := heap
  slotsUsed := slotsUsed
  threads := #[{ frames := .invoking theMethod args0 :: below }]
def below0 : List Frame := [.native { method := ⟨0, 0⟩, args := #[] }]
def about1 : State := aboutOver below0
def p0 : Program := .bare "" "" ""
def e0 : Env := launch0.env 0 0 0
theorem w_frames : about1.frames = Frame.invoking theMethod args0 :: below0 := rfl
set_option maxRecDepth 65536 in
theorem w_args : argsFit about1.vm theMethod args0 = true := by decide +kernel
set_option maxRecDepth 65536 in
theorem w_heap : heapFits about1 = true := by decide +kernel
set_option maxRecDepth 65536 in
theorem w_runnable : about1.curStatus? = some .runnable := by decide +kernel
set_option maxRecDepth 65536 in
theorem w_alone : about1.alone = true := by decide +kernel
set_option maxRecDepth 65536 in
theorem w_named : about1.methodNamed? x = some theMethod := by decide +kernel
set_option maxRecDepth 65536 in
theorem w_hears : about1.hears theMethod below0 = true := by decide +kernel
set_option maxRecDepth 65536 in
theorem w_ripe : about1.ripe theMethod args0 below0 = true := by decide +kernel
theorem w_running : about1.status = .running := rfl
set_option maxRecDepth 65536 in
theorem w_room : about1.hasRoom e0.platform room_1 = true :=
  launch0.hasRoom_least _ room_1 (by decide +kernel) (by decide +kernel) (by decide +kernel) (by decide +kernel) (by decide +kernel) (by decide +kernel)
theorem allAtoms_all (ts : List Jvm.Cond) (a : Array Jvm.Value) (st : Jvm.State) : (allAtoms ts).before a st = ts.all (fun c => c.before a st) := by
  induction ts with
  | nil => rfl
  | cons c t ih =>
    show (Jvm.Cond.and c (allAtoms t)).before a st = _
    rw [Jvm.Cond.before_and, ih, List.all_cons]
def words1 : List Jvm.Cond := Jvm.Cond.code x code maxLocals ret :: tables_1
/-- a 'code' word, met by the world's own term for the bytes: nothing is compared byte by byte -/
theorem code_word {y : MethodName} {bytes : ByteArray} {mx : Nat} {rt : Option FieldType} {a : Array Value} {s : State} {m : MethodId} {meth : Method} {c : Code} (h1 : s.methodNamed? y = some m) (h2 : s.vm.method? m = some meth) (h3 : meth.code = some c) (h4 : c.code = bytes)
    (h5 : (c.maxLocals == mx && c.exceptionTable.isEmpty && decide (c.maxStack ≤ mostOperands) && decide (meth.sig.returnType = rt) && !meth.locks && decide (parseMethodDescriptor y.desc = some meth.sig)) = true) : (Jvm.Cond.code y bytes mx rt).before a s = true := by
  simp only [Bool.and_eq_true, beq_iff_eq, Bool.not_eq_true', decide_eq_true_eq] at h5
  obtain ⟨⟨⟨⟨⟨g1, g2⟩, g3⟩, g4⟩, g5⟩, g6⟩ := h5
  simp [Cond.before, Cond.holds, Cond.value, h1, h2, h3, h4, g1, g2, g3, g4, g5, g6]
def isCode : Jvm.Cond → Bool
  | .code _ _ _ _ => true
  | _ => false
theorem all_split {L : List Jvm.Cond} {P : Jvm.Cond → Bool} (h1 : L.all (fun c => isCode c || P c) = true) (h2 : ∀ c ∈ L.filter isCode, P c = true) : L.all P = true := by
  refine List.all_eq_true.mpr fun c hc => ?_
  have h := List.all_eq_true.mp h1 c hc
  rcases Bool.eq_false_or_eq_true (isCode c) with hi | hi
  · exact h2 c (List.mem_filter.mpr ⟨hc, hi⟩)
  · simpa [hi] using h
set_option maxRecDepth 65536 in
theorem w_c0 : (Jvm.Cond.code x code maxLocals ret).before args0 about1 = true := code_word (m := ⟨1, 1⟩) (meth := k1m1) (c := k1c1) (by decide +kernel) rfl rfl rfl (by decide +kernel)
set_option maxRecDepth 65536 in
theorem w_c1 : (Jvm.Cond.code ({ cls := "com/example/roving_fleet/rovingfleet/ServiceLimits", name := "<init>", desc := "(DDD)V" } : Jvm.MethodName) prog_14_method_1_code (7 : Nat) (Option.none : Option Jvm.ClassFile.FieldType)).before args0 about1 = true := code_word (m := ⟨3, 0⟩) (meth := k3m0) (c := k3c0) (by decide +kernel) rfl rfl rfl (by decide +kernel)
set_option maxRecDepth 65536 in
theorem w_c2 : (Jvm.Cond.code ({ cls := "java/lang/Record", name := "<init>", desc := "()V" } : Jvm.MethodName) jdk_30_method_1_code (1 : Nat) (Option.none : Option Jvm.ClassFile.FieldType)).before args0 about1 = true := code_word (m := ⟨2, 0⟩) (meth := k2m0) (c := k2c0) (by decide +kernel) rfl rfl rfl (by decide +kernel)
set_option maxRecDepth 65536 in
theorem w_c3 : (Jvm.Cond.code ({ cls := "java/lang/Object", name := "<init>", desc := "()V" } : Jvm.MethodName) object_method_1_code (1 : Nat) (Option.none : Option Jvm.ClassFile.FieldType)).before args0 about1 = true := code_word (m := ⟨0, 0⟩) (meth := k0m0) (c := k0c0) (by decide +kernel) rfl rfl rfl (by decide +kernel)
set_option maxRecDepth 65536 in
theorem w_c4 : (Jvm.Cond.code ({ cls := "com/example/roving_fleet/rovingfleet/ServiceLimits", name := "longestRide", desc := "(D)D" } : Jvm.MethodName) prog_14_method_3_code (3 : Nat) (Option.some Jvm.ClassFile.FieldType.double)).before args0 about1 = true := code_word (m := ⟨3, 1⟩) (meth := k3m1) (c := k3c1) (by decide +kernel) rfl rfl rfl (by decide +kernel)
def codes1 : List Jvm.Cond := [Jvm.Cond.code x code maxLocals ret, Jvm.Cond.code ({ cls := "com/example/roving_fleet/rovingfleet/ServiceLimits", name := "<init>", desc := "(DDD)V" } : Jvm.MethodName) prog_14_method_1_code (7 : Nat) (Option.none : Option Jvm.ClassFile.FieldType), Jvm.Cond.code ({ cls := "java/lang/Record", name := "<init>", desc := "()V" } : Jvm.MethodName) jdk_30_method_1_code (1 : Nat) (Option.none : Option Jvm.ClassFile.FieldType), Jvm.Cond.code ({ cls := "java/lang/Object", name := "<init>", desc := "()V" } : Jvm.MethodName) object_method_1_code (1 : Nat) (Option.none : Option Jvm.ClassFile.FieldType), Jvm.Cond.code ({ cls := "com/example/roving_fleet/rovingfleet/ServiceLimits", name := "longestRide", desc := "(D)D" } : Jvm.MethodName) prog_14_method_3_code (3 : Nat) (Option.some Jvm.ClassFile.FieldType.double)]
set_option maxRecDepth 65536 in
theorem codes_eq : words1.filter isCode = codes1 := rfl
theorem w_codes : ∀ c ∈ words1.filter isCode, c.before args0 about1 = true := by
  rw [codes_eq]
  intro c hc
  simp only [codes1, List.mem_cons, List.not_mem_nil, or_false] at hc
  rcases hc with rfl | rfl | rfl | rfl | rfl
  · exact w_c0
  · exact w_c1
  · exact w_c2
  · exact w_c3
  · exact w_c4
set_option maxRecDepth 65536 in
theorem w_t1 : (words1.take 24).all (fun c => isCode c || c.before args0 about1) = true := by decide +kernel
set_option maxRecDepth 65536 in
theorem w_t2 : (words1.drop 24).all (fun c => isCode c || c.before args0 about1) = true := by decide +kernel
theorem w_tables : (allAtoms (Jvm.Cond.code x code maxLocals ret :: tables_1)).before args0 about1 = true := by
  rw [allAtoms_all]
  show words1.all (fun c => c.before args0 about1) = true
  refine all_split ?_ w_codes
  rw [← List.take_append_drop 24 words1, List.all_append, w_t1, w_t2]
  rfl
set_option maxRecDepth 65536 in
theorem w_case : (Jvm.Cond.and given_1 narrow_1).before args0 about1 = true := by decide +kernel
theorem w_applies : (headSpec (Jvm.Cond.code x code maxLocals ret :: tables_1) room_1).applies x e0.platform about1 = true :=
  (Spec.applies_iff w_frames).mpr ⟨w_running, w_runnable, w_alone, w_named, w_hears, w_ripe, w_room, w_tables⟩
theorem atStart : AtStart classFile x code maxLocals ret World_1 tables_1 room_1 Calls_1 rest_1 Pre_1 launch0 p0 e0 about1 theMethod args0 below0 :=
  ⟨lists_1, trivial, launch0.admits_env _ _ _, launch0.least_env, fairChoices_fair.cas, fairChoices_fair.clock, w_frames, w_args, w_heap, w_applies, trivial, trivial, w_case⟩
end start1
theorem witness_1 : WitnessClaimed_1 := ⟨start1.p0, start1.e0, start1.about1, start1.theMethod, start1.args0, start1.below0, start1.atStart⟩
end Jvm.Pilot.@@N@@
