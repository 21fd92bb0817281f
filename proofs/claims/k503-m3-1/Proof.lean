import JvmDerived
import JvmDerived.Pilot.@@N@@Statement
import JvmDerived.Pilot.@@N@@Code
set_option linter.unusedVariables false
set_option linter.unusedSimpArgs false
namespace Jvm.RoadKit
open Sem ClassFile Op Lib Jvm.Stand Jvm.Free Jvm.LawKit
section New
variable {p : Program} {l : Launch} {e : Env} {R : Room} {s : State} {m : MethodId} {args : Array Value} {below : List Frame} {meth : Method} {c : Code} {T : State} {locs : List Loc} {cells slots : Nat}
theorem retI (X : Stand p l e R s m args below meth c T locs cells slots) (hx : p.tables.exec = Jvm.exec) {pc : Nat} {Ls : Array Slot} {z : Int32} {rest : List Value} (hret : meth.sig.returnType = some .int) (hd : decode c.code pc = .ok (.ireturn, 1)) {fs : List Frame}
    (hl : ∀ (f : JFrame) (acts : List Action), f.method = m → f.locked = none → f.entered = [] → (doReturn e (T.setTop f) acts (some (.int z))).1 = T.setFrames fs) : Steps p.tables e below (T.setTop (mkF m pc Ls (.int z :: rest))) (T.setFrames fs) := by
  have hm' : T.vm.method? m = some meth := X.method'
  have hn : narrow .int (.int z) = .int z := rfl
  show Steps p.tables e below (T.setTop { method := m, pc := pc, locals := Ls, stack := _ :: rest, locked := none }) _
  jvm_step X.here [X.here.top, hx, hd, hm', hret, hn]
  first | (intro acts; rw [hl _ acts rfl rfl rfl]) | rw [hl _ _ rfl rfl rfl]
  exact Steps.refl _
end New
end Jvm.RoadKit
namespace Own
open Jvm Jvm.FP.Core
def pw (k : Nat) : Nat := 2 ^ k
theorem pw_add (a b : Nat) : pw (a + b) = pw a * pw b := Nat.pow_add 2 a b
theorem pw_pos (k : Nat) : 0 < pw k := Nat.two_pow_pos k
theorem pw_le {a b : Nat} (h : a ≤ b) : pw a ≤ pw b := Nat.pow_le_pow_right (by decide) h
theorem one : one64 = pw 1074 := (show one64 = pw (-b64.qmin).toNat from pow_qmin64.symm).trans (congrArg pw (by decide))
theorem zinf (f : Fmt) (s : Bool) : zmag f (.inf s) = f.tails * pw (f.exps - 2) := rfl
def rho (A B : Nat) : Nat := zmag b64 (roundRatio b64 false A B 0)
theorem qm : b64.qmin = -1074 := by decide
theorem inU (A : Nat) : inUnits A 0 b64.qmin = A * one64 := by
  unfold inUnits; rw [← pow_qmin64, Int.zero_sub]
theorem q0 : (b64.qmin - b64.qmin).toNat = 0 := by decide
theorem rho_le {A B : Nat} {V : Datum} (hB : 0 < B) (hV : fits b64 V) (hn : V ≠ .nan) (h : A * one64 ≤ zmag b64 V * B) : rho A B ≤ zmag b64 V := by
  refine zmag_roundRatio_le good_b64 hB hV hn (Int.le_refl _) (by decide) ?_
  rw [inU, q0, Nat.pow_zero, Nat.mul_one]; exact h
theorem rho_ge {A B : Nat} {V : Datum} (hB : 0 < B) (hV : fits b64 V) (h : zmag b64 V * B ≤ A * one64) : zmag b64 V ≤ rho A B := by
  refine zmag_roundRatio_ge good_b64 hB hV (Int.le_refl _) (by decide) ?_
  rw [inU, q0, Nat.pow_zero, Nat.mul_one]; exact h
/-- powers of two -/
def P2 (k : Nat) : Datum := .fin false (2 ^ 52) ((k : Int) - 1126)
theorem P2_fits {k : Nat} (h1 : 52 ≤ k) (h2 : k ≤ 2000) : fits b64 (P2 k) := ⟨by decide, by rw [qm]; omega, by rw [show b64.qmax = 971 by decide]; omega, Or.inr (by decide)⟩
theorem P2_mag {k : Nat} (h1 : 52 ≤ k) : zmag b64 (P2 k) = pw k := by
  show pw 52 * pw ((k : Int) - 1126 - b64.qmin).toNat = _
  rw [qm, show ((k : Int) - 1126 - -1074).toNat = k - 52 by omega, ← pw_add]
  congr 1; omega
/-- no overflow -/
theorem rr_fin {A B : Nat} (hB : 0 < B) (h : A ≤ 2 ^ 100 * B) : ∃ c q, roundRatio b64 false A B 0 = .fin false c q := by
  rcases roundRatio_cases b64 false A B 0 with q | q
  · exact q
  · exfalso
    have h1 : rho A B ≤ zmag b64 (P2 1174) := rho_le hB (P2_fits (by decide) (by decide)) (by unfold P2; exact Datum.noConfusion) (by
      rw [P2_mag (by decide)]
      calc A * one64 ≤ 2 ^ 100 * B * one64 := Nat.mul_le_mul_right _ h
        _ = pw 1174 * B := by rw [Nat.mul_right_comm, one, show (2 : Nat) ^ 100 = pw 100 from rfl, ← pw_add])
    unfold rho at h1
    rw [q, P2_mag (by decide)] at h1
    have h2 : ¬ (zmag b64 (.inf false) ≤ pw 1174) := by
      rw [zinf, show b64.exps - 2 = 2046 by decide]
      intro g
      have g1 : pw 1175 ≤ pw 2046 := pw_le (by decide)
      have g2 : pw 1175 = 2 * pw 1174 := by rw [show 1175 = 1 + 1174 from rfl, pw_add, show pw 1 = 2 from rfl]
      have g3 : pw 2046 ≤ b64.tails * pw 2046 := Nat.le_mul_of_pos_left _ (by decide)
      have g4 := pw_pos 1174
      omega
    exact h2 h1
/-- the nearest one -/
theorem rho_near {A B c' : Nat} {q' : Int} (hB : 0 < B) (h : A ≤ 2 ^ 100 * B) (hc : c' < 2 ^ 53) (hq : b64.qmin ≤ q') :
    ((A * one64 : Nat) - (rho A B : Int) * B).natAbs ≤ ((A * one64 : Nat) - ((c' * pw (q' - b64.qmin).toNat : Nat) : Int) * B).natAbs := by
  obtain ⟨c, q, e⟩ := rr_fin hB h
  have d := roundRatio_nearest good_b64 hB e (c' := c') hc hq (Int.le_refl _) (by decide)
  unfold distance at d
  rw [inU] at d
  unfold rho
  rw [e]
  exact d
/-- rounding does not fall -/
theorem rho_mono {A A' B : Nat} (hB : 0 < B) (hA : A ≤ A') (h : A' ≤ 2 ^ 100 * B) : rho A B ≤ rho A' B := by
  by_cases e0 : A = A'
  · rw [e0]; exact Nat.le_refl _
  obtain ⟨c, q, e⟩ := rr_fin hB (Nat.le_trans hA h)
  obtain ⟨c', q', e'⟩ := rr_fin hB h
  have f1 := roundRatio_fits good_b64 false A hB 0
  have f2 := roundRatio_fits good_b64 false A' hB 0
  rw [e] at f1; rw [e'] at f2
  have z1 : rho A B = c * pw (q - b64.qmin).toNat := by unfold rho; rw [e]; rfl
  have z2 : rho A' B = c' * pw (q' - b64.qmin).toNat := by unfold rho; rw [e']; rfl
  refine Nat.le_of_not_lt fun hlt => ?_
  have a1 : ¬ (A * one64 ≤ rho A' B * B) := fun g => by
    have := rho_le (V := .fin false c' q') hB f2 Datum.noConfusion (by show _ ≤ c' * pw (q' - b64.qmin).toNat * B; rw [← z2]; exact g)
    have w : rho A B ≤ c' * pw (q' - b64.qmin).toNat := this
    rw [← z2] at w; omega
  have a2 : ¬ (rho A B * B ≤ A' * one64) := fun g => by
    have := rho_ge (V := .fin false c q) hB f1 (by show c * pw (q - b64.qmin).toNat * B ≤ _; rw [← z1]; exact g)
    have w : c * pw (q - b64.qmin).toNat ≤ rho A' B := this
    rw [← z1] at w; omega
  have n1 := rho_near hB (Nat.le_trans hA h) f2.1 f2.2.1
  have n2 := rho_near hB h f1.1 f1.2.1
  rw [← z2] at n1; rw [← z1] at n2
  rw [← Int.natCast_mul, ← Int.natCast_mul] at n1 n2
  have a3 : A * one64 < A' * one64 := Nat.mul_lt_mul_of_pos_right (by omega) one64_pos
  generalize rho A' B * B = y at *
  generalize rho A B * B = x at *
  generalize A * one64 = u at *
  generalize A' * one64 = v at *
  omega
/-- a quotient of two numbers that are not negative, in the least units -/
theorem quot {a b : UInt64} {c d : Nat} {q r : Int} (ha : val64 a = .fin false c q) (hb : val64 b = .fin false d r) (hd : d ≠ 0) :
    val64 (ddiv a b) = roundRatio b64 false (zmag b64 (val64 a)) (zmag b64 (val64 b)) 0 := by
  have fa := val64_fits a
  have fb := val64_fits b
  rw [ha] at fa; rw [hb] at fb
  have k1 : b64.qmin ≤ q := fa.2.1
  have k2 : b64.qmin ≤ r := fb.2.1
  rw [val64_ddiv, ha, hb]
  show (if d = 0 then _ else roundRatio b64 (false != false) c d (q - r)) = _
  rw [if_neg hd]
  show roundRatio b64 false c d (q - r) = roundRatio b64 false (c * 2 ^ (q - b64.qmin).toNat) (d * 2 ^ (r - b64.qmin).toNat) 0
  refine roundRatio_congr (Nat.pos_of_ne_zero hd) (Nat.mul_pos (Nat.pos_of_ne_zero hd) (Nat.two_pow_pos _)) ?_
  rw [Int.sub_zero, Int.zero_sub]
  have e1 : c * (d * 2 ^ (r - b64.qmin).toNat) * 2 ^ (q - r).toNat = c * d * 2 ^ ((r - b64.qmin).toNat + (q - r).toNat) := by rw [Nat.pow_add]; ac_rfl
  have e2 : c * 2 ^ (q - b64.qmin).toNat * d * 2 ^ (-(q - r)).toNat = c * d * 2 ^ ((q - b64.qmin).toNat + (-(q - r)).toNat) := by rw [Nat.pow_add]; ac_rfl
  rw [e1, e2]
  congr 2; omega
/-- a long that is not negative -/
theorem l2d_rr {u : Int64} (h : 0 ≤ u.toInt) : val64 (l2d u) = roundRatio b64 false u.toInt.natAbs 1 0 := by
  have h1 : val64 (l2d u) = roundRatio b64 (decide (u.toInt < 0)) u.toInt.natAbs 1 0 := val64_l2d u
  rwa [show decide (u.toInt < 0) = false by simp; omega] at h1
def zl (u : Int64) : Nat := zmag b64 (val64 (l2d u))
theorem zl_rho {u : Int64} (h : 0 ≤ u.toInt) : zl u = rho u.toInt.natAbs 1 := by unfold zl rho; rw [l2d_rr h]
theorem zl_mono {u v : Int64} (h : 0 ≤ u.toInt) (huv : u.toInt ≤ v.toInt) : zl u ≤ zl v := by
  rw [zl_rho h, zl_rho (by omega)]
  have := Int64.toInt_lt v
  exact rho_mono (by decide) (by omega) (by omega)
theorem zl_hi {u : Int64} (h : 0 ≤ u.toInt) : zl u ≤ 2 ^ 63 * one64 := by
  have := Int64.toInt_lt u
  rw [zl_rho h]
  have e : zmag b64 (P2 1137) = 2 ^ 63 * one64 := by rw [P2_mag (by decide), one, show (2 : Nat) ^ 63 = pw 63 from rfl, ← pw_add]
  rw [← e]
  refine rho_le (by decide) (P2_fits (by decide) (by decide)) (by unfold P2; exact Datum.noConfusion) ?_
  rw [e, Nat.mul_one]
  exact Nat.mul_le_mul_right _ (by omega)
theorem zl_lo {u : Int64} (h : 1 ≤ u.toInt) : one64 ≤ zl u := by
  rw [zl_rho (by omega)]
  have e : zmag b64 (P2 1074) = one64 := (P2_mag (by decide)).trans one.symm
  rw [← e]
  refine rho_ge (by decide) (P2_fits (by decide) (by decide)) ?_
  rw [e, Nat.mul_one]
  exact Nat.le_mul_of_pos_left _ (by omega)
theorem zl_exact {u : Int64} (h : 0 ≤ u.toInt) (h2 : u.toInt < 2 ^ 53) : zl u = u.toInt.natAbs * one64 := by
  rw [zl_rho h]
  have n := rho_near (A := u.toInt.natAbs) (B := 1) (c' := u.toInt.natAbs) (q' := 0) (by decide) (by omega) (by omega) (by decide)
  have e : (0 - b64.qmin).toNat = 1074 := by decide
  rw [e, ← one] at n
  generalize u.toInt.natAbs * one64 = x at *
  generalize rho u.toInt.natAbs 1 = y at *
  simp only [Int.natCast_one, Int.mul_one] at n
  omega
theorem i2d_l (n : Int32) : i2d n = l2d n.toInt64 := i2d_l2d n
/-- the step between two weights: D -/
def DD (n : Int32) (w : Int64) : UInt64 := ddiv (l2d w) (i2d n)
def zD (n : Int32) (w : Int64) : Nat := zmag b64 (val64 (DD n w))
theorem n64 (n : Int32) : n.toInt64.toInt = n.toInt := Int32.toInt_toInt64 n
theorem l2d_sh {u : Int64} (h : 0 ≤ u.toInt) : ∃ c q, val64 (l2d u) = .fin false c q := by
  obtain ⟨c, q, e⟩ := l2d_shape u
  rw [show decide (u.toInt < 0) = false by simp; omega] at e
  exact ⟨c, q, e⟩
theorem fin_pos {d : Datum} {c : Nat} {q : Int} (h : d = .fin false c q) (hz : zmag b64 d ≠ 0) : c ≠ 0 := by
  rintro rfl
  rw [h] at hz
  exact hz (Nat.zero_mul _)
theorem DD_rr {n : Int32} {w : Int64} (hn : 1 ≤ n.toInt) (hw : 0 ≤ w.toInt) : val64 (DD n w) = roundRatio b64 false (zl w) (zl n.toInt64) 0 := by
  have hn' : 1 ≤ n.toInt64.toInt := by rw [n64]; exact hn
  obtain ⟨c, q, e1⟩ := l2d_sh hw
  obtain ⟨d, r, e2⟩ := l2d_sh (u := n.toInt64) (by omega)
  have p := zl_lo hn'
  have hd : d ≠ 0 := fin_pos e2 (by show zl n.toInt64 ≠ 0; have := one64_pos; omega)
  unfold DD
  rw [i2d_l]
  exact quot e1 e2 hd
theorem zD_rho {n : Int32} {w : Int64} (hn : 1 ≤ n.toInt) (hw : 0 ≤ w.toInt) : zD n w = rho (zl w) (zl n.toInt64) := by unfold zD rho; rw [DD_rr hn hw]
theorem zl_pos {n : Int32} (hn : 1 ≤ n.toInt) : one64 ≤ zl n.toInt64 := zl_lo (by rw [n64]; exact hn)
theorem DD_small {n : Int32} {w : Int64} (hn : 1 ≤ n.toInt) (hw : 0 ≤ w.toInt) : zl w ≤ 2 ^ 100 * zl n.toInt64 :=
  Nat.le_trans (zl_hi hw) (Nat.mul_le_mul (by decide) (zl_pos hn))
theorem DD_fin {n : Int32} {w : Int64} (hn : 1 ≤ n.toInt) (hw : 0 ≤ w.toInt) : ∃ c q, val64 (DD n w) = .fin false c q := by
  rw [DD_rr hn hw]
  exact rr_fin (Nat.lt_of_lt_of_le one64_pos (zl_pos hn)) (DD_small hn hw)
theorem zl_n {n : Int32} (hn : 1 ≤ n.toInt) : zl n.toInt64 = n.toInt.natAbs * one64 := by
  have := Int32.toInt_lt n
  rw [zl_exact (by rw [n64]; omega) (by rw [n64]; omega), n64]
theorem zD_lo {n : Int32} {w : Int64} (hn : 1 ≤ n.toInt) (hw : 1 ≤ w.toInt) : pw 1043 ≤ zD n w := by
  have hlt := Int32.toInt_lt n
  rw [zD_rho hn (by omega), ← P2_mag (k := 1043) (by decide)]
  refine rho_ge (Nat.lt_of_lt_of_le one64_pos (zl_pos hn)) (P2_fits (by decide) (by decide)) ?_
  rw [P2_mag (by decide), zl_n hn, ← Nat.mul_assoc]
  refine Nat.mul_le_mul_right _ (Nat.le_trans ?_ (zl_lo hw))
  calc pw 1043 * n.toInt.natAbs ≤ pw 1043 * pw 31 := Nat.mul_le_mul_left _ (by rw [show pw 31 = 2 ^ 31 from rfl]; omega)
    _ = one64 := by rw [← pw_add, one]
/-- the uptime over the step: R -/
def RR (n : Int32) (w u : Int64) : UInt64 := ddiv (l2d u) (DD n w)
theorem RR_rr {n : Int32} {w u : Int64} (hn : 1 ≤ n.toInt) (hw : 1 ≤ w.toInt) (hu : 0 ≤ u.toInt) : val64 (RR n w u) = roundRatio b64 false (zl u) (zD n w) 0 := by
  obtain ⟨c, q, e1⟩ := l2d_sh hu
  obtain ⟨d, r, e2⟩ := DD_fin hn (w := w) (by omega)
  have p := zD_lo hn hw
  have hd : d ≠ 0 := fin_pos e2 (by show zD n w ≠ 0; have := pw_pos 1043; omega)
  exact quot e1 e2 hd
theorem RR_nn {n : Int32} {w u : Int64} (hn : 1 ≤ n.toInt) (hw : 1 ≤ w.toInt) (hu : 0 ≤ u.toInt) : val64 (RR n w u) ≠ .nan := by
  rw [RR_rr hn hw hu]
  rcases roundRatio_cases b64 false (zl u) (zD n w) 0 with ⟨c, q, h⟩ | h <;> rw [h] <;> exact Datum.noConfusion
theorem DD_nn {n : Int32} {w : Int64} (hn : 1 ≤ n.toInt) (hw : 0 ≤ w.toInt) : val64 (DD n w) ≠ .nan := by
  obtain ⟨c, q, h⟩ := DD_fin hn hw
  rw [h]; exact Datum.noConfusion
theorem RR_small {n : Int32} {w u : Int64} (hn : 1 ≤ n.toInt) (hw : 1 ≤ w.toInt) (hu : 0 ≤ u.toInt) : zl u ≤ 2 ^ 100 * zD n w := by
  refine Nat.le_trans (zl_hi hu) (Nat.le_trans ?_ (Nat.mul_le_mul_left _ (zD_lo hn hw)))
  rw [one, show (2 : Nat) ^ 63 = pw 63 from rfl, show (2 : Nat) ^ 100 = pw 100 from rfl, ← pw_add, ← pw_add]
  exact pw_le (by decide)
theorem zD_pos {n : Int32} {w : Int64} (hn : 1 ≤ n.toInt) (hw : 1 ≤ w.toInt) : 0 < zD n w := Nat.lt_of_lt_of_le (pw_pos 1043) (zD_lo hn hw)
def TT (n : Int32) (w u : Int64) : Int64 := d2l (RR n w u)
def tt (n : Int32) (w u : Int64) : Nat := rho (zl u) (zD n w) / one64
theorem TT_val {n : Int32} {w u : Int64} (hn : 1 ≤ n.toInt) (hw : 1 ≤ w.toInt) (hu : 0 ≤ u.toInt) : (TT n w u).toInt = min (2 ^ 63 - 1) (tt n w u : Int) := by
  unfold TT
  rw [d2l_val (RR_nn hn hw hu), RR_rr hn hw hu, sgn_roundRatio]
  show max (-2 ^ 63) (min (2 ^ 63 - 1) ((tt n w u : Nat) : Int)) = _
  omega
theorem tt_mono {n : Int32} {w u v : Int64} (hn : 1 ≤ n.toInt) (hw : 1 ≤ w.toInt) (hu : 0 ≤ u.toInt) (huv : u.toInt ≤ v.toInt) : tt n w u ≤ tt n w v :=
  Nat.div_le_div_right (rho_mono (zD_pos hn hw) (zl_mono hu huv) (RR_small hn hw (by omega)))
theorem TT_mono {n : Int32} {w u v : Int64} (hn : 1 ≤ n.toInt) (hw : 1 ≤ w.toInt) (hu : 0 ≤ u.toInt) (huv : u.toInt ≤ v.toInt) : (TT n w u).toInt ≤ (TT n w v).toInt := by
  rw [TT_val hn hw hu, TT_val hn hw (by omega)]
  have := tt_mono (n := n) (w := w) hn hw hu huv
  omega
/-- a scale at which the quotient has 34 to 53 digits -/
theorem scale {n w : Nat} (hn : 0 < n) (hw0 : w < 2 ^ 32) : ∀ j, 2 ^ 34 * n ≤ 2 ^ j * w → ∃ k, k ≤ j ∧ 2 ^ 34 * n ≤ 2 ^ k * w ∧ 2 ^ k * w < 2 ^ 53 * n
  | 0, h => ⟨0, Nat.le_refl _, h, by rw [Nat.pow_zero, Nat.one_mul]; omega⟩
  | j + 1, h => by
    by_cases g : 2 ^ 34 * n ≤ 2 ^ j * w
    · obtain ⟨k, h1, h2, h3⟩ := scale hn hw0 j g
      exact ⟨k, by omega, h2, h3⟩
    · refine ⟨j + 1, Nat.le_refl _, h, ?_⟩
      rw [Nat.pow_succ, Nat.mul_comm (2 ^ j) 2, Nat.mul_assoc]
      generalize 2 ^ j * w = z at *
      omega
/-- the step is w / n but for 2^-34 of it -/
theorem zD_near {n : Int32} {w : Int64} (hn : 1 ≤ n.toInt) (hw : 1 ≤ w.toInt) (hw2 : w.toInt < 2 ^ 32) :
    zD n w * n.toInt.natAbs * 2 ^ 34 ≤ w.toInt.natAbs * one64 * (2 ^ 34 + 1) ∧ w.toInt.natAbs * one64 * 2 ^ 34 ≤ zD n w * n.toInt.natAbs * 2 ^ 34 + w.toInt.natAbs * one64 := by
  have hlt := Int32.toInt_lt n
  have e0 : zD n w = rho w.toInt.natAbs n.toInt.natAbs := by
    rw [zD_rho hn (by omega), zl_n hn, zl_exact (by omega) (by omega)]
    unfold rho
    refine congrArg _ (roundRatio_congr (Nat.mul_pos (by omega) one64_pos) (by omega) ?_)
    show _ * 2 ^ 0 = _ * 2 ^ 0
    generalize one64 = W
    ac_rfl
  rw [e0]
  generalize hN : n.toInt.natAbs = N at *
  generalize hM : w.toInt.natAbs = M at *
  have hN0 : 0 < N := by omega
  obtain ⟨k, k1, k2, k3⟩ := scale (n := N) (w := M) hN0 (by omega) 66 (by
    have : 2 ^ 34 * N ≤ 2 ^ 66 * 1 := by omega
    exact Nat.le_trans this (Nat.mul_le_mul_left _ (by omega)))
  have hd := Nat.div_add_mod (2 ^ k * M) N
  have hm := Nat.mod_lt (2 ^ k * M) hN0
  have d := rho_near (A := M) (B := N) (c' := 2 ^ k * M / N) (q' := -(k : Int)) hN0 (by
    refine Nat.le_trans ?_ (Nat.mul_le_mul_left _ hN0); omega) ((Nat.div_lt_iff_lt_mul hN0).mpr k3) (by rw [qm]; omega)
  rw [qm, show (-(k : Int) - -1074).toNat = 1074 - k by omega] at d
  have ew : one64 = 2 ^ k * pw (1074 - k) := by rw [one, show 2 ^ k = pw k from rfl, ← pw_add]; congr 1; omega
  rw [← Int.natCast_mul, ← Int.natCast_mul] at d
  have e1 : M * one64 = 2 ^ k * M * pw (1074 - k) := by rw [ew]; ac_rfl
  have e2 : 2 ^ k * M / N * pw (1074 - k) * N = N * (2 ^ k * M / N) * pw (1074 - k) := by ac_rfl
  rw [e2, e1] at d
  rw [e1]
  generalize pw (1074 - k) = P at *
  generalize 2 ^ k * M = X at *
  generalize X / N = c at *
  generalize X % N = r at *
  subst hd
  have e3 : (N * c + r) * P = N * c * P + r * P := Nat.add_mul ..
  have e4 : r * P ≤ N * P := Nat.mul_le_mul_right _ (by omega)
  have e5 : 2 ^ 34 * N * P ≤ (N * c + r) * P := Nat.mul_le_mul_right _ k2
  rw [Nat.mul_assoc] at e5
  generalize rho M N * N = z at *
  generalize N * P = y at *
  generalize (N * c + r) * P = x at *
  generalize N * c * P = a at *
  generalize r * P = b at *
  omega
/-- half of a whole number is a double -/
theorem half {c : Nat} (h : c < 2 ^ 53) : ∃ V, fits b64 V ∧ V ≠ .nan ∧ 2 * zmag b64 V = c * one64 := by
  refine ⟨roundRatio b64 false c 2 0, roundRatio_fits good_b64 false c (by decide) 0, ?_, ?_⟩
  · rcases roundRatio_cases b64 false c 2 0 with ⟨c, q, h⟩ | h <;> rw [h] <;> exact Datum.noConfusion
  · have d := rho_near (A := c) (B := 2) (c' := c) (q' := -1) (by decide) (by omega) h (by decide)
    have ew : 2 * pw 1073 = one64 := by rw [one, show 1074 = 1 + 1073 from rfl, pw_add, show pw 1 = 2 from rfl]
    rw [qm, show (-1 - -1074 : Int).toNat = 1073 by decide] at d
    have e1 : c * one64 = c * pw 1073 * 2 := by rw [← ew, Nat.mul_comm 2, Nat.mul_assoc]
    show 2 * rho c 2 = _
    rw [e1] at d ⊢
    clear ew e1
    generalize c * pw 1073 = x at d ⊢
    generalize rho c 2 = y at d ⊢
    omega
/-- within one of the floor -/
theorem tt_near {n : Int32} {w u : Int64} {f : Nat} (hn : 1 ≤ n.toInt) (hw2 : w.toInt < 2 ^ 32) (hu : 0 ≤ u.toInt) (huw : u.toInt < w.toInt)
    (f1 : f * w.toInt.natAbs ≤ u.toInt.natAbs * n.toInt.natAbs) (f2 : u.toInt.natAbs * n.toInt.natAbs < (f + 1) * w.toInt.natAbs) (f3 : f < 2 ^ 31) : f ≤ tt n w u + 1 ∧ tt n w u ≤ f + 1 := by
  have hw : 1 ≤ w.toInt := by omega
  obtain ⟨g1, g2⟩ := zD_near hn hw hw2
  rw [show (2 : Nat) ^ 34 = 17179869184 from by decide] at g1 g2
  have p := zD_pos hn hw
  have eu := zl_exact (u := u) hu (by omega)
  unfold tt
  rw [eu]
  generalize hD : zD n w = D at *
  generalize hN : n.toInt.natAbs = N at *
  generalize hM : w.toInt.natAbs = M at *
  generalize hU : u.toInt.natAbs = U at *
  have hN0 : 0 < N := by omega
  have hW := one64_pos
  constructor
  · by_cases hf : f = 0
    · subst hf; exact Nat.zero_le _
    have s1 : (2 * f - 1) * (17179869184 + 1) ≤ 2 * f * 17179869184 := by clear g1 g2 f1 f2 eu p hW; omega
    have s2 : 2 * (f - 1) ≤ 2 * f - 1 := by clear g1 g2 f1 f2 eu p hW; omega
    obtain ⟨V, v1, v2, v3⟩ := half (c := 2 * f - 1) (by omega)
    have r := rho_ge (A := U * one64) (B := D) (V := V) p v1 (by
      have hC : 0 < 17179869184 := by decide
      generalize 17179869184 = C at *
      generalize 2 * f - 1 = c at *
      generalize one64 = W at *
      generalize zmag b64 V = z at *
      refine Nat.le_of_mul_le_mul_left (c := 2 * N * C) ?_ (Nat.mul_pos (Nat.mul_pos Nat.zero_lt_two hN0) hC)
      calc 2 * N * C * (z * D) = (2 * z) * (D * N * C) := by ac_rfl
        _ = c * W * (D * N * C) := by rw [v3]
        _ ≤ c * W * (M * W * (C + 1)) := Nat.mul_le_mul_left _ g1
        _ = c * (C + 1) * (M * W * W) := by ac_rfl
        _ ≤ 2 * f * C * (M * W * W) := Nat.mul_le_mul_right _ s1
        _ = f * M * (2 * C * W * W) := by ac_rfl
        _ ≤ U * N * (2 * C * W * W) := Nat.mul_le_mul_right _ f1
        _ = 2 * N * C * (U * W * W) := by ac_rfl)
    have s3 := Nat.mul_le_mul_right one64 s2
    have s4 : f - 1 ≤ rho (U * one64) D / one64 := by
      rw [Nat.le_div_iff_mul_le hW]
      rw [Nat.mul_assoc] at s3
      omega
    omega
  · have s1 : 2 * (f + 1) * 17179869184 + (2 * f + 3) ≤ (2 * f + 3) * 17179869184 := by clear g1 g2 f1 f2 eu p hW; omega
    obtain ⟨V, v1, v2, v3⟩ := half (c := 2 * f + 3) (by omega)
    have r := rho_le (A := U * one64) (B := D) (V := V) p v1 v2 (by
      have hC : 0 < 17179869184 := by decide
      generalize 17179869184 = C at *
      generalize hc : 2 * f + 3 = c at *
      generalize one64 = W at *
      generalize zmag b64 V = z at *
      refine Nat.le_of_mul_le_mul_left (c := 2 * N * C) ?_ (Nat.mul_pos (Nat.mul_pos Nat.zero_lt_two hN0) hC)
      have t1 : 2 * N * C * (U * W * W) ≤ 2 * (f + 1) * C * (M * W * W) := by
        calc 2 * N * C * (U * W * W) = U * N * (2 * C * W * W) := by ac_rfl
          _ ≤ (f + 1) * M * (2 * C * W * W) := Nat.mul_le_mul_right _ (Nat.le_of_lt f2)
          _ = 2 * (f + 1) * C * (M * W * W) := by ac_rfl
      have t2 : 2 * N * C * (z * D) = c * W * (D * N * C) := by
        calc 2 * N * C * (z * D) = (2 * z) * (D * N * C) := by ac_rfl
          _ = c * W * (D * N * C) := by rw [v3]
      have t3 := Nat.mul_le_mul_left (c * W) g2
      rw [Nat.mul_add] at t3
      have t4 := Nat.mul_le_mul_right (M * W * W) s1
      rw [Nat.add_mul] at t4
      have t5 : c * W * (M * W * C) = c * C * (M * W * W) := by ac_rfl
      have t6 : c * W * (M * W) = c * (M * W * W) := by ac_rfl
      rw [t5, t6] at t3
      rw [t2]
      generalize c * W * (D * N * C) = x1 at *
      generalize c * C * (M * W * W) = x2 at *
      generalize c * (M * W * W) = x3 at *
      generalize 2 * (f + 1) * C * (M * W * W) = x4 at *
      omega)
    have s4 : rho (U * one64) D / one64 < f + 2 := by
      rw [Nat.div_lt_iff_lt_mul hW]
      have s5 : (2 * f + 3) * one64 < 2 * (f + 2) * one64 := Nat.mul_lt_mul_of_pos_right (by omega) hW
      rw [Nat.mul_assoc] at s5
      omega
    omega
open Jvm.Free Jvm.LawKit Jvm.RoadKit in
theorem lt_iff (x y : Int64) : lcmpW x y < (0 : Int32) ↔ x.toInt < y.toInt := (lw_lt x y).trans Int64.lt_iff_toInt_lt
open Jvm.Free Jvm.LawKit Jvm.RoadKit in
theorem gt_iff (x y : Int64) : (0 : Int32) < lcmpW x y ↔ y.toInt < x.toInt := (lw_gt x y).trans Int64.lt_iff_toInt_lt
open Jvm.Free Jvm.LawKit Jvm.RoadKit in
def mnW (a b : Int64) : Int64 := if (0 : Int32) < lcmpW a b then b else a
open Jvm.Free Jvm.LawKit Jvm.RoadKit in
def mxW (a b : Int64) : Int64 := if lcmpW a b < (0 : Int32) then b else a
theorem mn_val (a b : Int64) : (mnW a b).toInt = min a.toInt b.toInt := by
  unfold mnW; split
  · rename_i h; rw [gt_iff] at h; omega
  · rename_i h; rw [gt_iff] at h; omega
theorem mx_val (a b : Int64) : (mxW a b).toInt = max a.toInt b.toInt := by
  unfold mxW; split
  · rename_i h; rw [lt_iff] at h; omega
  · rename_i h; rw [lt_iff] at h; omega
open Jvm.Free Jvm.LawKit Jvm.RoadKit in
def eff (n : Int32) (w u : Int64) : Int32 := if n = (0 : Int32) then (0 : Int32) else (if lcmpW u (0 : Int64) < (0 : Int32) then (1 : Int32) else (if lcmpW u w < (0 : Int32) then (mxW (1 : Int64) (mnW n.toInt64 (TT n w u))).toInt32 else n))
theorem i0 : (0 : Int32).toInt = 0 := by decide
theorem i1 : (1 : Int32).toInt = 1 := by decide
theorem l0 : (0 : Int64).toInt = 0 := by decide
theorem l1 : (1 : Int64).toInt = 1 := by decide
theorem one_le {n : Int32} (h : 0 ≤ n.toInt) (h0 : ¬ n = (0 : Int32)) : 1 ≤ n.toInt := by
  have : n.toInt ≠ 0 := fun q => h0 (Int32.toInt_inj.mp (q.trans i0.symm))
  omega
open Jvm.Free Jvm.LawKit Jvm.RoadKit in
theorem nn {u : Int64} (h : ¬ lcmpW u (0 : Int64) < (0 : Int32)) : 0 ≤ u.toInt := by rw [lt_iff, l0] at h; omega
open Jvm.Free Jvm.LawKit Jvm.RoadKit in
theorem in_lt {u w : Int64} (h : lcmpW u w < (0 : Int32)) : u.toInt < w.toInt := (lt_iff u w).mp h
open Jvm.Free Jvm.LawKit Jvm.RoadKit in
theorem nz {w : Int64} (h : (0 : Int32) < lcmpW w (0 : Int64)) : w ≠ 0 := by
  rintro rfl
  rw [gt_iff] at h; omega
theorem nz' {w : Int64} (h : 1 ≤ w.toInt) : w ≠ 0 := by
  rintro rfl
  rw [l0] at h; omega
theorem eff0 (w u : Int64) : eff 0 w u = 0 := by rw [eff, if_pos rfl]
theorem eff_neg {n : Int32} {w u : Int64} (h0 : ¬ n = (0 : Int32)) (hu : u.toInt < 0) : eff n w u = 1 := by
  rw [eff, if_neg h0, if_pos ((lt_iff _ _).mpr (by rw [l0]; exact hu))]
theorem eff_hi {n : Int32} {w u : Int64} (h0 : ¬ n = (0 : Int32)) (hu : 0 ≤ u.toInt) (hw : ¬ u.toInt < w.toInt) : eff n w u = n := by
  rw [eff, if_neg h0, if_neg (fun q => by rw [lt_iff, l0] at q; omega), if_neg (fun q => hw ((lt_iff _ _).mp q))]
theorem eff_in {n : Int32} {w u : Int64} (hn : 1 ≤ n.toInt) (hu : 0 ≤ u.toInt) (hw : u.toInt < w.toInt) : (eff n w u).toInt = max 1 (min n.toInt (TT n w u).toInt) := by
  have h0 : ¬ n = (0 : Int32) := fun q => by rw [q, i0] at hn; omega
  rw [eff, if_neg h0, if_neg (fun q => by rw [lt_iff, l0] at q; omega), if_pos ((lt_iff _ _).mpr hw)]
  have e : (mxW (1 : Int64) (mnW n.toInt64 (TT n w u))).toInt = max 1 (min n.toInt (TT n w u).toInt) := by rw [mx_val, mn_val, n64, l1]
  have := Int32.toInt_lt n
  rw [int64_toInt32 (by omega) (by omega), e]
theorem eff_range {n : Int32} {w u : Int64} (hn : 1 ≤ n.toInt) : 1 ≤ (eff n w u).toInt ∧ (eff n w u).toInt ≤ n.toInt := by
  have h0 : ¬ n = (0 : Int32) := fun q => by rw [q, i0] at hn; omega
  by_cases a : u.toInt < 0
  · rw [eff_neg h0 a, i1]; omega
  by_cases b : u.toInt < w.toInt
  · rw [eff_in hn (by omega) b]; omega
  · rw [eff_hi h0 (by omega) b]; omega
theorem eff_mono {n : Int32} {w u v : Int64} (hn : 0 ≤ n.toInt) (huv : u.toInt ≤ v.toInt) : (eff n w u).toInt ≤ (eff n w v).toInt := by
  by_cases h0 : n = (0 : Int32)
  · subst h0; rw [eff0, eff0]; exact Int.le_refl _
  have h1 := one_le hn h0
  by_cases a : u.toInt < 0
  · rw [eff_neg h0 a, i1]; exact (eff_range h1).1
  by_cases b : v.toInt < w.toInt
  · rw [eff_in h1 (by omega) (by omega), eff_in h1 (by omega) b]
    have := TT_mono (n := n) (w := w) (u := u) (v := v) h1 (by omega) (by omega) huv
    omega
  · rw [eff_hi (u := v) h0 (by omega) b]
    exact (eff_range h1).2
theorem eff_mm {n : Int32} {w u v : Int64} (hn : 0 ≤ n.toInt) : ¬ (eff n w (mxW u v) < eff n w (mnW u v)) := by
  rw [Int32.lt_iff_toInt_lt]
  have := eff_mono (w := w) (u := mnW u v) (v := mxW u v) hn (by rw [mn_val, mx_val]; omega)
  omega
theorem floor_val {n : Int32} {w u : Int64} (hn : 1 ≤ n.toInt) (hw2 : w.toInt < 2 ^ 32) (hu : 0 ≤ u.toInt) (huw : u.toInt < w.toInt) :
    ((u * n.toInt64) / w).toInt = u.toInt * n.toInt / w.toInt ∧ 0 ≤ u.toInt * n.toInt / w.toInt ∧ u.toInt * n.toInt / w.toInt < n.toInt := by
  have hlt := Int32.toInt_lt n
  have p0 : 0 ≤ u.toInt * n.toInt := Int.mul_nonneg hu (by omega)
  have p1 : u.toInt * n.toInt < w.toInt * n.toInt := Int.mul_lt_mul_of_pos_right huw (by omega)
  have p2 : w.toInt * n.toInt ≤ 2 ^ 32 * 2 ^ 31 := Int.mul_le_mul (by omega) (by omega) (by omega) (by decide)
  have e1 : (u * n.toInt64).toInt = u.toInt * n.toInt := by
    rw [int64_mul (by rw [n64]; omega) (by rw [n64]; omega), n64]
  have d0 : 0 ≤ u.toInt * n.toInt / w.toInt := Int.ediv_nonneg p0 (by omega)
  have d1 : u.toInt * n.toInt / w.toInt < n.toInt := Int.ediv_lt_of_lt_mul (by omega) (by rw [Int.mul_comm n.toInt]; exact p1)
  refine ⟨?_, d0, d1⟩
  rw [Int64.toInt_div, e1, Int.tdiv_eq_ediv_of_nonneg p0]
  exact Int.bmod_eq_of_le (by omega) (by omega)
theorem eff_near {n : Int32} {w u : Int64} (hn : 1 ≤ n.toInt) (hw2 : w.toInt < 2 ^ 32) (hu : 0 ≤ u.toInt) (huw : u.toInt < w.toInt) :
    u.toInt * n.toInt / w.toInt - 1 ≤ (TT n w u).toInt ∧ (TT n w u).toInt ≤ u.toInt * n.toInt / w.toInt + 1 := by
  obtain ⟨-, d0, d1⟩ := floor_val hn hw2 hu huw
  have hlt := Int32.toInt_lt n
  have hd := Int.mul_ediv_add_emod (u.toInt * n.toInt) w.toInt
  have hm0 := Int.emod_nonneg (u.toInt * n.toInt) (b := w.toInt) (by omega)
  have hm1 := Int.emod_lt_of_pos (u.toInt * n.toInt) (b := w.toInt) (by omega)
  obtain ⟨f, hf⟩ := Int.eq_ofNat_of_zero_le d0
  have hmul : ((u.toInt.natAbs * n.toInt.natAbs : Nat) : Int) = u.toInt * n.toInt := by
    rw [Int.natCast_mul, Int.natAbs_of_nonneg hu, Int.natAbs_of_nonneg (by omega)]
  have hfw : ((f * w.toInt.natAbs : Nat) : Int) = w.toInt * (u.toInt * n.toInt / w.toInt) := by
    rw [Int.natCast_mul, Int.natAbs_of_nonneg (by omega), hf, Int.mul_comm]
  have hfw1 : (((f + 1) * w.toInt.natAbs : Nat) : Int) = w.toInt * (u.toInt * n.toInt / w.toInt) + w.toInt := by
    rw [Nat.add_mul, Nat.one_mul, Int.natCast_add, hfw, Int.natAbs_of_nonneg (by omega)]
  have hf' : (f : Int) < 2 ^ 31 := by rw [hf] at d1; omega
  have q := tt_near (n := n) (w := w) (u := u) (f := f) hn hw2 hu huw (by omega) (by omega) (by omega)
  rw [TT_val hn (by omega) hu, hf]
  omega
open Jvm.Free Jvm.LawKit Jvm.RoadKit in
theorem law_lo {n : Int32} {w u : Int64} (hn : 1 ≤ n.toInt) (hw2 : w.toInt < 2 ^ 32) (hu : 0 ≤ u.toInt) (huw : u.toInt < w.toInt) :
    ¬ (lcmpW (eff n w u).toInt64 (mxW (1 : Int64) (((u * n.toInt64) / w) - (1 : Int64))) < (0 : Int32)) := by
  obtain ⟨e, d0, d1⟩ := floor_val hn hw2 hu huw
  have hlt := Int32.toInt_lt n
  have hs : (((u * n.toInt64) / w) - (1 : Int64)).toInt = u.toInt * n.toInt / w.toInt - 1 := by
    rw [int64_sub (by rw [e, l1]; omega) (by rw [e, l1]; omega), e, l1]
  have q := eff_near hn hw2 hu huw
  rw [lt_iff, n64, mx_val, hs, l1, eff_in hn hu huw]
  omega
open Jvm.Free Jvm.LawKit Jvm.RoadKit in
theorem law_hi {n : Int32} {w u : Int64} (hn : 1 ≤ n.toInt) (hw2 : w.toInt < 2 ^ 32) (hu : 0 ≤ u.toInt) (huw : u.toInt < w.toInt) :
    ¬ ((0 : Int32) < lcmpW (eff n w u).toInt64 (mnW n.toInt64 (((u * n.toInt64) / w) + (1 : Int64)))) := by
  obtain ⟨e, d0, d1⟩ := floor_val hn hw2 hu huw
  have hlt := Int32.toInt_lt n
  have hs : (((u * n.toInt64) / w) + (1 : Int64)).toInt = u.toInt * n.toInt / w.toInt + 1 := by
    rw [int64_add (by rw [e, l1]; omega) (by rw [e, l1]; omega), e, l1]
  have q := eff_near hn hw2 hu huw
  rw [gt_iff, n64, mn_val, hs, n64, eff_in hn hu huw]
  omega
open Jvm.Free Jvm.LawKit Jvm.RoadKit in
theorem w32 {w : Int64} (h : ¬ ((0 : Int32) < lcmpW w (4294967295 : Int64))) : w.toInt < 2 ^ 32 := by
  rw [gt_iff, show (4294967295 : Int64).toInt = 4294967295 by decide] at h
  omega
theorem and64 (x m : Int64) (hm : m.toBitVec.toNat < 2 ^ 63) : 0 ≤ (x &&& m).toInt := by
  have h : (x &&& m).toBitVec.toNat ≤ m.toBitVec.toNat := by rw [Int64.toBitVec_and, BitVec.toNat_and]; exact Nat.and_le_right
  show 0 ≤ (x &&& m).toBitVec.toInt
  rw [BitVec.toInt_eq_toNat_of_lt (by omega)]; omega
theorem and32 (x : Int32) : 0 ≤ (x &&& (2147483647 : Int32)).toInt := by
  have h : (x &&& (2147483647 : Int32)).toBitVec.toNat ≤ (2147483647 : Int32).toBitVec.toNat := by rw [Int32.toBitVec_and, BitVec.toNat_and]; exact Nat.and_le_right
  have h2 : (2147483647 : Int32).toBitVec.toNat = 2147483647 := by decide
  show 0 ≤ (x &&& (2147483647 : Int32)).toBitVec.toInt
  rw [BitVec.toInt_eq_toNat_of_lt (by omega)]; omega
theorem DD_no {n : Int32} {w : Int64} (hn : 1 ≤ n.toInt) (hw : 0 ≤ w.toInt) : Jvm.Free.Fl.NoNaN64 (DD n w) := Jvm.Free.Fl.noNaN64_no.mpr ((notNaN_iff _).mpr (DD_nn hn hw))
theorem RR_no {n : Int32} {w u : Int64} (hn : 1 ≤ n.toInt) (hw : 1 ≤ w.toInt) (hu : 0 ≤ u.toInt) : Jvm.Free.Fl.NoNaN64 (RR n w u) := Jvm.Free.Fl.noNaN64_no.mpr ((notNaN_iff _).mpr (RR_nn hn hw hu))
end Own

namespace Jvm.Pilot.@@N@@
open Jvm Jvm.ClassFile Sem Op Lib Jvm.Free Jvm.Stand Jvm.LawKit Jvm.RoadKit Bundle Jvm.Pilot.@@N@@.Jvm.D
theorem own_eqI {args : Array Value} {first s : State} {o : Option Outcome} {idx : List Nat} {a : Term} {k : Int32} (h : (Jvm.Cond.eq a (Term.int k)).value args first o s idx = some true) : a.eval args first o idx s = some (.int k) := by
  simp only [Cond.value, Term.eval] at h
  cases ha : a.eval args first o idx s with
  | none => simp [ha] at h
  | some x => cases x <;> simp [ha] at h ⊢; exact h
theorem own_eqR {args : Array Value} {first s : State} {o : Option Outcome} {idx : List Nat} {a b : Term} {y : Addr} (h : (Jvm.Cond.eq a b).value args first o s idx = some true) (hb : b.eval args first o idx s = some (.ref y)) : a.eval args first o idx s = some (.ref y) := by
  simp only [Cond.value, hb] at h
  cases ha : a.eval args first o idx s with
  | none => simp [ha] at h
  | some x => cases x <;> simp [ha] at h ⊢; exact h
theorem own_elemI {args : Array Value} {s : State} {t : Term} {a : Addr} {cell : Cell} {i : Int32} {v : Value} (ht : t.eval args s none [] s = some (.ref a)) (hAt : s.arrayAt? a = some cell) (h : (Term.elem t (.int i)).eval args s none [] s = some v) : cell.slots[i.toNatClampNeg]? = some v := by
  obtain ⟨a', j', cell', ht', hi', hAt', hin, hslot⟩ := Term.elem_spec h
  cases ht.symm.trans ht'
  cases hAt.symm.trans hAt'
  have q : (Term.int i).eval args s none [] s = some (.int i) := rfl
  cases q.symm.trans hi'
  exact hslot
theorem own_fld {args : Array Value} {s : State} {t : Term} {C n d : String} {x : Addr} {v : Value} (ht : t.eval args s none [] s = some (.ref x)) (h : (Term.field t C n d).eval args s none [] s = some v) : Fld s s.heap x C n d v := Fld.start ((fld_at ht).symm.trans h)
def QV (r : Value) (h0 : Heap) (n0 : Nat) (v : Option Value) (h : Heap) (L : List Loc) : Prop := v = some r ∧ Fr n0 L ∧ h = h0
theorem d5_0 : decode jdk_29_method_70_code 0 = .ok (.lload_n 0, 1) := by decide +kernel
theorem d5_1 : decode jdk_29_method_70_code 1 = .ok (.lload_n 2, 1) := by decide +kernel
theorem d5_2 : decode jdk_29_method_70_code 2 = .ok (.lcmp, 1) := by decide +kernel
theorem d5_3 : decode jdk_29_method_70_code 3 = .ok (.ifCond .gt 7, 3) := by decide +kernel
theorem d5_6 : decode jdk_29_method_70_code 6 = .ok (.lload_n 0, 1) := by decide +kernel
theorem d5_7 : decode jdk_29_method_70_code 7 = .ok (.goto 4, 3) := by decide +kernel
theorem d5_10 : decode jdk_29_method_70_code 10 = .ok (.lload_n 2, 1) := by decide +kernel
theorem d5_11 : decode jdk_29_method_70_code 11 = .ok (.lreturn, 1) := by decide +kernel
theorem ef_5 (m : MethodId) (x0 : Int64) (x1 : Int64) : entryFrame m #[(.long x0), (.long x1)] 4 = mkF m 0 #[.val (.long x0), .second, .val (.long x1), .second] [] := by first | (simp [entryFrame, mkF, argsToLocals, Value.category]; done) | rfl
set_option maxRecDepth 65536 in
set_option maxHeartbeats 40000000 in
theorem rm5 (l : Launch) (Z : State) (a0 : Array Value) (hw : ∀ d ∈ tables_1, d.before a0 Z = true) (ws : List Jvm.Cond) (q1 : Int64) (q2 : Int64) (h0 : Heap) (n0 : Nat) (Z0 : n0 ≤ h0.size)  :
    MetFree l (⟨"java/lang/Math", "min", "(JJ)J"⟩ : MethodName) (head1 (Jvm.Cond.code (⟨"java/lang/Math", "min", "(JJ)J"⟩ : MethodName) jdk_29_method_70_code 4 (some .long) :: ws) ({ frames := 0, cells := 0, slots := 0, locals := 0 } : Room)) (fun a U => a = #[(.long q1), (.long q2)] ∧ Z.Warmed39 U.vm ∧ U.heap = h0) (fun _ _ _ _ _ => True) (fun _ U o U' => ∃ v L, o = .returned v ∧ (QV (.long (Own.mnW q1 q2)) h0 n0 v U'.heap L) ∧ FrameEnd U o U' L ({ frames := 0, cells := 0, slots := 0, locals := 0 } : Room).cells ({ frames := 0, cells := 0, slots := 0, locals := 0 } : Room).slots) := by
  refine MetFree.of_bodySF (Jvm.Free.JP.mathPlain rfl (by decide +kernel)) hisR ?_
  intro p e s m args below meth cde s₁ Bd hml0 hP hK
  obtain ⟨rfl, hZ, hh⟩ := hP
  have hx := Bd.exec
  have hby := Bd.bytes
  have hml : cde.maxLocals = 4 := hml0
  have hown : s.vm.findClass "java/lang/Math" = some m.cls := findClass_of_methodNamed Bd.named
  have hnm := (name_of_methodNamed Bd.named Bd.method).1
  have X0 : Stand p l e ({ frames := 0, cells := 0, slots := 0, locals := 0 } : Room) s m #[(.long q1), (.long q2)] below meth cde s₁ [] 0 0 := Stand.of_body Bd
  have e0 : s₁.heap = h0 := by rw [← hh, Bd.state]; rfl
  have N0 := Fr.nil n0
  have pre0 : ∀ t, Steps p.tables e below (s₁.setTop (mkF m 0 #[.val (.long q1), .second, .val (.long q2), .second] [])) t → Steps p.tables e below (s₁.setTop (entryFrame m #[(.long q1), (.long q2)] 4)) t := fun t k => castTop (ef_5 m q1 q2) k
  have pre1 : ∀ t, Steps p.tables e below (s₁.setTop (mkF m 3 #[.val (.long q1), .second, .val (.long q2), .second] [(.int (lcmpW q1 q2))])) t → Steps p.tables e below (s₁.setTop (entryFrame m #[(.long q1), (.long q2)] 4)) t := fun t k => pre0 t (by
      show Steps p.tables e below (s₁.setTop (mkF m 0 #[.val (.long q1), .second, .val (.long q2), .second] [])) _
      refine XS.lloadN X0.here hx rfl (hb hby d5_0) rfl ?_
      show Steps p.tables e below (s₁.setTop (mkF m 1 #[.val (.long q1), .second, .val (.long q2), .second] [(.long q1)])) _
      refine XS.lloadN X0.here hx rfl (hb hby d5_1) rfl ?_
      show Steps p.tables e below (s₁.setTop (mkF m 2 #[.val (.long q1), .second, .val (.long q2), .second] [(.long q2), (.long q1)])) _
      refine XS.lcmp X0.here hx rfl (hb hby d5_2) rfl ?_
      exact k)
  by_cases hc3_2 : (0 : Int32) < (lcmpW q1 q2)
  · obtain ⟨fs, hr, hrun, hended, hW, hsame⟩ := X0.leave (v := some (.long q2)) (fun h => by rw [Bd.returns] at h; cases h)
    refine ⟨_, _, pre1 _ ?_, hrun, hended, _, _, rfl, ?_, ⟨_, rfl⟩, hW, hsame.mono (by decide) (by decide)⟩
    · show Steps p.tables e below (s₁.setTop (mkF m 3 #[.val (.long q1), .second, .val (.long q2), .second] [(.int (lcmpW q1 q2))])) _
      refine XS.ifYes X0.here hx rfl (pc0 := 3) (pc' := 10) rfl (hb hby d5_3) rfl ((if0 _ _).trans (tlt hc3_2).2.2.1) (by decide) (by decide) ?_
      show Steps p.tables e below (s₁.setTop (mkF m 10 #[.val (.long q1), .second, .val (.long q2), .second] [])) _
      refine XS.lloadN X0.here hx rfl (hb hby d5_10) rfl ?_
      show Steps p.tables e below (s₁.setTop (mkF m 11 #[.val (.long q1), .second, .val (.long q2), .second] [(.long q2)])) _
      jvm_step X0.here [X0.here.top, hx, (hb hby d5_11), X0.method', Bd.returns, narrow]
      first | (intro acts; rw [hr _ acts rfl rfl rfl]) | rw [hr _ _ rfl rfl rfl]
      exact Steps.refl _
    · show QV (.long (Own.mnW q1 q2)) h0 n0 _ s₁.heap _
      rw [e0]
      exact ⟨by rw [Own.mnW, if_pos hc3_2], N0, rfl⟩
  · obtain ⟨fs, hr, hrun, hended, hW, hsame⟩ := X0.leave (v := some (.long q1)) (fun h => by rw [Bd.returns] at h; cases h)
    refine ⟨_, _, pre1 _ ?_, hrun, hended, _, _, rfl, ?_, ⟨_, rfl⟩, hW, hsame.mono (by decide) (by decide)⟩
    · show Steps p.tables e below (s₁.setTop (mkF m 3 #[.val (.long q1), .second, .val (.long q2), .second] [(.int (lcmpW q1 q2))])) _
      refine XS.ifNo X0.here hx rfl (hb hby d5_3) rfl ((if0 _ _).trans (flt hc3_2).2.2.1) ?_
      show Steps p.tables e below (s₁.setTop (mkF m 6 #[.val (.long q1), .second, .val (.long q2), .second] [])) _
      refine XS.lloadN X0.here hx rfl (hb hby d5_6) rfl ?_
      show Steps p.tables e below (s₁.setTop (mkF m 7 #[.val (.long q1), .second, .val (.long q2), .second] [(.long q1)])) _
      refine XS.goto X0.here hx rfl (pc0 := 7) (pc' := 11) rfl (hb hby d5_7) (by decide) (by decide) ?_
      show Steps p.tables e below (s₁.setTop (mkF m 11 #[.val (.long q1), .second, .val (.long q2), .second] [(.long q1)])) _
      jvm_step X0.here [X0.here.top, hx, (hb hby d5_11), X0.method', Bd.returns, narrow]
      first | (intro acts; rw [hr _ acts rfl rfl rfl]) | rw [hr _ _ rfl rfl rfl]
      exact Steps.refl _
    · show QV (.long (Own.mnW q1 q2)) h0 n0 _ s₁.heap _
      rw [e0]
      exact ⟨by rw [Own.mnW, if_neg hc3_2], N0, rfl⟩
theorem d6_0 : decode jdk_29_method_66_code 0 = .ok (.lload_n 0, 1) := by decide +kernel
theorem d6_1 : decode jdk_29_method_66_code 1 = .ok (.lload_n 2, 1) := by decide +kernel
theorem d6_2 : decode jdk_29_method_66_code 2 = .ok (.lcmp, 1) := by decide +kernel
theorem d6_3 : decode jdk_29_method_66_code 3 = .ok (.ifCond .lt 7, 3) := by decide +kernel
theorem d6_6 : decode jdk_29_method_66_code 6 = .ok (.lload_n 0, 1) := by decide +kernel
theorem d6_7 : decode jdk_29_method_66_code 7 = .ok (.goto 4, 3) := by decide +kernel
theorem d6_10 : decode jdk_29_method_66_code 10 = .ok (.lload_n 2, 1) := by decide +kernel
theorem d6_11 : decode jdk_29_method_66_code 11 = .ok (.lreturn, 1) := by decide +kernel
theorem ef_6 (m : MethodId) (x0 : Int64) (x1 : Int64) : entryFrame m #[(.long x0), (.long x1)] 4 = mkF m 0 #[.val (.long x0), .second, .val (.long x1), .second] [] := by first | (simp [entryFrame, mkF, argsToLocals, Value.category]; done) | rfl
set_option maxRecDepth 65536 in
set_option maxHeartbeats 40000000 in
theorem rm6 (l : Launch) (Z : State) (a0 : Array Value) (hw : ∀ d ∈ tables_1, d.before a0 Z = true) (ws : List Jvm.Cond) (q1 : Int64) (q2 : Int64) (h0 : Heap) (n0 : Nat) (Z0 : n0 ≤ h0.size)  :
    MetFree l (⟨"java/lang/Math", "max", "(JJ)J"⟩ : MethodName) (head1 (Jvm.Cond.code (⟨"java/lang/Math", "max", "(JJ)J"⟩ : MethodName) jdk_29_method_66_code 4 (some .long) :: ws) ({ frames := 0, cells := 0, slots := 0, locals := 0 } : Room)) (fun a U => a = #[(.long q1), (.long q2)] ∧ Z.Warmed39 U.vm ∧ U.heap = h0) (fun _ _ _ _ _ => True) (fun _ U o U' => ∃ v L, o = .returned v ∧ (QV (.long (Own.mxW q1 q2)) h0 n0 v U'.heap L) ∧ FrameEnd U o U' L ({ frames := 0, cells := 0, slots := 0, locals := 0 } : Room).cells ({ frames := 0, cells := 0, slots := 0, locals := 0 } : Room).slots) := by
  refine MetFree.of_bodySF (Jvm.Free.JP.mathPlain rfl (by decide +kernel)) hisR ?_
  intro p e s m args below meth cde s₁ Bd hml0 hP hK
  obtain ⟨rfl, hZ, hh⟩ := hP
  have hx := Bd.exec
  have hby := Bd.bytes
  have hml : cde.maxLocals = 4 := hml0
  have hown : s.vm.findClass "java/lang/Math" = some m.cls := findClass_of_methodNamed Bd.named
  have hnm := (name_of_methodNamed Bd.named Bd.method).1
  have X0 : Stand p l e ({ frames := 0, cells := 0, slots := 0, locals := 0 } : Room) s m #[(.long q1), (.long q2)] below meth cde s₁ [] 0 0 := Stand.of_body Bd
  have e0 : s₁.heap = h0 := by rw [← hh, Bd.state]; rfl
  have N0 := Fr.nil n0
  have pre0 : ∀ t, Steps p.tables e below (s₁.setTop (mkF m 0 #[.val (.long q1), .second, .val (.long q2), .second] [])) t → Steps p.tables e below (s₁.setTop (entryFrame m #[(.long q1), (.long q2)] 4)) t := fun t k => castTop (ef_6 m q1 q2) k
  have pre1 : ∀ t, Steps p.tables e below (s₁.setTop (mkF m 3 #[.val (.long q1), .second, .val (.long q2), .second] [(.int (lcmpW q1 q2))])) t → Steps p.tables e below (s₁.setTop (entryFrame m #[(.long q1), (.long q2)] 4)) t := fun t k => pre0 t (by
      show Steps p.tables e below (s₁.setTop (mkF m 0 #[.val (.long q1), .second, .val (.long q2), .second] [])) _
      refine XS.lloadN X0.here hx rfl (hb hby d6_0) rfl ?_
      show Steps p.tables e below (s₁.setTop (mkF m 1 #[.val (.long q1), .second, .val (.long q2), .second] [(.long q1)])) _
      refine XS.lloadN X0.here hx rfl (hb hby d6_1) rfl ?_
      show Steps p.tables e below (s₁.setTop (mkF m 2 #[.val (.long q1), .second, .val (.long q2), .second] [(.long q2), (.long q1)])) _
      refine XS.lcmp X0.here hx rfl (hb hby d6_2) rfl ?_
      exact k)
  by_cases hc3_2 : (lcmpW q1 q2) < (0 : Int32)
  · obtain ⟨fs, hr, hrun, hended, hW, hsame⟩ := X0.leave (v := some (.long q2)) (fun h => by rw [Bd.returns] at h; cases h)
    refine ⟨_, _, pre1 _ ?_, hrun, hended, _, _, rfl, ?_, ⟨_, rfl⟩, hW, hsame.mono (by decide) (by decide)⟩
    · show Steps p.tables e below (s₁.setTop (mkF m 3 #[.val (.long q1), .second, .val (.long q2), .second] [(.int (lcmpW q1 q2))])) _
      refine XS.ifYes X0.here hx rfl (pc0 := 3) (pc' := 10) rfl (hb hby d6_3) rfl ((if0 _ _).trans (tlt hc3_2).1) (by decide) (by decide) ?_
      show Steps p.tables e below (s₁.setTop (mkF m 10 #[.val (.long q1), .second, .val (.long q2), .second] [])) _
      refine XS.lloadN X0.here hx rfl (hb hby d6_10) rfl ?_
      show Steps p.tables e below (s₁.setTop (mkF m 11 #[.val (.long q1), .second, .val (.long q2), .second] [(.long q2)])) _
      jvm_step X0.here [X0.here.top, hx, (hb hby d6_11), X0.method', Bd.returns, narrow]
      first | (intro acts; rw [hr _ acts rfl rfl rfl]) | rw [hr _ _ rfl rfl rfl]
      exact Steps.refl _
    · show QV (.long (Own.mxW q1 q2)) h0 n0 _ s₁.heap _
      rw [e0]
      exact ⟨by rw [Own.mxW, if_pos hc3_2], N0, rfl⟩
  · obtain ⟨fs, hr, hrun, hended, hW, hsame⟩ := X0.leave (v := some (.long q1)) (fun h => by rw [Bd.returns] at h; cases h)
    refine ⟨_, _, pre1 _ ?_, hrun, hended, _, _, rfl, ?_, ⟨_, rfl⟩, hW, hsame.mono (by decide) (by decide)⟩
    · show Steps p.tables e below (s₁.setTop (mkF m 3 #[.val (.long q1), .second, .val (.long q2), .second] [(.int (lcmpW q1 q2))])) _
      refine XS.ifNo X0.here hx rfl (hb hby d6_3) rfl ((if0 _ _).trans (flt hc3_2).1) ?_
      show Steps p.tables e below (s₁.setTop (mkF m 6 #[.val (.long q1), .second, .val (.long q2), .second] [])) _
      refine XS.lloadN X0.here hx rfl (hb hby d6_6) rfl ?_
      show Steps p.tables e below (s₁.setTop (mkF m 7 #[.val (.long q1), .second, .val (.long q2), .second] [(.long q1)])) _
      refine XS.goto X0.here hx rfl (pc0 := 7) (pc' := 11) rfl (hb hby d6_7) (by decide) (by decide) ?_
      show Steps p.tables e below (s₁.setTop (mkF m 11 #[.val (.long q1), .second, .val (.long q2), .second] [(.long q1)])) _
      jvm_step X0.here [X0.here.top, hx, (hb hby d6_11), X0.method', Bd.returns, narrow]
      first | (intro acts; rw [hr _ acts rfl rfl rfl]) | rw [hr _ _ rfl rfl rfl]
      exact Steps.refl _
    · show QV (.long (Own.mxW q1 q2)) h0 n0 _ s₁.heap _
      rw [e0]
      exact ⟨by rw [Own.mxW, if_neg hc3_2], N0, rfl⟩
theorem d2_0 : decode jdk_30_method_1_code 0 = .ok (.aload_n 0, 1) := by decide +kernel
theorem d2_1 : decode jdk_30_method_1_code 1 = .ok (.invokespecial 1, 3) := by decide +kernel
theorem d2_4 : decode jdk_30_method_1_code 4 = .ok (.return_, 1) := by decide +kernel
theorem pn_0 : plainName "java/lang/Record" = true := by first | (simp [plainName, overriddenIn]; done) | decide +kernel
theorem ef_2 (m : MethodId) (x0 : Addr) : entryFrame m #[(.ref x0)] 1 = mkF m 0 #[.val (.ref x0)] [] := by first | (simp [entryFrame, mkF, argsToLocals, Value.category]; done) | rfl
def Q_rm2 (Z : State) (a1 : Addr) (h0 : Heap) (n0 : Nat) (v : Option Value) (h : Heap) (L : List Loc) : Prop := v = none ∧ Fr n0 L ∧ h = h0
set_option maxRecDepth 65536 in
set_option maxHeartbeats 40000000 in
theorem rm2 (l : Launch) (Z : State) (a0 : Array Value) (hw : ∀ d ∈ tables_1, d.before a0 Z = true) (ws : List Jvm.Cond) (a1 : Addr) (h0 : Heap) (n0 : Nat) (Z0 : n0 ≤ h0.size)  :
    MetFree l (⟨"java/lang/Record", "<init>", "()V"⟩ : MethodName) (head1 (Jvm.Cond.code (⟨"java/lang/Record", "<init>", "()V"⟩ : MethodName) jdk_30_method_1_code 1 none :: ws) ({ frames := 1, cells := 0, slots := 0, locals := 12 } : Room)) (fun a U => a = #[(.ref a1)] ∧ Z.Warmed39 U.vm ∧ U.heap = h0) (fun _ _ _ _ _ => True) (fun _ U o U' => ∃ v L, o = .returned v ∧ (Q_rm2 Z a1 h0 n0 v U'.heap L) ∧ FrameEnd U o U' L ({ frames := 1, cells := 0, slots := 0, locals := 12 } : Room).cells ({ frames := 1, cells := 0, slots := 0, locals := 12 } : Room).slots) := by
  refine MetFree.of_bodySF (plainFor_of_name pn_0) hisR ?_
  intro p e s m args below meth cde s₁ Bd hml0 hP hK
  obtain ⟨rfl, hZ, hh⟩ := hP
  have hx := Bd.exec
  have hby := Bd.bytes
  have hml : cde.maxLocals = 1 := hml0
  have hown : s.vm.findClass "java/lang/Record" = some m.cls := findClass_of_methodNamed Bd.named
  have hnm := (name_of_methodNamed Bd.named Bd.method).1
  have X0 : Stand p l e ({ frames := 1, cells := 0, slots := 0, locals := 12 } : Room) s m #[(.ref a1)] below meth cde s₁ [] 0 0 := Stand.of_body Bd
  have e0 : s₁.heap = h0 := by rw [← hh, Bd.state]; rfl
  have N0 := Fr.nil n0
  have pre0 : ∀ t, Steps p.tables e below (s₁.setTop (mkF m 0 #[.val (.ref a1)] [])) t → Steps p.tables e below (s₁.setTop (entryFrame m #[(.ref a1)] 1)) t := fun t k => castTop (ef_2 m a1) k
  obtain ⟨T1, X1, e1, st1⟩ := initO X0 hx hZ hown (hw _ (List.mem_of_getElem? (i := 13) rfl)) (hw _ (List.mem_of_getElem? (i := 14) rfl)) (hw _ (List.mem_of_getElem? (i := 15) rfl)) e0 (g := (mkF m 1 #[.val (.ref a1)] [(.ref a1)])) rfl (by rw [hml]; rfl) rfl (hb hby d2_1) (by decide) (W := 0) (by show 2 * 0 + _ ≤ _; exact Nat.le_of_eq rfl) (by decide)
  obtain ⟨fs, hr, hrun, hended, hW, hsame⟩ := X1.leave (v := none) (fun _ => rfl)
  refine ⟨_, _, pre0 _ ?_, hrun, hended, _, _, rfl, ?_, ⟨_, rfl⟩, hW, hsame.mono (by decide) (by decide)⟩
  · show Steps p.tables e below (s₁.setTop (mkF m 0 #[.val (.ref a1)] [])) _
    refine XS.aloadN X0.here hx rfl (hb hby d2_0) rfl rfl ?_
    show Steps p.tables e below (s₁.setTop (mkF m 1 #[.val (.ref a1)] [(.ref a1)])) _
    refine st1 _ ?_
    show Steps p.tables e below (T1.setTop (mkF m 4 #[.val (.ref a1)] [])) _
    exact X1.returnOut hx Bd.returns (hb hby d2_4) hr
  · show Q_rm2 Z a1 h0 n0 _ T1.heap _
    rw [e1]
    exact ⟨rfl, N0, rfl⟩
theorem d1_0 : decode prog_14_method_1_code 0 = .ok (.aload_n 0, 1) := by decide +kernel
theorem d1_1 : decode prog_14_method_1_code 1 = .ok (.invokespecial 1, 3) := by decide +kernel
theorem d1_4 : decode prog_14_method_1_code 4 = .ok (.iload_n 1, 1) := by decide +kernel
theorem d1_5 : decode prog_14_method_1_code 5 = .ok (.ifCond .ge 17, 3) := by decide +kernel
theorem d1_8 : decode prog_14_method_1_code 8 = .ok (.new 7, 3) := by decide +kernel
theorem d1_11 : decode prog_14_method_1_code 11 = .ok (.dup, 1) := by decide +kernel
theorem d1_12 : decode prog_14_method_1_code 12 = .ok (.iload_n 1, 1) := by decide +kernel
theorem d1_13 : decode prog_14_method_1_code 13 = .ok (.invokedynamic 9, 5) := by decide +kernel
theorem d1_18 : decode prog_14_method_1_code 18 = .ok (.invokespecial 13, 3) := by decide +kernel
theorem d1_21 : decode prog_14_method_1_code 21 = .ok (.athrow, 1) := by decide +kernel
theorem d1_22 : decode prog_14_method_1_code 22 = .ok (.lload_n 2, 1) := by decide +kernel
theorem d1_23 : decode prog_14_method_1_code 23 = .ok (.lconst 0, 1) := by decide +kernel
theorem d1_24 : decode prog_14_method_1_code 24 = .ok (.lcmp, 1) := by decide +kernel
theorem d1_25 : decode prog_14_method_1_code 25 = .ok (.ifCond .ge 17, 3) := by decide +kernel
theorem d1_28 : decode prog_14_method_1_code 28 = .ok (.new 7, 3) := by decide +kernel
theorem d1_31 : decode prog_14_method_1_code 31 = .ok (.dup, 1) := by decide +kernel
theorem d1_32 : decode prog_14_method_1_code 32 = .ok (.lload_n 2, 1) := by decide +kernel
theorem d1_33 : decode prog_14_method_1_code 33 = .ok (.invokedynamic 16, 5) := by decide +kernel
theorem d1_38 : decode prog_14_method_1_code 38 = .ok (.invokespecial 13, 3) := by decide +kernel
theorem d1_41 : decode prog_14_method_1_code 41 = .ok (.athrow, 1) := by decide +kernel
theorem d1_42 : decode prog_14_method_1_code 42 = .ok (.aload_n 0, 1) := by decide +kernel
theorem d1_43 : decode prog_14_method_1_code 43 = .ok (.iload_n 1, 1) := by decide +kernel
theorem d1_44 : decode prog_14_method_1_code 44 = .ok (.putfield 19, 3) := by decide +kernel
theorem d1_47 : decode prog_14_method_1_code 47 = .ok (.aload_n 0, 1) := by decide +kernel
theorem d1_48 : decode prog_14_method_1_code 48 = .ok (.lload_n 2, 1) := by decide +kernel
theorem d1_49 : decode prog_14_method_1_code 49 = .ok (.putfield 25, 3) := by decide +kernel
theorem d1_52 : decode prog_14_method_1_code 52 = .ok (.return_, 1) := by decide +kernel
theorem pn_1 : plainName "com/example/curtaincall/curtaincall/core/Weight" = true := by first | (simp [plainName, overriddenIn]; done) | decide +kernel
theorem ef_1 (m : MethodId) (x0 : Addr) (x1 : Int32) (x2 : Int64) : entryFrame m #[(.ref x0), (.int x1), (.long x2)] 4 = mkF m 0 #[.val (.ref x0), .val (.int x1), .val (.long x2), .second] [] := by first | (simp [entryFrame, mkF, argsToLocals, Value.category]; done) | rfl
def Q_rm1 (Z : State) (a1 : Addr) (p2 : Int32) (q3 : Int64) (u u' : Value) (h0 : Heap) (n0 : Nat) (v : Option Value) (h : Heap) (L : List Loc) : Prop := v = none ∧ Fr n0 L ∧ Keep h0 h [a1] ∧ Exa Z h a1 "com/example/curtaincall/curtaincall/core/Weight" ∧ Fld Z h a1 "com/example/curtaincall/curtaincall/core/Weight" "full" "I" (.int p2) ∧ Fld Z h a1 "com/example/curtaincall/curtaincall/core/Weight" "warmupMs" "J" (.long q3)
theorem pd_0 : parseMethodDescriptor "()V" = some ⟨[], none⟩ := by decide +kernel
set_option maxRecDepth 65536 in
set_option maxHeartbeats 40000000 in
theorem rm1 (l : Launch) (Z : State) (a0 : Array Value) (hw : ∀ d ∈ tables_1, d.before a0 Z = true) (ws : List Jvm.Cond) (a1 : Addr) (p2 : Int32) (q3 : Int64) (u u' : Value) (h0 : Heap) (n0 : Nat) (Z0 : n0 ≤ h0.size) (E_a1 : Exa Z h0 a1 "com/example/curtaincall/curtaincall/core/Weight") (F_f : Fld Z h0 a1 "com/example/curtaincall/curtaincall/core/Weight" "full" "I" u) (F_w : Fld Z h0 a1 "com/example/curtaincall/curtaincall/core/Weight" "warmupMs" "J" u') (g_a1 : n0 ≤ a1) (hp2 : ¬ (p2 < (0 : Int32))) (hq3 : ¬ ((lcmpW q3 (0 : Int64)) < (0 : Int32))) :
    MetFree l (⟨"com/example/curtaincall/curtaincall/core/Weight", "<init>", "(IJ)V"⟩ : MethodName) (head1 (Jvm.Cond.code (⟨"com/example/curtaincall/curtaincall/core/Weight", "<init>", "(IJ)V"⟩ : MethodName) prog_14_method_1_code 4 none :: ws) ({ frames := 2, cells := 0, slots := 0, locals := 24 } : Room)) (fun a U => a = #[(.ref a1), (.int p2), (.long q3)] ∧ Z.Warmed39 U.vm ∧ U.heap = h0) (fun _ _ _ _ _ => True) (fun _ U o U' => ∃ v L, o = .returned v ∧ (Q_rm1 Z a1 p2 q3 u u' h0 n0 v U'.heap L) ∧ FrameEnd U o U' L ({ frames := 2, cells := 0, slots := 0, locals := 24 } : Room).cells ({ frames := 2, cells := 0, slots := 0, locals := 24 } : Room).slots) := by
  refine MetFree.of_bodySF (plainFor_of_name pn_1) hisR ?_
  intro p e s m args below meth cde s₁ Bd hml0 hP hK
  obtain ⟨rfl, hZ, hh⟩ := hP
  have hx := Bd.exec
  have hby := Bd.bytes
  have hml : cde.maxLocals = 4 := hml0
  have hown : s.vm.findClass "com/example/curtaincall/curtaincall/core/Weight" = some m.cls := findClass_of_methodNamed Bd.named
  have hnm := (name_of_methodNamed Bd.named Bd.method).1
  have X0 : Stand p l e ({ frames := 2, cells := 0, slots := 0, locals := 24 } : Room) s m #[(.ref a1), (.int p2), (.long q3)] below meth cde s₁ [] 0 0 := Stand.of_body Bd
  have e0 : s₁.heap = h0 := by rw [← hh, Bd.state]; rfl
  have N0 := Fr.nil n0
  have pre0 : ∀ t, Steps p.tables e below (s₁.setTop (mkF m 0 #[.val (.ref a1), .val (.int p2), .val (.long q3), .second] [])) t → Steps p.tables e below (s₁.setTop (entryFrame m #[(.ref a1), (.int p2), (.long q3)] 4)) t := fun t k => castTop (ef_1 m a1 p2 q3) k
  obtain ⟨_, _, ⟨T1, L1, k1, n1⟩, -, X1, ⟨Lc1, hQ1, l1, y1, z1⟩, st1⟩ := X0.specialBack hx (y := (⟨"java/lang/Record", "<init>", "()V"⟩ : MethodName)) rfl hown (mvT hZ (hw _ (List.mem_of_getElem? (i := 8) rfl))) (mvT hZ (hw _ (List.mem_of_getElem? (i := 9) rfl))) (mvT hZ (hw _ (List.mem_of_getElem? (i := 12) rfl))) (by decide) (backOf (W := 0) (rm2 l Z a0 hw [] a1 h0 n0 Z0) hZ (hw _ (List.mem_of_getElem? (i := 12) rfl)) (hw _ (List.mem_of_getElem? (i := 11) rfl)) (by decide) (by decide)) (g := (mkF m 1 #[.val (.ref a1), .val (.int p2), .val (.long q3), .second] [(.ref a1)])) rfl (by rw [hml]; rfl) (Steps.refl _) (a := a1) (argsL := []) (rest := []) (lenOf pd_0 rfl) rfl (by show 2 * 0 + _ ≤ _; exact Nat.le_of_eq rfl) (hb hby d1_1) (fun _ _ => ⟨rfl, e0, (by decide : 0 + 0 ≤ _), (by decide : 0 + 0 ≤ _)⟩)
  dsimp only [Pt.U, Pt.locs, Pt.cells, Pt.slots] at X1 l1 y1 z1 st1 hQ1
  subst l1 y1 z1
  obtain ⟨rfl, N1q, e1⟩ := hQ1
  have N1 := Fr.app N0 N1q
  obtain ⟨T2, h2, X2, e2, W2, st2⟩ := putF X1 hx hZ hown (host := "") (Or.inl (hw _ (List.mem_of_getElem? (i := 16) rfl))) Via.refl e1 F_f E_a1 (Or.inr ⟨(hw _ (List.mem_of_getElem? (i := 17) rfl)), rfl, hnm⟩) (hw _ (List.mem_of_getElem? (i := 3) rfl)) (ty := .int) (by decide) rfl rfl (g := (mkF m 44 #[.val (.ref a1), .val (.int p2), .val (.long q3), .second] [(.int p2), (.ref a1)])) rfl rfl (hb hby d1_44)
  have N2 := Fr.snoc X2 N1 g_a1
  have K2_ : Keep h0 h2 [a1] := (Keep.refl h0 [a1]).wr W2 (Or.inl (List.mem_of_getElem? (i := 0) rfl))
  have z2_ : n0 ≤ (h2).size := Nat.le_trans Z0 (Keep.of_wr W2).1
  have F2_full_a1 := F_f.same W2
  have F2_warmupMs_a1 := F_w.other W2 (Or.inr (slot_ne (Or.inr (hw _ (List.mem_of_getElem? (i := 19) rfl))) (Or.inr (hw _ (List.mem_of_getElem? (i := 17) rfl))) (by decide) (t := .long) (t' := .int) (by decide) (by decide)))
  have E2_a1 := E_a1.wr W2
  obtain ⟨T3, h3, X3, e3, W3, st3⟩ := putF X2 hx hZ hown (host := "") (Or.inl (hw _ (List.mem_of_getElem? (i := 18) rfl))) Via.refl e2 F2_warmupMs_a1 E2_a1 (Or.inr ⟨(hw _ (List.mem_of_getElem? (i := 19) rfl)), rfl, hnm⟩) (hw _ (List.mem_of_getElem? (i := 3) rfl)) (ty := .long) (by decide) rfl rfl (g := (mkF m 49 #[.val (.ref a1), .val (.int p2), .val (.long q3), .second] [(.long q3), (.ref a1)])) rfl rfl (hb hby d1_49)
  have N3 := Fr.snoc X3 N2 g_a1
  have K3_ : Keep h0 h3 [a1] := K2_.wr W3 (Or.inl (List.mem_of_getElem? (i := 0) rfl))
  have z3_ : n0 ≤ (h3).size := Nat.le_trans z2_ (Keep.of_wr W3).1
  have F3_full_a1 := F2_full_a1.other W3 (Or.inr (slot_ne (Or.inr (hw _ (List.mem_of_getElem? (i := 17) rfl))) (Or.inr (hw _ (List.mem_of_getElem? (i := 19) rfl))) (by decide) (t := .int) (t' := .long) (by decide) (by decide)))
  have F3_warmupMs_a1 := F2_warmupMs_a1.same W3
  have E3_a1 := E2_a1.wr W3
  obtain ⟨fs, hr, hrun, hended, hW, hsame⟩ := X3.leave (v := none) (fun _ => rfl)
  refine ⟨_, _, pre0 _ ?_, hrun, hended, _, _, rfl, ?_, ⟨_, rfl⟩, hW, hsame.mono (by decide) (by decide)⟩
  · show Steps p.tables e below (s₁.setTop (mkF m 0 #[.val (.ref a1), .val (.int p2), .val (.long q3), .second] [])) _
    refine XS.aloadN X0.here hx rfl (hb hby d1_0) rfl rfl ?_
    show Steps p.tables e below (s₁.setTop (mkF m 1 #[.val (.ref a1), .val (.int p2), .val (.long q3), .second] [(.ref a1)])) _
    refine st1.trans ?_
    show Steps p.tables e below (T1.setTop (mkF m 4 #[.val (.ref a1), .val (.int p2), .val (.long q3), .second] [])) _
    refine XS.iloadN X1.here hx rfl (hb hby d1_4) rfl ?_
    show Steps p.tables e below (T1.setTop (mkF m 5 #[.val (.ref a1), .val (.int p2), .val (.long q3), .second] [(.int p2)])) _
    refine XS.ifYes X1.here hx rfl (pc0 := 5) (pc' := 22) rfl (hb hby d1_5) rfl ((if0 _ _).trans (flt hp2).2.1) (by decide) (by decide) ?_
    show Steps p.tables e below (T1.setTop (mkF m 22 #[.val (.ref a1), .val (.int p2), .val (.long q3), .second] [])) _
    refine XS.lloadN X1.here hx rfl (hb hby d1_22) rfl ?_
    show Steps p.tables e below (T1.setTop (mkF m 23 #[.val (.ref a1), .val (.int p2), .val (.long q3), .second] [(.long q3)])) _
    refine XS.lconst X1.here hx rfl (hb hby d1_23) ?_
    show Steps p.tables e below (T1.setTop (mkF m 24 #[.val (.ref a1), .val (.int p2), .val (.long q3), .second] [(.long (0 : Int64)), (.long q3)])) _
    refine XS.lcmp X1.here hx rfl (hb hby d1_24) rfl ?_
    show Steps p.tables e below (T1.setTop (mkF m 25 #[.val (.ref a1), .val (.int p2), .val (.long q3), .second] [(.int (lcmpW q3 (0 : Int64)))])) _
    refine XS.ifYes X1.here hx rfl (pc0 := 25) (pc' := 42) rfl (hb hby d1_25) rfl ((if0 _ _).trans (flt hq3).2.1) (by decide) (by decide) ?_
    show Steps p.tables e below (T1.setTop (mkF m 42 #[.val (.ref a1), .val (.int p2), .val (.long q3), .second] [])) _
    refine XS.aloadN X1.here hx rfl (hb hby d1_42) rfl rfl ?_
    show Steps p.tables e below (T1.setTop (mkF m 43 #[.val (.ref a1), .val (.int p2), .val (.long q3), .second] [(.ref a1)])) _
    refine XS.iloadN X1.here hx rfl (hb hby d1_43) rfl ?_
    show Steps p.tables e below (T1.setTop (mkF m 44 #[.val (.ref a1), .val (.int p2), .val (.long q3), .second] [(.int p2), (.ref a1)])) _
    refine st2 _ ?_
    show Steps p.tables e below (T2.setTop (mkF m 47 #[.val (.ref a1), .val (.int p2), .val (.long q3), .second] [])) _
    refine XS.aloadN X2.here hx rfl (hb hby d1_47) rfl rfl ?_
    show Steps p.tables e below (T2.setTop (mkF m 48 #[.val (.ref a1), .val (.int p2), .val (.long q3), .second] [(.ref a1)])) _
    refine XS.lloadN X2.here hx rfl (hb hby d1_48) rfl ?_
    show Steps p.tables e below (T2.setTop (mkF m 49 #[.val (.ref a1), .val (.int p2), .val (.long q3), .second] [(.long q3), (.ref a1)])) _
    refine st3 _ ?_
    show Steps p.tables e below (T3.setTop (mkF m 52 #[.val (.ref a1), .val (.int p2), .val (.long q3), .second] [])) _
    exact X3.returnOut hx Bd.returns (hb hby d1_52) hr
  · show Q_rm1 Z a1 p2 q3 u u' h0 n0 _ T3.heap _
    rw [e3]
    exact ⟨rfl, N3, K3_, E3_a1, F3_full_a1, F3_warmupMs_a1⟩
theorem d4_0 : decode prog_14_method_2_code 0 = .ok (.aload_n 0, 1) := by decide +kernel
theorem d4_1 : decode prog_14_method_2_code 1 = .ok (.getfield 19, 3) := by decide +kernel
theorem d4_4 : decode prog_14_method_2_code 4 = .ok (.ifCond .ne 8, 3) := by decide +kernel
theorem d4_7 : decode prog_14_method_2_code 7 = .ok (.iconst 0, 1) := by decide +kernel
theorem d4_8 : decode prog_14_method_2_code 8 = .ok (.istore_n 3, 1) := by decide +kernel
theorem d4_9 : decode prog_14_method_2_code 9 = .ok (.goto 64, 3) := by decide +kernel
theorem d4_12 : decode prog_14_method_2_code 12 = .ok (.lload_n 1, 1) := by decide +kernel
theorem d4_13 : decode prog_14_method_2_code 13 = .ok (.lconst 0, 1) := by decide +kernel
theorem d4_14 : decode prog_14_method_2_code 14 = .ok (.lcmp, 1) := by decide +kernel
theorem d4_15 : decode prog_14_method_2_code 15 = .ok (.ifCond .ge 8, 3) := by decide +kernel
theorem d4_18 : decode prog_14_method_2_code 18 = .ok (.iconst 1, 1) := by decide +kernel
theorem d4_19 : decode prog_14_method_2_code 19 = .ok (.istore_n 3, 1) := by decide +kernel
theorem d4_20 : decode prog_14_method_2_code 20 = .ok (.goto 53, 3) := by decide +kernel
theorem d4_23 : decode prog_14_method_2_code 23 = .ok (.lload_n 1, 1) := by decide +kernel
theorem d4_24 : decode prog_14_method_2_code 24 = .ok (.aload_n 0, 1) := by decide +kernel
theorem d4_25 : decode prog_14_method_2_code 25 = .ok (.getfield 25, 3) := by decide +kernel
theorem d4_28 : decode prog_14_method_2_code 28 = .ok (.lcmp, 1) := by decide +kernel
theorem d4_29 : decode prog_14_method_2_code 29 = .ok (.ifCond .lt 11, 3) := by decide +kernel
theorem d4_32 : decode prog_14_method_2_code 32 = .ok (.aload_n 0, 1) := by decide +kernel
theorem d4_33 : decode prog_14_method_2_code 33 = .ok (.getfield 19, 3) := by decide +kernel
theorem d4_36 : decode prog_14_method_2_code 36 = .ok (.istore_n 3, 1) := by decide +kernel
theorem d4_37 : decode prog_14_method_2_code 37 = .ok (.goto 36, 3) := by decide +kernel
theorem d4_40 : decode prog_14_method_2_code 40 = .ok (.lload_n 1, 1) := by decide +kernel
theorem d4_41 : decode prog_14_method_2_code 41 = .ok (.l2d, 1) := by decide +kernel
theorem d4_42 : decode prog_14_method_2_code 42 = .ok (.aload_n 0, 1) := by decide +kernel
theorem d4_43 : decode prog_14_method_2_code 43 = .ok (.getfield 25, 3) := by decide +kernel
theorem d4_46 : decode prog_14_method_2_code 46 = .ok (.l2d, 1) := by decide +kernel
theorem d4_47 : decode prog_14_method_2_code 47 = .ok (.aload_n 0, 1) := by decide +kernel
theorem d4_48 : decode prog_14_method_2_code 48 = .ok (.getfield 19, 3) := by decide +kernel
theorem d4_51 : decode prog_14_method_2_code 51 = .ok (.i2d, 1) := by decide +kernel
theorem d4_52 : decode prog_14_method_2_code 52 = .ok (.ddiv, 1) := by decide +kernel
theorem d4_53 : decode prog_14_method_2_code 53 = .ok (.ddiv, 1) := by decide +kernel
theorem d4_54 : decode prog_14_method_2_code 54 = .ok (.d2l, 1) := by decide +kernel
theorem d4_55 : decode prog_14_method_2_code 55 = .ok (.lstore 4, 2) := by decide +kernel
theorem d4_57 : decode prog_14_method_2_code 57 = .ok (.lconst 1, 1) := by decide +kernel
theorem d4_58 : decode prog_14_method_2_code 58 = .ok (.aload_n 0, 1) := by decide +kernel
theorem d4_59 : decode prog_14_method_2_code 59 = .ok (.getfield 19, 3) := by decide +kernel
theorem d4_62 : decode prog_14_method_2_code 62 = .ok (.i2l, 1) := by decide +kernel
theorem d4_63 : decode prog_14_method_2_code 63 = .ok (.lload 4, 2) := by decide +kernel
theorem d4_65 : decode prog_14_method_2_code 65 = .ok (.invokestatic 29, 3) := by decide +kernel
theorem d4_68 : decode prog_14_method_2_code 68 = .ok (.invokestatic 35, 3) := by decide +kernel
theorem d4_71 : decode prog_14_method_2_code 71 = .ok (.l2i, 1) := by decide +kernel
theorem d4_72 : decode prog_14_method_2_code 72 = .ok (.istore_n 3, 1) := by decide +kernel
theorem d4_73 : decode prog_14_method_2_code 73 = .ok (.iload_n 3, 1) := by decide +kernel
theorem d4_74 : decode prog_14_method_2_code 74 = .ok (.ireturn, 1) := by decide +kernel
theorem ef_4 (m : MethodId) (x0 : Addr) (x1 : Int64) : entryFrame m #[(.ref x0), (.long x1)] 6 = mkF m 0 #[.val (.ref x0), .val (.long x1), .second, .unset, .unset, .unset] [] := by first | (simp [entryFrame, mkF, argsToLocals, Value.category]; done) | rfl
theorem pd_1 : parseMethodDescriptor "(JJ)J" = some ⟨[.long, .long], some .long⟩ := by decide +kernel
set_option maxRecDepth 65536 in
set_option maxHeartbeats 40000000 in
theorem rm4 (l : Launch) (Z : State) (a0 : Array Value) (hw : ∀ d ∈ tables_1, d.before a0 Z = true) (ws : List Jvm.Cond) (a1 : Addr) (q2 : Int64) (n : Int32) (w : Int64) (h0 : Heap) (n0 : Nat) (Z0 : n0 ≤ h0.size) (Ff : Fld Z h0 a1 "com/example/curtaincall/curtaincall/core/Weight" "full" "I" (.int n)) (Fw : Fld Z h0 a1 "com/example/curtaincall/curtaincall/core/Weight" "warmupMs" "J" (.long w)) (hn0 : 0 ≤ n.toInt) (hw0 : 0 ≤ w.toInt) :
    MetFree l (⟨"com/example/curtaincall/curtaincall/core/Weight", "effectiveAt", "(J)I"⟩ : MethodName) (head1 (Jvm.Cond.code (⟨"com/example/curtaincall/curtaincall/core/Weight", "effectiveAt", "(J)I"⟩ : MethodName) prog_14_method_2_code 6 (some .int) :: ws) ({ frames := 1, cells := 0, slots := 0, locals := 17 } : Room)) (fun a U => a = #[(.ref a1), (.long q2)] ∧ Z.Warmed39 U.vm ∧ U.heap = h0) (fun _ _ _ _ _ => True) (fun _ U o U' => ∃ v L, o = .returned v ∧ (QV (.int (Own.eff n w q2)) h0 n0 v U'.heap L) ∧ FrameEnd U o U' L ({ frames := 1, cells := 0, slots := 0, locals := 17 } : Room).cells ({ frames := 1, cells := 0, slots := 0, locals := 17 } : Room).slots) := by
  refine MetFree.of_bodySF (plainFor_of_name pn_1) hisR ?_
  intro p e s m args below meth cde s₁ Bd hml0 hP hK
  obtain ⟨rfl, hZ, hh⟩ := hP
  have hx := Bd.exec
  have hby := Bd.bytes
  have hml : cde.maxLocals = 6 := hml0
  have hown : s.vm.findClass "com/example/curtaincall/curtaincall/core/Weight" = some m.cls := findClass_of_methodNamed Bd.named
  have hnm := (name_of_methodNamed Bd.named Bd.method).1
  have X0 : Stand p l e ({ frames := 1, cells := 0, slots := 0, locals := 17 } : Room) s m #[(.ref a1), (.long q2)] below meth cde s₁ [] 0 0 := Stand.of_body Bd
  have e0 : s₁.heap = h0 := by rw [← hh, Bd.state]; rfl
  have N0 := Fr.nil n0
  have pre0 : ∀ t, Steps p.tables e below (s₁.setTop (mkF m 0 #[.val (.ref a1), .val (.long q2), .second, .unset, .unset, .unset] [])) t → Steps p.tables e below (s₁.setTop (entryFrame m #[(.ref a1), (.long q2)] 6)) t := fun t k => castTop (ef_4 m a1 q2) k
  obtain ⟨T1, X1, e1, st1⟩ := getF X0 hx hZ hown (host := "") (Or.inl (hw _ (List.mem_of_getElem? (i := 16) rfl))) Via.refl e0 Ff (g := (mkF m 1 #[.val (.ref a1), .val (.long q2), .second, .unset, .unset, .unset] [(.ref a1)])) rfl rfl (hb hby d4_1)
  have pre2 : ∀ t, Steps p.tables e below (T1.setTop (mkF m 4 #[.val (.ref a1), .val (.long q2), .second, .unset, .unset, .unset] [(.int n)])) t → Steps p.tables e below (s₁.setTop (entryFrame m #[(.ref a1), (.long q2)] 6)) t := fun t k => pre0 t (by
      show Steps p.tables e below (s₁.setTop (mkF m 0 #[.val (.ref a1), .val (.long q2), .second, .unset, .unset, .unset] [])) _
      refine XS.aloadN X0.here hx rfl (hb hby d4_0) rfl rfl ?_
      show Steps p.tables e below (s₁.setTop (mkF m 1 #[.val (.ref a1), .val (.long q2), .second, .unset, .unset, .unset] [(.ref a1)])) _
      refine st1 _ ?_
      exact k)
  by_cases hc4_3 : n = (0 : Int32)
  · obtain ⟨fs, hr, hrun, hended, hW, hsame⟩ := X1.leave (v := some (.int (0 : Int32))) (fun h => by rw [Bd.returns] at h; cases h)
    refine ⟨_, _, pre2 _ ?_, hrun, hended, _, _, rfl, ?_, ⟨_, rfl⟩, hW, hsame.mono (by decide) (by decide)⟩
    · show Steps p.tables e below (T1.setTop (mkF m 4 #[.val (.ref a1), .val (.long q2), .second, .unset, .unset, .unset] [(.int n)])) _
      refine XS.ifNo X1.here hx rfl (hb hby d4_4) rfl ((if0 _ _).trans (teq hc4_3).2) ?_
      show Steps p.tables e below (T1.setTop (mkF m 7 #[.val (.ref a1), .val (.long q2), .second, .unset, .unset, .unset] [])) _
      refine XS.iconst X1.here hx rfl (hb hby d4_7) ?_
      show Steps p.tables e below (T1.setTop (mkF m 8 #[.val (.ref a1), .val (.long q2), .second, .unset, .unset, .unset] [(.int (0 : Int32))])) _
      refine XS.istoreN X1.here hx rfl (hb hby d4_8) rfl (l' := #[.val (.ref a1), .val (.long q2), .second, .val (.int (0 : Int32)), .unset, .unset]) rfl ?_
      show Steps p.tables e below (T1.setTop (mkF m 9 #[.val (.ref a1), .val (.long q2), .second, .val (.int (0 : Int32)), .unset, .unset] [])) _
      refine XS.goto X1.here hx rfl (pc0 := 9) (pc' := 73) rfl (hb hby d4_9) (by decide) (by decide) ?_
      show Steps p.tables e below (T1.setTop (mkF m 73 #[.val (.ref a1), .val (.long q2), .second, .val (.int (0 : Int32)), .unset, .unset] [])) _
      refine XS.iloadN X1.here hx rfl (hb hby d4_73) rfl ?_
      show Steps p.tables e below (T1.setTop (mkF m 74 #[.val (.ref a1), .val (.long q2), .second, .val (.int (0 : Int32)), .unset, .unset] [(.int (0 : Int32))])) _
      exact retI X1 hx Bd.returns (hb hby d4_74) hr
    · show QV (.int (Own.eff n w q2)) h0 n0 _ T1.heap _
      rw [e1]
      exact ⟨by rw [Own.eff, if_pos hc4_3], N0, rfl⟩
  · have pre4 : ∀ t, Steps p.tables e below (T1.setTop (mkF m 15 #[.val (.ref a1), .val (.long q2), .second, .unset, .unset, .unset] [(.int (lcmpW q2 (0 : Int64)))])) t → Steps p.tables e below (s₁.setTop (entryFrame m #[(.ref a1), (.long q2)] 6)) t := fun t k => pre2 t (by
        show Steps p.tables e below (T1.setTop (mkF m 4 #[.val (.ref a1), .val (.long q2), .second, .unset, .unset, .unset] [(.int n)])) _
        refine XS.ifYes X1.here hx rfl (pc0 := 4) (pc' := 12) rfl (hb hby d4_4) rfl ((if0 _ _).trans (feq hc4_3).2) (by decide) (by decide) ?_
        show Steps p.tables e below (T1.setTop (mkF m 12 #[.val (.ref a1), .val (.long q2), .second, .unset, .unset, .unset] [])) _
        refine XS.lloadN X1.here hx rfl (hb hby d4_12) rfl ?_
        show Steps p.tables e below (T1.setTop (mkF m 13 #[.val (.ref a1), .val (.long q2), .second, .unset, .unset, .unset] [(.long q2)])) _
        refine XS.lconst X1.here hx rfl (hb hby d4_13) ?_
        show Steps p.tables e below (T1.setTop (mkF m 14 #[.val (.ref a1), .val (.long q2), .second, .unset, .unset, .unset] [(.long (0 : Int64)), (.long q2)])) _
        refine XS.lcmp X1.here hx rfl (hb hby d4_14) rfl ?_
        exact k)
    by_cases hc15_5 : (lcmpW q2 (0 : Int64)) < (0 : Int32)
    · obtain ⟨fs, hr, hrun, hended, hW, hsame⟩ := X1.leave (v := some (.int (1 : Int32))) (fun h => by rw [Bd.returns] at h; cases h)
      refine ⟨_, _, pre4 _ ?_, hrun, hended, _, _, rfl, ?_, ⟨_, rfl⟩, hW, hsame.mono (by decide) (by decide)⟩
      · show Steps p.tables e below (T1.setTop (mkF m 15 #[.val (.ref a1), .val (.long q2), .second, .unset, .unset, .unset] [(.int (lcmpW q2 (0 : Int64)))])) _
        refine XS.ifNo X1.here hx rfl (hb hby d4_15) rfl ((if0 _ _).trans (tlt hc15_5).2.1) ?_
        show Steps p.tables e below (T1.setTop (mkF m 18 #[.val (.ref a1), .val (.long q2), .second, .unset, .unset, .unset] [])) _
        refine XS.iconst X1.here hx rfl (hb hby d4_18) ?_
        show Steps p.tables e below (T1.setTop (mkF m 19 #[.val (.ref a1), .val (.long q2), .second, .unset, .unset, .unset] [(.int (1 : Int32))])) _
        refine XS.istoreN X1.here hx rfl (hb hby d4_19) rfl (l' := #[.val (.ref a1), .val (.long q2), .second, .val (.int (1 : Int32)), .unset, .unset]) rfl ?_
        show Steps p.tables e below (T1.setTop (mkF m 20 #[.val (.ref a1), .val (.long q2), .second, .val (.int (1 : Int32)), .unset, .unset] [])) _
        refine XS.goto X1.here hx rfl (pc0 := 20) (pc' := 73) rfl (hb hby d4_20) (by decide) (by decide) ?_
        show Steps p.tables e below (T1.setTop (mkF m 73 #[.val (.ref a1), .val (.long q2), .second, .val (.int (1 : Int32)), .unset, .unset] [])) _
        refine XS.iloadN X1.here hx rfl (hb hby d4_73) rfl ?_
        show Steps p.tables e below (T1.setTop (mkF m 74 #[.val (.ref a1), .val (.long q2), .second, .val (.int (1 : Int32)), .unset, .unset] [(.int (1 : Int32))])) _
        exact retI X1 hx Bd.returns (hb hby d4_74) hr
      · show QV (.int (Own.eff n w q2)) h0 n0 _ T1.heap _
        rw [e1]
        exact ⟨by rw [Own.eff, if_neg hc4_3, if_pos hc15_5], N0, rfl⟩
    · obtain ⟨T6, X6, e6, st6⟩ := getF X1 hx hZ hown (host := "") (Or.inl (hw _ (List.mem_of_getElem? (i := 18) rfl))) Via.refl e1 Fw (g := (mkF m 25 #[.val (.ref a1), .val (.long q2), .second, .unset, .unset, .unset] [(.ref a1), (.long q2)])) rfl rfl (hb hby d4_25)
      have pre7 : ∀ t, Steps p.tables e below (T6.setTop (mkF m 29 #[.val (.ref a1), .val (.long q2), .second, .unset, .unset, .unset] [(.int (lcmpW q2 w))])) t → Steps p.tables e below (s₁.setTop (entryFrame m #[(.ref a1), (.long q2)] 6)) t := fun t k => pre4 t (by
          show Steps p.tables e below (T1.setTop (mkF m 15 #[.val (.ref a1), .val (.long q2), .second, .unset, .unset, .unset] [(.int (lcmpW q2 (0 : Int64)))])) _
          refine XS.ifYes X1.here hx rfl (pc0 := 15) (pc' := 23) rfl (hb hby d4_15) rfl ((if0 _ _).trans (flt hc15_5).2.1) (by decide) (by decide) ?_
          show Steps p.tables e below (T1.setTop (mkF m 23 #[.val (.ref a1), .val (.long q2), .second, .unset, .unset, .unset] [])) _
          refine XS.lloadN X1.here hx rfl (hb hby d4_23) rfl ?_
          show Steps p.tables e below (T1.setTop (mkF m 24 #[.val (.ref a1), .val (.long q2), .second, .unset, .unset, .unset] [(.long q2)])) _
          refine XS.aloadN X1.here hx rfl (hb hby d4_24) rfl rfl ?_
          show Steps p.tables e below (T1.setTop (mkF m 25 #[.val (.ref a1), .val (.long q2), .second, .unset, .unset, .unset] [(.ref a1), (.long q2)])) _
          refine st6 _ ?_
          show Steps p.tables e below (T6.setTop (mkF m 28 #[.val (.ref a1), .val (.long q2), .second, .unset, .unset, .unset] [(.long w), (.long q2)])) _
          refine XS.lcmp X6.here hx rfl (hb hby d4_28) rfl ?_
          exact k)
      by_cases hc29_8 : (lcmpW q2 w) < (0 : Int32)
      · have pre9 : ∀ t, Steps p.tables e below (T6.setTop (mkF m 40 #[.val (.ref a1), .val (.long q2), .second, .unset, .unset, .unset] [])) t → Steps p.tables e below (s₁.setTop (entryFrame m #[(.ref a1), (.long q2)] 6)) t := fun t k => pre7 t (by
            show Steps p.tables e below (T6.setTop (mkF m 29 #[.val (.ref a1), .val (.long q2), .second, .unset, .unset, .unset] [(.int (lcmpW q2 w))])) _
            refine XS.ifYes X6.here hx rfl (pc0 := 29) (pc' := 40) rfl (hb hby d4_29) rfl ((if0 _ _).trans (tlt hc29_8).1) (by decide) (by decide) ?_
            exact k)
        have hn1 := Own.one_le hn0 hc4_3
        have hu0 := Own.nn hc15_5
        have hlt := Own.in_lt hc29_8
        have hw1 : 1 ≤ w.toInt := by omega
        obtain ⟨T10, X10, e10, st10⟩ := getF X6 hx hZ hown (host := "") (Or.inl (hw _ (List.mem_of_getElem? (i := 18) rfl))) Via.refl e6 Fw (g := (mkF m 43 #[.val (.ref a1), .val (.long q2), .second, .unset, .unset, .unset] [(.ref a1), (.double (FP.l2d q2))])) rfl rfl (hb hby d4_43)
        obtain ⟨T11, X11, e11, st11⟩ := getF X10 hx hZ hown (host := "") (Or.inl (hw _ (List.mem_of_getElem? (i := 16) rfl))) Via.refl e10 Ff (g := (mkF m 48 #[.val (.ref a1), .val (.long q2), .second, .unset, .unset, .unset] [(.ref a1), (.double (FP.l2d w)), (.double (FP.l2d q2))])) rfl rfl (hb hby d4_48)
        obtain ⟨T12, X12, e12, st12⟩ := getF X11 hx hZ hown (host := "") (Or.inl (hw _ (List.mem_of_getElem? (i := 16) rfl))) Via.refl e11 Ff (g := (mkF m 59 #[.val (.ref a1), .val (.long q2), .second, .unset, .val (.long (Own.TT n w q2)), .second] [(.ref a1), (.long (1 : Int64))])) rfl rfl (hb hby d4_59)
        obtain ⟨_, _, ⟨T13, L13, k13, n13⟩, -, X13, ⟨Lc13, hQ13, l13, y13, z13⟩, st13⟩ := Jvm.LawKit.callS X12 hx (y := (⟨"java/lang/Math", "min", "(JJ)J"⟩ : MethodName)) hown (mvT hZ (hw _ (List.mem_of_getElem? (i := 33) rfl))) (mvT hZ (hw _ (List.mem_of_getElem? (i := 26) rfl))) (mvT hZ (hw _ (List.mem_of_getElem? (i := 27) rfl))) (mvT hZ (hw _ (List.mem_of_getElem? (i := 28) rfl))) (by decide) (backOf (W := 2) (rm5 l Z a0 hw [] (n.toInt64) (Own.TT n w q2) h0 n0 Z0) hZ (hw _ (List.mem_of_getElem? (i := 28) rfl)) (hw _ (List.mem_of_getElem? (i := 27) rfl)) (by decide) (by decide)) (g := (mkF m 65 #[.val (.ref a1), .val (.long q2), .second, .unset, .val (.long (Own.TT n w q2)), .second] [(.long (Own.TT n w q2)), (.long (n.toInt64)), (.long (1 : Int64))])) rfl (by rw [hml]; rfl) (argsL := [(.long (n.toInt64)), (.long (Own.TT n w q2))]) (rest := [(.long (1 : Int64))]) (lenOf pd_1 rfl) rfl (by show 2 * 0 + _ ≤ _; exact Nat.le_of_eq rfl) (hb hby d4_65) (fun _ _ => ⟨rfl, e12, (by decide : 0 + 0 ≤ _), (by decide : 0 + 0 ≤ _)⟩)
        dsimp only [Pt.U, Pt.locs, Pt.cells, Pt.slots] at X13 l13 y13 z13 st13 hQ13
        subst l13 y13 z13
        obtain ⟨rfl, N13q, e13⟩ := hQ13
        have N13 := Fr.app N0 N13q
        obtain ⟨_, _, ⟨T14, L14, k14, n14⟩, -, X14, ⟨Lc14, hQ14, l14, y14, z14⟩, st14⟩ := Jvm.LawKit.callS X13 hx (y := (⟨"java/lang/Math", "max", "(JJ)J"⟩ : MethodName)) hown (mvT hZ (hw _ (List.mem_of_getElem? (i := 34) rfl))) (mvT hZ (hw _ (List.mem_of_getElem? (i := 30) rfl))) (mvT hZ (hw _ (List.mem_of_getElem? (i := 27) rfl))) (mvT hZ (hw _ (List.mem_of_getElem? (i := 31) rfl))) (by decide) (backOf (W := 0) (rm6 l Z a0 hw [] (1 : Int64) (Own.mnW (n.toInt64) (Own.TT n w q2)) h0 n0 Z0) hZ (hw _ (List.mem_of_getElem? (i := 31) rfl)) (hw _ (List.mem_of_getElem? (i := 27) rfl)) (by decide) (by decide)) (g := (mkF m 68 #[.val (.ref a1), .val (.long q2), .second, .unset, .val (.long (Own.TT n w q2)), .second] [(.long (Own.mnW (n.toInt64) (Own.TT n w q2))), (.long (1 : Int64))])) rfl (by rw [hml]; rfl) (argsL := [(.long (1 : Int64)), (.long (Own.mnW (n.toInt64) (Own.TT n w q2)))]) (rest := []) (lenOf pd_1 rfl) rfl (by show 2 * 0 + _ ≤ _; exact Nat.le_of_eq rfl) (hb hby d4_68) (fun _ _ => ⟨rfl, e13, (by decide : 0 + 0 ≤ _), (by decide : 0 + 0 ≤ _)⟩)
        dsimp only [Pt.U, Pt.locs, Pt.cells, Pt.slots] at X14 l14 y14 z14 st14 hQ14
        subst l14 y14 z14
        obtain ⟨rfl, N14q, e14⟩ := hQ14
        have N14 := Fr.app N13 N14q
        obtain ⟨fs, hr, hrun, hended, hW, hsame⟩ := X14.leave (v := some (.int ((Own.mxW (1 : Int64) (Own.mnW (n.toInt64) (Own.TT n w q2))).toInt32))) (fun h => by rw [Bd.returns] at h; cases h)
        refine ⟨_, _, pre9 _ ?_, hrun, hended, _, _, rfl, ?_, ⟨_, rfl⟩, hW, hsame.mono (by decide) (by decide)⟩
        · show Steps p.tables e below (T6.setTop (mkF m 40 #[.val (.ref a1), .val (.long q2), .second, .unset, .unset, .unset] [])) _
          refine XS.lloadN X6.here hx rfl (hb hby d4_40) rfl ?_
          show Steps p.tables e below (T6.setTop (mkF m 41 #[.val (.ref a1), .val (.long q2), .second, .unset, .unset, .unset] [(.long q2)])) _
          refine XS.l2dS X6.here hx rfl (hb hby d4_41) rfl (v := (FP.l2d q2)) rfl ?_
          show Steps p.tables e below (T6.setTop (mkF m 42 #[.val (.ref a1), .val (.long q2), .second, .unset, .unset, .unset] [(.double (FP.l2d q2))])) _
          refine XS.aloadN X6.here hx rfl (hb hby d4_42) rfl rfl ?_
          show Steps p.tables e below (T6.setTop (mkF m 43 #[.val (.ref a1), .val (.long q2), .second, .unset, .unset, .unset] [(.ref a1), (.double (FP.l2d q2))])) _
          refine st10 _ ?_
          show Steps p.tables e below (T10.setTop (mkF m 46 #[.val (.ref a1), .val (.long q2), .second, .unset, .unset, .unset] [(.long w), (.double (FP.l2d q2))])) _
          refine XS.l2dS X10.here hx rfl (hb hby d4_46) rfl (v := (FP.l2d w)) rfl ?_
          show Steps p.tables e below (T10.setTop (mkF m 47 #[.val (.ref a1), .val (.long q2), .second, .unset, .unset, .unset] [(.double (FP.l2d w)), (.double (FP.l2d q2))])) _
          refine XS.aloadN X10.here hx rfl (hb hby d4_47) rfl rfl ?_
          show Steps p.tables e below (T10.setTop (mkF m 48 #[.val (.ref a1), .val (.long q2), .second, .unset, .unset, .unset] [(.ref a1), (.double (FP.l2d w)), (.double (FP.l2d q2))])) _
          refine st11 _ ?_
          show Steps p.tables e below (T11.setTop (mkF m 51 #[.val (.ref a1), .val (.long q2), .second, .unset, .unset, .unset] [(.int n), (.double (FP.l2d w)), (.double (FP.l2d q2))])) _
          refine XS.i2dS X11.here hx rfl (hb hby d4_51) rfl (v := (FP.i2d n)) rfl ?_
          show Steps p.tables e below (T11.setTop (mkF m 52 #[.val (.ref a1), .val (.long q2), .second, .unset, .unset, .unset] [(.double (FP.i2d n)), (.double (FP.l2d w)), (.double (FP.l2d q2))])) _
          refine XS.ddivS X11.here hx rfl (hb hby d4_52) rfl (v := (Own.DD n w)) (Own.DD_no hn1 hw0) rfl ?_
          show Steps p.tables e below (T11.setTop (mkF m 53 #[.val (.ref a1), .val (.long q2), .second, .unset, .unset, .unset] [(.double (Own.DD n w)), (.double (FP.l2d q2))])) _
          refine XS.ddivS X11.here hx rfl (hb hby d4_53) rfl (v := (Own.RR n w q2)) (Own.RR_no hn1 hw1 hu0) rfl ?_
          show Steps p.tables e below (T11.setTop (mkF m 54 #[.val (.ref a1), .val (.long q2), .second, .unset, .unset, .unset] [(.double (Own.RR n w q2))])) _
          refine XS.d2lS X11.here hx rfl (hb hby d4_54) rfl (v := (Own.TT n w q2)) rfl ?_
          show Steps p.tables e below (T11.setTop (mkF m 55 #[.val (.ref a1), .val (.long q2), .second, .unset, .unset, .unset] [(.long (Own.TT n w q2))])) _
          refine XS.lstore X11.here hx rfl (hb hby d4_55) rfl (l' := #[.val (.ref a1), .val (.long q2), .second, .unset, .val (.long (Own.TT n w q2)), .second]) rfl ?_
          show Steps p.tables e below (T11.setTop (mkF m 57 #[.val (.ref a1), .val (.long q2), .second, .unset, .val (.long (Own.TT n w q2)), .second] [])) _
          refine XS.lconst X11.here hx rfl (hb hby d4_57) ?_
          show Steps p.tables e below (T11.setTop (mkF m 58 #[.val (.ref a1), .val (.long q2), .second, .unset, .val (.long (Own.TT n w q2)), .second] [(.long (1 : Int64))])) _
          refine XS.aloadN X11.here hx rfl (hb hby d4_58) rfl rfl ?_
          show Steps p.tables e below (T11.setTop (mkF m 59 #[.val (.ref a1), .val (.long q2), .second, .unset, .val (.long (Own.TT n w q2)), .second] [(.ref a1), (.long (1 : Int64))])) _
          refine st12 _ ?_
          show Steps p.tables e below (T12.setTop (mkF m 62 #[.val (.ref a1), .val (.long q2), .second, .unset, .val (.long (Own.TT n w q2)), .second] [(.int n), (.long (1 : Int64))])) _
          refine XS.i2l X12.here hx rfl (hb hby d4_62) rfl ?_
          show Steps p.tables e below (T12.setTop (mkF m 63 #[.val (.ref a1), .val (.long q2), .second, .unset, .val (.long (Own.TT n w q2)), .second] [(.long (n.toInt64)), (.long (1 : Int64))])) _
          refine XS.lload X12.here hx rfl (hb hby d4_63) rfl ?_
          show Steps p.tables e below (T12.setTop (mkF m 65 #[.val (.ref a1), .val (.long q2), .second, .unset, .val (.long (Own.TT n w q2)), .second] [(.long (Own.TT n w q2)), (.long (n.toInt64)), (.long (1 : Int64))])) _
          refine st13 _ ?_
          show Steps p.tables e below (T13.setTop (mkF m 68 #[.val (.ref a1), .val (.long q2), .second, .unset, .val (.long (Own.TT n w q2)), .second] [(.long (Own.mnW (n.toInt64) (Own.TT n w q2))), (.long (1 : Int64))])) _
          refine st14 _ ?_
          show Steps p.tables e below (T14.setTop (mkF m 71 #[.val (.ref a1), .val (.long q2), .second, .unset, .val (.long (Own.TT n w q2)), .second] [(.long (Own.mxW (1 : Int64) (Own.mnW (n.toInt64) (Own.TT n w q2))))])) _
          refine XS.l2i X14.here hx rfl (hb hby d4_71) rfl ?_
          show Steps p.tables e below (T14.setTop (mkF m 72 #[.val (.ref a1), .val (.long q2), .second, .unset, .val (.long (Own.TT n w q2)), .second] [(.int ((Own.mxW (1 : Int64) (Own.mnW (n.toInt64) (Own.TT n w q2))).toInt32))])) _
          refine XS.istoreN X14.here hx rfl (hb hby d4_72) rfl (l' := #[.val (.ref a1), .val (.long q2), .second, .val (.int ((Own.mxW (1 : Int64) (Own.mnW (n.toInt64) (Own.TT n w q2))).toInt32)), .val (.long (Own.TT n w q2)), .second]) rfl ?_
          show Steps p.tables e below (T14.setTop (mkF m 73 #[.val (.ref a1), .val (.long q2), .second, .val (.int ((Own.mxW (1 : Int64) (Own.mnW (n.toInt64) (Own.TT n w q2))).toInt32)), .val (.long (Own.TT n w q2)), .second] [])) _
          refine XS.iloadN X14.here hx rfl (hb hby d4_73) rfl ?_
          show Steps p.tables e below (T14.setTop (mkF m 74 #[.val (.ref a1), .val (.long q2), .second, .val (.int ((Own.mxW (1 : Int64) (Own.mnW (n.toInt64) (Own.TT n w q2))).toInt32)), .val (.long (Own.TT n w q2)), .second] [(.int ((Own.mxW (1 : Int64) (Own.mnW (n.toInt64) (Own.TT n w q2))).toInt32))])) _
          exact retI X14 hx Bd.returns (hb hby d4_74) hr
        · show QV (.int (Own.eff n w q2)) h0 n0 _ T14.heap _
          rw [e14]
          exact ⟨by rw [Own.eff, if_neg hc4_3, if_neg hc15_5, if_pos hc29_8], N14, rfl⟩
      · obtain ⟨T15, X15, e15, st15⟩ := getF X6 hx hZ hown (host := "") (Or.inl (hw _ (List.mem_of_getElem? (i := 16) rfl))) Via.refl e6 Ff (g := (mkF m 33 #[.val (.ref a1), .val (.long q2), .second, .unset, .unset, .unset] [(.ref a1)])) rfl rfl (hb hby d4_33)
        obtain ⟨fs, hr, hrun, hended, hW, hsame⟩ := X15.leave (v := some (.int n)) (fun h => by rw [Bd.returns] at h; cases h)
        refine ⟨_, _, pre7 _ ?_, hrun, hended, _, _, rfl, ?_, ⟨_, rfl⟩, hW, hsame.mono (by decide) (by decide)⟩
        · show Steps p.tables e below (T6.setTop (mkF m 29 #[.val (.ref a1), .val (.long q2), .second, .unset, .unset, .unset] [(.int (lcmpW q2 w))])) _
          refine XS.ifNo X6.here hx rfl (hb hby d4_29) rfl ((if0 _ _).trans (flt hc29_8).1) ?_
          show Steps p.tables e below (T6.setTop (mkF m 32 #[.val (.ref a1), .val (.long q2), .second, .unset, .unset, .unset] [])) _
          refine XS.aloadN X6.here hx rfl (hb hby d4_32) rfl rfl ?_
          show Steps p.tables e below (T6.setTop (mkF m 33 #[.val (.ref a1), .val (.long q2), .second, .unset, .unset, .unset] [(.ref a1)])) _
          refine st15 _ ?_
          show Steps p.tables e below (T15.setTop (mkF m 36 #[.val (.ref a1), .val (.long q2), .second, .unset, .unset, .unset] [(.int n)])) _
          refine XS.istoreN X15.here hx rfl (hb hby d4_36) rfl (l' := #[.val (.ref a1), .val (.long q2), .second, .val (.int n), .unset, .unset]) rfl ?_
          show Steps p.tables e below (T15.setTop (mkF m 37 #[.val (.ref a1), .val (.long q2), .second, .val (.int n), .unset, .unset] [])) _
          refine XS.goto X15.here hx rfl (pc0 := 37) (pc' := 73) rfl (hb hby d4_37) (by decide) (by decide) ?_
          show Steps p.tables e below (T15.setTop (mkF m 73 #[.val (.ref a1), .val (.long q2), .second, .val (.int n), .unset, .unset] [])) _
          refine XS.iloadN X15.here hx rfl (hb hby d4_73) rfl ?_
          show Steps p.tables e below (T15.setTop (mkF m 74 #[.val (.ref a1), .val (.long q2), .second, .val (.int n), .unset, .unset] [(.int n)])) _
          exact retI X15 hx Bd.returns (hb hby d4_74) hr
        · show QV (.int (Own.eff n w q2)) h0 n0 _ T15.heap _
          rw [e15]
          exact ⟨by rw [Own.eff, if_neg hc4_3, if_neg hc15_5, if_neg hc29_8], N0, rfl⟩
theorem pn_2 : plainName "com/example/curtaincall/curtaincall/core/WeightEffectiveAtPinLaw" = true := by first | (simp [plainName, overriddenIn]; done) | decide +kernel
theorem ef_0 (m : MethodId) (x0 : Int32) (x1 : Int64) (x2 : Int64) (x3 : Int64) (x4 : Int32) : entryFrame m #[(.int x0), (.long x1), (.long x2), (.long x3), (.int x4)] maxLocals = mkF m 0 #[.val (.int x0), .val (.long x1), .second, .val (.long x2), .second, .val (.long x3), .second, .val (.int x4), .unset, .unset, .unset, .unset, .unset, .unset, .unset, .unset, .unset, .unset, .unset, .unset, .unset, .unset, .unset, .unset] [] := by first | (simp [entryFrame, mkF, argsToLocals, Value.category, maxLocals]; done) | rfl
def Q_rm0 (Z : State) (p1 : Int32) (q2 : Int64) (q3 : Int64) (q4 : Int64) (p5 : Int32) (h0 : Heap) (n0 : Nat) (v : Option Value) (h : Heap) (L : List Loc) : Prop := v = some (Value.int 1) ∧ Fr n0 L
theorem pd_2 : parseMethodDescriptor "(IJ)V" = some ⟨[.int, .long], none⟩ := by decide +kernel
theorem pd_3 : parseMethodDescriptor "(J)I" = some ⟨[.long], some .int⟩ := by decide +kernel
set_option maxRecDepth 65536 in
set_option maxHeartbeats 40000000 in
theorem rm0 (l : Launch) (Z : State) (a0 : Array Value) (hw : ∀ d ∈ tables_1, d.before a0 Z = true) (ws : List Jvm.Cond) (p1 : Int32) (q2 : Int64) (q3 : Int64) (q4 : Int64) (p5 : Int32) (h0 : Heap) (n0 : Nat) (Z0 : n0 ≤ h0.size)  :
    MetFree l x (head1 (Jvm.Cond.code x code maxLocals ret :: ws) room_1) (fun a U => a = #[(.int p1), (.long q2), (.long q3), (.long q4), (.int p5)] ∧ Z.Warmed39 U.vm ∧ U.heap = h0) (fun _ _ _ _ _ => True) (fun _ U o U' => ∃ v L, o = .returned v ∧ (Q_rm0 Z p1 q2 q3 q4 p5 h0 n0 v U'.heap L) ∧ FrameEnd U o U' L room_1.cells room_1.slots) := by
  refine MetFree.of_bodySF (plainFor_of_name pn_2) hisR ?_
  intro p e s m args below meth cde s₁ Bd hml0 hP hK
  obtain ⟨rfl, hZ, hh⟩ := hP
  have hx := Bd.exec
  have hby := Bd.bytes
  have hml : cde.maxLocals = 24 := hml0
  have hown : s.vm.findClass "com/example/curtaincall/curtaincall/core/WeightEffectiveAtPinLaw" = some m.cls := findClass_of_methodNamed Bd.named
  have hnm := (name_of_methodNamed Bd.named Bd.method).1
  have X0 : Stand p l e room_1 s m #[(.int p1), (.long q2), (.long q3), (.long q4), (.int p5)] below meth cde s₁ [] 0 0 := Stand.of_body Bd
  have e0 : s₁.heap = h0 := by rw [← hh, Bd.state]; rfl
  have N0 := Fr.nil n0
  have pre0 : ∀ t, Steps p.tables e below (s₁.setTop (mkF m 0 #[.val (.int p1), .val (.long q2), .second, .val (.long q3), .second, .val (.long q4), .second, .val (.int p5), .unset, .unset, .unset, .unset, .unset, .unset, .unset, .unset, .unset, .unset, .unset, .unset, .unset, .unset, .unset, .unset] [])) t → Steps p.tables e below (s₁.setTop (entryFrame m #[(.int p1), (.long q2), (.long q3), (.long q4), (.int p5)] maxLocals)) t := fun t k => castTop (ef_0 m p1 q2 q3 q4 p5) k
  have j1 : ∀ t, Steps p.tables e below (s₁.setTop (mkF m 16 #[.val (.int p1), .val (.long q2), .second, .val (.long q3), .second, .val (.long q4), .second, .val (.int p5), .val (.int (if (p5 &&& (3 : Int32)) = (0 : Int32) then (0 : Int32) else (p1 &&& (2147483647 : Int32)))), .unset, .unset, .unset, .unset, .unset, .unset, .unset, .unset, .unset, .unset, .unset, .unset, .unset, .unset, .unset] [])) t → Steps p.tables e below (s₁.setTop (mkF m 10 #[.val (.int p1), .val (.long q2), .second, .val (.long q3), .second, .val (.long q4), .second, .val (.int p5), .val (.int (p1 &&& (2147483647 : Int32))), .unset, .unset, .unset, .unset, .unset, .unset, .unset, .unset, .unset, .unset, .unset, .unset, .unset, .unset, .unset] [(.int (p5 &&& (3 : Int32)))])) t := by
    intro t k
    by_cases hj : (p5 &&& (3 : Int32)) = (0 : Int32)
    · simp only [if_pos hj] at k
      show Steps p.tables e below (s₁.setTop (mkF m 10 #[.val (.int p1), .val (.long q2), .second, .val (.long q3), .second, .val (.long q4), .second, .val (.int p5), .val (.int (p1 &&& (2147483647 : Int32))), .unset, .unset, .unset, .unset, .unset, .unset, .unset, .unset, .unset, .unset, .unset, .unset, .unset, .unset, .unset] [(.int (p5 &&& (3 : Int32)))])) _
      refine XS.ifNo X0.here hx rfl (hb hby at_10) rfl ((if0 _ _).trans (teq hj).2) ?_
      show Steps p.tables e below (s₁.setTop (mkF m 13 #[.val (.int p1), .val (.long q2), .second, .val (.long q3), .second, .val (.long q4), .second, .val (.int p5), .val (.int (p1 &&& (2147483647 : Int32))), .unset, .unset, .unset, .unset, .unset, .unset, .unset, .unset, .unset, .unset, .unset, .unset, .unset, .unset, .unset] [])) _
      refine XS.iconst X0.here hx rfl (hb hby at_13) ?_
      show Steps p.tables e below (s₁.setTop (mkF m 14 #[.val (.int p1), .val (.long q2), .second, .val (.long q3), .second, .val (.long q4), .second, .val (.int p5), .val (.int (p1 &&& (2147483647 : Int32))), .unset, .unset, .unset, .unset, .unset, .unset, .unset, .unset, .unset, .unset, .unset, .unset, .unset, .unset, .unset] [(.int (0 : Int32))])) _
      refine XS.istore X0.here hx rfl (hb hby at_14) rfl (l' := #[.val (.int p1), .val (.long q2), .second, .val (.long q3), .second, .val (.long q4), .second, .val (.int p5), .val (.int (0 : Int32)), .unset, .unset, .unset, .unset, .unset, .unset, .unset, .unset, .unset, .unset, .unset, .unset, .unset, .unset, .unset]) rfl ?_
      exact k
    · simp only [if_neg hj] at k
      show Steps p.tables e below (s₁.setTop (mkF m 10 #[.val (.int p1), .val (.long q2), .second, .val (.long q3), .second, .val (.long q4), .second, .val (.int p5), .val (.int (p1 &&& (2147483647 : Int32))), .unset, .unset, .unset, .unset, .unset, .unset, .unset, .unset, .unset, .unset, .unset, .unset, .unset, .unset, .unset] [(.int (p5 &&& (3 : Int32)))])) _
      refine XS.ifYes X0.here hx rfl (pc0 := 10) (pc' := 16) rfl (hb hby at_10) rfl ((if0 _ _).trans (feq hj).2) (by decide) (by decide) ?_
      exact k
  obtain ⟨n, hv_n⟩ : ∃ z : Int32, z = (if (p5 &&& (3 : Int32)) = (0 : Int32) then (0 : Int32) else (p1 &&& (2147483647 : Int32))) := ⟨_, rfl⟩
  rw [← hv_n] at j1
  have j2 : ∀ t, Steps p.tables e below (s₁.setTop (mkF m 40 #[.val (.int p1), .val (.long q2), .second, .val (.long q3), .second, .val (.long q4), .second, .val (.int p5), .val (.int n), .val (.long (if (p5 &&& (4 : Int32)) = (0 : Int32) then (q2 &&& (4294967295 : Int64)) else (q2 &&& (9223372036854775807 : Int64)))), .second, .unset, .unset, .unset, .unset, .unset, .unset, .unset, .unset, .unset, .unset, .unset, .unset, .unset] [])) t → Steps p.tables e below (s₁.setTop (mkF m 20 #[.val (.int p1), .val (.long q2), .second, .val (.long q3), .second, .val (.long q4), .second, .val (.int p5), .val (.int n), .unset, .unset, .unset, .unset, .unset, .unset, .unset, .unset, .unset, .unset, .unset, .unset, .unset, .unset, .unset] [(.int (p5 &&& (4 : Int32)))])) t := by
    intro t k
    by_cases hj : (p5 &&& (4 : Int32)) = (0 : Int32)
    · simp only [if_pos hj] at k
      show Steps p.tables e below (s₁.setTop (mkF m 20 #[.val (.int p1), .val (.long q2), .second, .val (.long q3), .second, .val (.long q4), .second, .val (.int p5), .val (.int n), .unset, .unset, .unset, .unset, .unset, .unset, .unset, .unset, .unset, .unset, .unset, .unset, .unset, .unset, .unset] [(.int (p5 &&& (4 : Int32)))])) _
      refine XS.ifYes X0.here hx rfl (pc0 := 20) (pc' := 33) rfl (hb hby at_20) rfl ((if0 _ _).trans (teq hj).1) (by decide) (by decide) ?_
      show Steps p.tables e below (s₁.setTop (mkF m 33 #[.val (.int p1), .val (.long q2), .second, .val (.long q3), .second, .val (.long q4), .second, .val (.int p5), .val (.int n), .unset, .unset, .unset, .unset, .unset, .unset, .unset, .unset, .unset, .unset, .unset, .unset, .unset, .unset, .unset] [])) _
      refine XS.lloadN X0.here hx rfl (hb hby at_33) rfl ?_
      show Steps p.tables e below (s₁.setTop (mkF m 34 #[.val (.int p1), .val (.long q2), .second, .val (.long q3), .second, .val (.long q4), .second, .val (.int p5), .val (.int n), .unset, .unset, .unset, .unset, .unset, .unset, .unset, .unset, .unset, .unset, .unset, .unset, .unset, .unset, .unset] [(.long q2)])) _
      refine Jvm.Stand.ldc2Long X0 hx hown (mvT hZ (hw _ (List.mem_of_getElem? (i := 1) rfl))) (g := (mkF m 34 #[.val (.int p1), .val (.long q2), .second, .val (.long q3), .second, .val (.long q4), .second, .val (.int p5), .val (.int n), .unset, .unset, .unset, .unset, .unset, .unset, .unset, .unset, .unset, .unset, .unset, .unset, .unset, .unset, .unset] [(.long q2)])) rfl (hb hby at_34) _ ?_
      show Steps p.tables e below (s₁.setTop (mkF m 37 #[.val (.int p1), .val (.long q2), .second, .val (.long q3), .second, .val (.long q4), .second, .val (.int p5), .val (.int n), .unset, .unset, .unset, .unset, .unset, .unset, .unset, .unset, .unset, .unset, .unset, .unset, .unset, .unset, .unset] [(.long (4294967295 : Int64)), (.long q2)])) _
      refine XS.land X0.here hx rfl (hb hby at_37) rfl ?_
      show Steps p.tables e below (s₁.setTop (mkF m 38 #[.val (.int p1), .val (.long q2), .second, .val (.long q3), .second, .val (.long q4), .second, .val (.int p5), .val (.int n), .unset, .unset, .unset, .unset, .unset, .unset, .unset, .unset, .unset, .unset, .unset, .unset, .unset, .unset, .unset] [(.long (q2 &&& (4294967295 : Int64)))])) _
      refine XS.lstore X0.here hx rfl (hb hby at_38) rfl (l' := #[.val (.int p1), .val (.long q2), .second, .val (.long q3), .second, .val (.long q4), .second, .val (.int p5), .val (.int n), .val (.long (q2 &&& (4294967295 : Int64))), .second, .unset, .unset, .unset, .unset, .unset, .unset, .unset, .unset, .unset, .unset, .unset, .unset, .unset]) rfl ?_
      exact k
    · simp only [if_neg hj] at k
      show Steps p.tables e below (s₁.setTop (mkF m 20 #[.val (.int p1), .val (.long q2), .second, .val (.long q3), .second, .val (.long q4), .second, .val (.int p5), .val (.int n), .unset, .unset, .unset, .unset, .unset, .unset, .unset, .unset, .unset, .unset, .unset, .unset, .unset, .unset, .unset] [(.int (p5 &&& (4 : Int32)))])) _
      refine XS.ifNo X0.here hx rfl (hb hby at_20) rfl ((if0 _ _).trans (feq hj).1) ?_
      show Steps p.tables e below (s₁.setTop (mkF m 23 #[.val (.int p1), .val (.long q2), .second, .val (.long q3), .second, .val (.long q4), .second, .val (.int p5), .val (.int n), .unset, .unset, .unset, .unset, .unset, .unset, .unset, .unset, .unset, .unset, .unset, .unset, .unset, .unset, .unset] [])) _
      refine XS.lloadN X0.here hx rfl (hb hby at_23) rfl ?_
      show Steps p.tables e below (s₁.setTop (mkF m 24 #[.val (.int p1), .val (.long q2), .second, .val (.long q3), .second, .val (.long q4), .second, .val (.int p5), .val (.int n), .unset, .unset, .unset, .unset, .unset, .unset, .unset, .unset, .unset, .unset, .unset, .unset, .unset, .unset, .unset] [(.long q2)])) _
      refine Jvm.Stand.ldc2Long X0 hx hown (mvT hZ (hw _ (List.mem_of_getElem? (i := 32) rfl))) (g := (mkF m 24 #[.val (.int p1), .val (.long q2), .second, .val (.long q3), .second, .val (.long q4), .second, .val (.int p5), .val (.int n), .unset, .unset, .unset, .unset, .unset, .unset, .unset, .unset, .unset, .unset, .unset, .unset, .unset, .unset, .unset] [(.long q2)])) rfl (hb hby at_24) _ ?_
      show Steps p.tables e below (s₁.setTop (mkF m 27 #[.val (.int p1), .val (.long q2), .second, .val (.long q3), .second, .val (.long q4), .second, .val (.int p5), .val (.int n), .unset, .unset, .unset, .unset, .unset, .unset, .unset, .unset, .unset, .unset, .unset, .unset, .unset, .unset, .unset] [(.long (9223372036854775807 : Int64)), (.long q2)])) _
      refine XS.land X0.here hx rfl (hb hby at_27) rfl ?_
      show Steps p.tables e below (s₁.setTop (mkF m 28 #[.val (.int p1), .val (.long q2), .second, .val (.long q3), .second, .val (.long q4), .second, .val (.int p5), .val (.int n), .unset, .unset, .unset, .unset, .unset, .unset, .unset, .unset, .unset, .unset, .unset, .unset, .unset, .unset, .unset] [(.long (q2 &&& (9223372036854775807 : Int64)))])) _
      refine XS.lstore X0.here hx rfl (hb hby at_28) rfl (l' := #[.val (.int p1), .val (.long q2), .second, .val (.long q3), .second, .val (.long q4), .second, .val (.int p5), .val (.int n), .val (.long (q2 &&& (9223372036854775807 : Int64))), .second, .unset, .unset, .unset, .unset, .unset, .unset, .unset, .unset, .unset, .unset, .unset, .unset, .unset]) rfl ?_
      show Steps p.tables e below (s₁.setTop (mkF m 30 #[.val (.int p1), .val (.long q2), .second, .val (.long q3), .second, .val (.long q4), .second, .val (.int p5), .val (.int n), .val (.long (q2 &&& (9223372036854775807 : Int64))), .second, .unset, .unset, .unset, .unset, .unset, .unset, .unset, .unset, .unset, .unset, .unset, .unset, .unset] [])) _
      refine XS.goto X0.here hx rfl (pc0 := 30) (pc' := 40) rfl (hb hby at_30) (by decide) (by decide) ?_
      exact k
  obtain ⟨w, hv_w⟩ : ∃ z : Int64, z = (if (p5 &&& (4 : Int32)) = (0 : Int32) then (q2 &&& (4294967295 : Int64)) else (q2 &&& (9223372036854775807 : Int64))) := ⟨_, rfl⟩
  rw [← hv_w] at j2
  have j3 : ∀ t, Steps p.tables e below (s₁.setTop (mkF m 72 #[.val (.int p1), .val (.long q2), .second, .val (.long q3), .second, .val (.long q4), .second, .val (.int p5), .val (.int n), .val (.long w), .second, .val (.long (if (0 : Int32) < (lcmpW w (0 : Int64)) then ((q3 &&& (9223372036854775807 : Int64)) - ((q3 &&& (9223372036854775807 : Int64)) / w) * w) else q3)), .second, .val (.long q4), .second, .unset, .unset, .unset, .unset, .unset, .unset, .unset, .unset, .unset] [])) t → Steps p.tables e below (s₁.setTop (mkF m 59 #[.val (.int p1), .val (.long q2), .second, .val (.long q3), .second, .val (.long q4), .second, .val (.int p5), .val (.int n), .val (.long w), .second, .val (.long q3), .second, .val (.long q4), .second, .unset, .unset, .unset, .unset, .unset, .unset, .unset, .unset, .unset] [(.int (lcmpW w (0 : Int64)))])) t := by
    intro t k
    by_cases hj : (0 : Int32) < (lcmpW w (0 : Int64))
    · simp only [if_pos hj] at k
      show Steps p.tables e below (s₁.setTop (mkF m 59 #[.val (.int p1), .val (.long q2), .second, .val (.long q3), .second, .val (.long q4), .second, .val (.int p5), .val (.int n), .val (.long w), .second, .val (.long q3), .second, .val (.long q4), .second, .unset, .unset, .unset, .unset, .unset, .unset, .unset, .unset, .unset] [(.int (lcmpW w (0 : Int64)))])) _
      refine XS.ifNo X0.here hx rfl (hb hby at_59) rfl ((if0 _ _).trans (tlt hj).2.2.2) ?_
      show Steps p.tables e below (s₁.setTop (mkF m 62 #[.val (.int p1), .val (.long q2), .second, .val (.long q3), .second, .val (.long q4), .second, .val (.int p5), .val (.int n), .val (.long w), .second, .val (.long q3), .second, .val (.long q4), .second, .unset, .unset, .unset, .unset, .unset, .unset, .unset, .unset, .unset] [])) _
      refine XS.lloadN X0.here hx rfl (hb hby at_62) rfl ?_
      show Steps p.tables e below (s₁.setTop (mkF m 63 #[.val (.int p1), .val (.long q2), .second, .val (.long q3), .second, .val (.long q4), .second, .val (.int p5), .val (.int n), .val (.long w), .second, .val (.long q3), .second, .val (.long q4), .second, .unset, .unset, .unset, .unset, .unset, .unset, .unset, .unset, .unset] [(.long q3)])) _
      refine Jvm.Stand.ldc2Long X0 hx hown (mvT hZ (hw _ (List.mem_of_getElem? (i := 32) rfl))) (g := (mkF m 63 #[.val (.int p1), .val (.long q2), .second, .val (.long q3), .second, .val (.long q4), .second, .val (.int p5), .val (.int n), .val (.long w), .second, .val (.long q3), .second, .val (.long q4), .second, .unset, .unset, .unset, .unset, .unset, .unset, .unset, .unset, .unset] [(.long q3)])) rfl (hb hby at_63) _ ?_
      show Steps p.tables e below (s₁.setTop (mkF m 66 #[.val (.int p1), .val (.long q2), .second, .val (.long q3), .second, .val (.long q4), .second, .val (.int p5), .val (.int n), .val (.long w), .second, .val (.long q3), .second, .val (.long q4), .second, .unset, .unset, .unset, .unset, .unset, .unset, .unset, .unset, .unset] [(.long (9223372036854775807 : Int64)), (.long q3)])) _
      refine XS.land X0.here hx rfl (hb hby at_66) rfl ?_
      show Steps p.tables e below (s₁.setTop (mkF m 67 #[.val (.int p1), .val (.long q2), .second, .val (.long q3), .second, .val (.long q4), .second, .val (.int p5), .val (.int n), .val (.long w), .second, .val (.long q3), .second, .val (.long q4), .second, .unset, .unset, .unset, .unset, .unset, .unset, .unset, .unset, .unset] [(.long (q3 &&& (9223372036854775807 : Int64)))])) _
      refine XS.lload X0.here hx rfl (hb hby at_67) rfl ?_
      show Steps p.tables e below (s₁.setTop (mkF m 69 #[.val (.int p1), .val (.long q2), .second, .val (.long q3), .second, .val (.long q4), .second, .val (.int p5), .val (.int n), .val (.long w), .second, .val (.long q3), .second, .val (.long q4), .second, .unset, .unset, .unset, .unset, .unset, .unset, .unset, .unset, .unset] [(.long w), (.long (q3 &&& (9223372036854775807 : Int64)))])) _
      refine XS.lrem X0.here hx rfl (hb hby at_69) rfl (Own.nz hj) ?_
      show Steps p.tables e below (s₁.setTop (mkF m 70 #[.val (.int p1), .val (.long q2), .second, .val (.long q3), .second, .val (.long q4), .second, .val (.int p5), .val (.int n), .val (.long w), .second, .val (.long q3), .second, .val (.long q4), .second, .unset, .unset, .unset, .unset, .unset, .unset, .unset, .unset, .unset] [(.long ((q3 &&& (9223372036854775807 : Int64)) - ((q3 &&& (9223372036854775807 : Int64)) / w) * w))])) _
      refine XS.lstore X0.here hx rfl (hb hby at_70) rfl (l' := #[.val (.int p1), .val (.long q2), .second, .val (.long q3), .second, .val (.long q4), .second, .val (.int p5), .val (.int n), .val (.long w), .second, .val (.long ((q3 &&& (9223372036854775807 : Int64)) - ((q3 &&& (9223372036854775807 : Int64)) / w) * w)), .second, .val (.long q4), .second, .unset, .unset, .unset, .unset, .unset, .unset, .unset, .unset, .unset]) rfl ?_
      exact k
    · simp only [if_neg hj] at k
      show Steps p.tables e below (s₁.setTop (mkF m 59 #[.val (.int p1), .val (.long q2), .second, .val (.long q3), .second, .val (.long q4), .second, .val (.int p5), .val (.int n), .val (.long w), .second, .val (.long q3), .second, .val (.long q4), .second, .unset, .unset, .unset, .unset, .unset, .unset, .unset, .unset, .unset] [(.int (lcmpW w (0 : Int64)))])) _
      refine XS.ifYes X0.here hx rfl (pc0 := 59) (pc' := 72) rfl (hb hby at_59) rfl ((if0 _ _).trans (flt hj).2.2.2) (by decide) (by decide) ?_
      exact k
  have j4 : ∀ t, Steps p.tables e below (s₁.setTop (mkF m 72 #[.val (.int p1), .val (.long q2), .second, .val (.long q3), .second, .val (.long q4), .second, .val (.int p5), .val (.int n), .val (.long w), .second, .val (.long (if (p5 &&& (8 : Int32)) = (0 : Int32) then q3 else (if (0 : Int32) < (lcmpW w (0 : Int64)) then ((q3 &&& (9223372036854775807 : Int64)) - ((q3 &&& (9223372036854775807 : Int64)) / w) * w) else q3))), .second, .val (.long q4), .second, .unset, .unset, .unset, .unset, .unset, .unset, .unset, .unset, .unset] [])) t → Steps p.tables e below (s₁.setTop (mkF m 52 #[.val (.int p1), .val (.long q2), .second, .val (.long q3), .second, .val (.long q4), .second, .val (.int p5), .val (.int n), .val (.long w), .second, .val (.long q3), .second, .val (.long q4), .second, .unset, .unset, .unset, .unset, .unset, .unset, .unset, .unset, .unset] [(.int (p5 &&& (8 : Int32)))])) t := by
    intro t k
    by_cases hj : (p5 &&& (8 : Int32)) = (0 : Int32)
    · simp only [if_pos hj] at k
      show Steps p.tables e below (s₁.setTop (mkF m 52 #[.val (.int p1), .val (.long q2), .second, .val (.long q3), .second, .val (.long q4), .second, .val (.int p5), .val (.int n), .val (.long w), .second, .val (.long q3), .second, .val (.long q4), .second, .unset, .unset, .unset, .unset, .unset, .unset, .unset, .unset, .unset] [(.int (p5 &&& (8 : Int32)))])) _
      refine XS.ifYes X0.here hx rfl (pc0 := 52) (pc' := 72) rfl (hb hby at_52) rfl ((if0 _ _).trans (teq hj).1) (by decide) (by decide) ?_
      exact k
    · simp only [if_neg hj] at k
      show Steps p.tables e below (s₁.setTop (mkF m 52 #[.val (.int p1), .val (.long q2), .second, .val (.long q3), .second, .val (.long q4), .second, .val (.int p5), .val (.int n), .val (.long w), .second, .val (.long q3), .second, .val (.long q4), .second, .unset, .unset, .unset, .unset, .unset, .unset, .unset, .unset, .unset] [(.int (p5 &&& (8 : Int32)))])) _
      refine XS.ifNo X0.here hx rfl (hb hby at_52) rfl ((if0 _ _).trans (feq hj).1) ?_
      show Steps p.tables e below (s₁.setTop (mkF m 55 #[.val (.int p1), .val (.long q2), .second, .val (.long q3), .second, .val (.long q4), .second, .val (.int p5), .val (.int n), .val (.long w), .second, .val (.long q3), .second, .val (.long q4), .second, .unset, .unset, .unset, .unset, .unset, .unset, .unset, .unset, .unset] [])) _
      refine XS.lload X0.here hx rfl (hb hby at_55) rfl ?_
      show Steps p.tables e below (s₁.setTop (mkF m 57 #[.val (.int p1), .val (.long q2), .second, .val (.long q3), .second, .val (.long q4), .second, .val (.int p5), .val (.int n), .val (.long w), .second, .val (.long q3), .second, .val (.long q4), .second, .unset, .unset, .unset, .unset, .unset, .unset, .unset, .unset, .unset] [(.long w)])) _
      refine XS.lconst X0.here hx rfl (hb hby at_57) ?_
      show Steps p.tables e below (s₁.setTop (mkF m 58 #[.val (.int p1), .val (.long q2), .second, .val (.long q3), .second, .val (.long q4), .second, .val (.int p5), .val (.int n), .val (.long w), .second, .val (.long q3), .second, .val (.long q4), .second, .unset, .unset, .unset, .unset, .unset, .unset, .unset, .unset, .unset] [(.long (0 : Int64)), (.long w)])) _
      refine XS.lcmp X0.here hx rfl (hb hby at_58) rfl ?_
      show Steps p.tables e below (s₁.setTop (mkF m 59 #[.val (.int p1), .val (.long q2), .second, .val (.long q3), .second, .val (.long q4), .second, .val (.int p5), .val (.int n), .val (.long w), .second, .val (.long q3), .second, .val (.long q4), .second, .unset, .unset, .unset, .unset, .unset, .unset, .unset, .unset, .unset] [(.int (lcmpW w (0 : Int64)))])) _
      refine j3 _ ?_
      exact k
  obtain ⟨u, hv_u⟩ : ∃ z : Int64, z = (if (p5 &&& (8 : Int32)) = (0 : Int32) then q3 else (if (0 : Int32) < (lcmpW w (0 : Int64)) then ((q3 &&& (9223372036854775807 : Int64)) - ((q3 &&& (9223372036854775807 : Int64)) / w) * w) else q3)) := ⟨_, rfl⟩
  rw [← hv_u] at j4
  have j5 : ∀ t, Steps p.tables e below (s₁.setTop (mkF m 98 #[.val (.int p1), .val (.long q2), .second, .val (.long q3), .second, .val (.long q4), .second, .val (.int p5), .val (.int n), .val (.long w), .second, .val (.long u), .second, .val (.long (if (0 : Int32) < (lcmpW w (0 : Int64)) then ((q4 &&& (9223372036854775807 : Int64)) - ((q4 &&& (9223372036854775807 : Int64)) / w) * w) else q4)), .second, .unset, .unset, .unset, .unset, .unset, .unset, .unset, .unset, .unset] [])) t → Steps p.tables e below (s₁.setTop (mkF m 84 #[.val (.int p1), .val (.long q2), .second, .val (.long q3), .second, .val (.long q4), .second, .val (.int p5), .val (.int n), .val (.long w), .second, .val (.long u), .second, .val (.long q4), .second, .unset, .unset, .unset, .unset, .unset, .unset, .unset, .unset, .unset] [(.int (lcmpW w (0 : Int64)))])) t := by
    intro t k
    by_cases hj : (0 : Int32) < (lcmpW w (0 : Int64))
    · simp only [if_pos hj] at k
      show Steps p.tables e below (s₁.setTop (mkF m 84 #[.val (.int p1), .val (.long q2), .second, .val (.long q3), .second, .val (.long q4), .second, .val (.int p5), .val (.int n), .val (.long w), .second, .val (.long u), .second, .val (.long q4), .second, .unset, .unset, .unset, .unset, .unset, .unset, .unset, .unset, .unset] [(.int (lcmpW w (0 : Int64)))])) _
      refine XS.ifNo X0.here hx rfl (hb hby at_84) rfl ((if0 _ _).trans (tlt hj).2.2.2) ?_
      show Steps p.tables e below (s₁.setTop (mkF m 87 #[.val (.int p1), .val (.long q2), .second, .val (.long q3), .second, .val (.long q4), .second, .val (.int p5), .val (.int n), .val (.long w), .second, .val (.long u), .second, .val (.long q4), .second, .unset, .unset, .unset, .unset, .unset, .unset, .unset, .unset, .unset] [])) _
      refine XS.lload X0.here hx rfl (hb hby at_87) rfl ?_
      show Steps p.tables e below (s₁.setTop (mkF m 89 #[.val (.int p1), .val (.long q2), .second, .val (.long q3), .second, .val (.long q4), .second, .val (.int p5), .val (.int n), .val (.long w), .second, .val (.long u), .second, .val (.long q4), .second, .unset, .unset, .unset, .unset, .unset, .unset, .unset, .unset, .unset] [(.long q4)])) _
      refine Jvm.Stand.ldc2Long X0 hx hown (mvT hZ (hw _ (List.mem_of_getElem? (i := 32) rfl))) (g := (mkF m 89 #[.val (.int p1), .val (.long q2), .second, .val (.long q3), .second, .val (.long q4), .second, .val (.int p5), .val (.int n), .val (.long w), .second, .val (.long u), .second, .val (.long q4), .second, .unset, .unset, .unset, .unset, .unset, .unset, .unset, .unset, .unset] [(.long q4)])) rfl (hb hby at_89) _ ?_
      show Steps p.tables e below (s₁.setTop (mkF m 92 #[.val (.int p1), .val (.long q2), .second, .val (.long q3), .second, .val (.long q4), .second, .val (.int p5), .val (.int n), .val (.long w), .second, .val (.long u), .second, .val (.long q4), .second, .unset, .unset, .unset, .unset, .unset, .unset, .unset, .unset, .unset] [(.long (9223372036854775807 : Int64)), (.long q4)])) _
      refine XS.land X0.here hx rfl (hb hby at_92) rfl ?_
      show Steps p.tables e below (s₁.setTop (mkF m 93 #[.val (.int p1), .val (.long q2), .second, .val (.long q3), .second, .val (.long q4), .second, .val (.int p5), .val (.int n), .val (.long w), .second, .val (.long u), .second, .val (.long q4), .second, .unset, .unset, .unset, .unset, .unset, .unset, .unset, .unset, .unset] [(.long (q4 &&& (9223372036854775807 : Int64)))])) _
      refine XS.lload X0.here hx rfl (hb hby at_93) rfl ?_
      show Steps p.tables e below (s₁.setTop (mkF m 95 #[.val (.int p1), .val (.long q2), .second, .val (.long q3), .second, .val (.long q4), .second, .val (.int p5), .val (.int n), .val (.long w), .second, .val (.long u), .second, .val (.long q4), .second, .unset, .unset, .unset, .unset, .unset, .unset, .unset, .unset, .unset] [(.long w), (.long (q4 &&& (9223372036854775807 : Int64)))])) _
      refine XS.lrem X0.here hx rfl (hb hby at_95) rfl (Own.nz hj) ?_
      show Steps p.tables e below (s₁.setTop (mkF m 96 #[.val (.int p1), .val (.long q2), .second, .val (.long q3), .second, .val (.long q4), .second, .val (.int p5), .val (.int n), .val (.long w), .second, .val (.long u), .second, .val (.long q4), .second, .unset, .unset, .unset, .unset, .unset, .unset, .unset, .unset, .unset] [(.long ((q4 &&& (9223372036854775807 : Int64)) - ((q4 &&& (9223372036854775807 : Int64)) / w) * w))])) _
      refine XS.lstore X0.here hx rfl (hb hby at_96) rfl (l' := #[.val (.int p1), .val (.long q2), .second, .val (.long q3), .second, .val (.long q4), .second, .val (.int p5), .val (.int n), .val (.long w), .second, .val (.long u), .second, .val (.long ((q4 &&& (9223372036854775807 : Int64)) - ((q4 &&& (9223372036854775807 : Int64)) / w) * w)), .second, .unset, .unset, .unset, .unset, .unset, .unset, .unset, .unset, .unset]) rfl ?_
      exact k
    · simp only [if_neg hj] at k
      show Steps p.tables e below (s₁.setTop (mkF m 84 #[.val (.int p1), .val (.long q2), .second, .val (.long q3), .second, .val (.long q4), .second, .val (.int p5), .val (.int n), .val (.long w), .second, .val (.long u), .second, .val (.long q4), .second, .unset, .unset, .unset, .unset, .unset, .unset, .unset, .unset, .unset] [(.int (lcmpW w (0 : Int64)))])) _
      refine XS.ifYes X0.here hx rfl (pc0 := 84) (pc' := 98) rfl (hb hby at_84) rfl ((if0 _ _).trans (flt hj).2.2.2) (by decide) (by decide) ?_
      exact k
  have j6 : ∀ t, Steps p.tables e below (s₁.setTop (mkF m 98 #[.val (.int p1), .val (.long q2), .second, .val (.long q3), .second, .val (.long q4), .second, .val (.int p5), .val (.int n), .val (.long w), .second, .val (.long u), .second, .val (.long (if (p5 &&& (16 : Int32)) = (0 : Int32) then q4 else (if (0 : Int32) < (lcmpW w (0 : Int64)) then ((q4 &&& (9223372036854775807 : Int64)) - ((q4 &&& (9223372036854775807 : Int64)) / w) * w) else q4))), .second, .unset, .unset, .unset, .unset, .unset, .unset, .unset, .unset, .unset] [])) t → Steps p.tables e below (s₁.setTop (mkF m 77 #[.val (.int p1), .val (.long q2), .second, .val (.long q3), .second, .val (.long q4), .second, .val (.int p5), .val (.int n), .val (.long w), .second, .val (.long u), .second, .val (.long q4), .second, .unset, .unset, .unset, .unset, .unset, .unset, .unset, .unset, .unset] [(.int (p5 &&& (16 : Int32)))])) t := by
    intro t k
    by_cases hj : (p5 &&& (16 : Int32)) = (0 : Int32)
    · simp only [if_pos hj] at k
      show Steps p.tables e below (s₁.setTop (mkF m 77 #[.val (.int p1), .val (.long q2), .second, .val (.long q3), .second, .val (.long q4), .second, .val (.int p5), .val (.int n), .val (.long w), .second, .val (.long u), .second, .val (.long q4), .second, .unset, .unset, .unset, .unset, .unset, .unset, .unset, .unset, .unset] [(.int (p5 &&& (16 : Int32)))])) _
      refine XS.ifYes X0.here hx rfl (pc0 := 77) (pc' := 98) rfl (hb hby at_77) rfl ((if0 _ _).trans (teq hj).1) (by decide) (by decide) ?_
      exact k
    · simp only [if_neg hj] at k
      show Steps p.tables e below (s₁.setTop (mkF m 77 #[.val (.int p1), .val (.long q2), .second, .val (.long q3), .second, .val (.long q4), .second, .val (.int p5), .val (.int n), .val (.long w), .second, .val (.long u), .second, .val (.long q4), .second, .unset, .unset, .unset, .unset, .unset, .unset, .unset, .unset, .unset] [(.int (p5 &&& (16 : Int32)))])) _
      refine XS.ifNo X0.here hx rfl (hb hby at_77) rfl ((if0 _ _).trans (feq hj).1) ?_
      show Steps p.tables e below (s₁.setTop (mkF m 80 #[.val (.int p1), .val (.long q2), .second, .val (.long q3), .second, .val (.long q4), .second, .val (.int p5), .val (.int n), .val (.long w), .second, .val (.long u), .second, .val (.long q4), .second, .unset, .unset, .unset, .unset, .unset, .unset, .unset, .unset, .unset] [])) _
      refine XS.lload X0.here hx rfl (hb hby at_80) rfl ?_
      show Steps p.tables e below (s₁.setTop (mkF m 82 #[.val (.int p1), .val (.long q2), .second, .val (.long q3), .second, .val (.long q4), .second, .val (.int p5), .val (.int n), .val (.long w), .second, .val (.long u), .second, .val (.long q4), .second, .unset, .unset, .unset, .unset, .unset, .unset, .unset, .unset, .unset] [(.long w)])) _
      refine XS.lconst X0.here hx rfl (hb hby at_82) ?_
      show Steps p.tables e below (s₁.setTop (mkF m 83 #[.val (.int p1), .val (.long q2), .second, .val (.long q3), .second, .val (.long q4), .second, .val (.int p5), .val (.int n), .val (.long w), .second, .val (.long u), .second, .val (.long q4), .second, .unset, .unset, .unset, .unset, .unset, .unset, .unset, .unset, .unset] [(.long (0 : Int64)), (.long w)])) _
      refine XS.lcmp X0.here hx rfl (hb hby at_83) rfl ?_
      show Steps p.tables e below (s₁.setTop (mkF m 84 #[.val (.int p1), .val (.long q2), .second, .val (.long q3), .second, .val (.long q4), .second, .val (.int p5), .val (.int n), .val (.long w), .second, .val (.long u), .second, .val (.long q4), .second, .unset, .unset, .unset, .unset, .unset, .unset, .unset, .unset, .unset] [(.int (lcmpW w (0 : Int64)))])) _
      refine j5 _ ?_
      exact k
  obtain ⟨v, hv_v⟩ : ∃ z : Int64, z = (if (p5 &&& (16 : Int32)) = (0 : Int32) then q4 else (if (0 : Int32) < (lcmpW w (0 : Int64)) then ((q4 &&& (9223372036854775807 : Int64)) - ((q4 &&& (9223372036854775807 : Int64)) / w) * w) else q4)) := ⟨_, rfl⟩
  rw [← hv_v] at j6
  have pre7 : ∀ t, Steps p.tables e below (s₁.setTop (mkF m 98 #[.val (.int p1), .val (.long q2), .second, .val (.long q3), .second, .val (.long q4), .second, .val (.int p5), .val (.int n), .val (.long w), .second, .val (.long u), .second, .val (.long v), .second, .unset, .unset, .unset, .unset, .unset, .unset, .unset, .unset, .unset] [])) t → Steps p.tables e below (s₁.setTop (entryFrame m #[(.int p1), (.long q2), (.long q3), (.long q4), (.int p5)] maxLocals)) t := fun t k => pre0 t (by
      show Steps p.tables e below (s₁.setTop (mkF m 0 #[.val (.int p1), .val (.long q2), .second, .val (.long q3), .second, .val (.long q4), .second, .val (.int p5), .unset, .unset, .unset, .unset, .unset, .unset, .unset, .unset, .unset, .unset, .unset, .unset, .unset, .unset, .unset, .unset] [])) _
      refine XS.iloadN X0.here hx rfl (hb hby at_0) rfl ?_
      show Steps p.tables e below (s₁.setTop (mkF m 1 #[.val (.int p1), .val (.long q2), .second, .val (.long q3), .second, .val (.long q4), .second, .val (.int p5), .unset, .unset, .unset, .unset, .unset, .unset, .unset, .unset, .unset, .unset, .unset, .unset, .unset, .unset, .unset, .unset] [(.int p1)])) _
      refine Jvm.Stand.ldcI X0 hx hown (mvT hZ (hw _ (List.mem_of_getElem? (i := 0) rfl))) (g := (mkF m 1 #[.val (.int p1), .val (.long q2), .second, .val (.long q3), .second, .val (.long q4), .second, .val (.int p5), .unset, .unset, .unset, .unset, .unset, .unset, .unset, .unset, .unset, .unset, .unset, .unset, .unset, .unset, .unset, .unset] [(.int p1)])) rfl (hb hby at_1) ?_
      show Steps p.tables e below (s₁.setTop (mkF m 3 #[.val (.int p1), .val (.long q2), .second, .val (.long q3), .second, .val (.long q4), .second, .val (.int p5), .unset, .unset, .unset, .unset, .unset, .unset, .unset, .unset, .unset, .unset, .unset, .unset, .unset, .unset, .unset, .unset] [(.int (2147483647 : Int32)), (.int p1)])) _
      refine XS.iand X0.here hx rfl (hb hby at_3) rfl ?_
      show Steps p.tables e below (s₁.setTop (mkF m 4 #[.val (.int p1), .val (.long q2), .second, .val (.long q3), .second, .val (.long q4), .second, .val (.int p5), .unset, .unset, .unset, .unset, .unset, .unset, .unset, .unset, .unset, .unset, .unset, .unset, .unset, .unset, .unset, .unset] [(.int (p1 &&& (2147483647 : Int32)))])) _
      refine XS.istore X0.here hx rfl (hb hby at_4) rfl (l' := #[.val (.int p1), .val (.long q2), .second, .val (.long q3), .second, .val (.long q4), .second, .val (.int p5), .val (.int (p1 &&& (2147483647 : Int32))), .unset, .unset, .unset, .unset, .unset, .unset, .unset, .unset, .unset, .unset, .unset, .unset, .unset, .unset, .unset]) rfl ?_
      show Steps p.tables e below (s₁.setTop (mkF m 6 #[.val (.int p1), .val (.long q2), .second, .val (.long q3), .second, .val (.long q4), .second, .val (.int p5), .val (.int (p1 &&& (2147483647 : Int32))), .unset, .unset, .unset, .unset, .unset, .unset, .unset, .unset, .unset, .unset, .unset, .unset, .unset, .unset, .unset] [])) _
      refine XS.iload X0.here hx rfl (hb hby at_6) rfl ?_
      show Steps p.tables e below (s₁.setTop (mkF m 8 #[.val (.int p1), .val (.long q2), .second, .val (.long q3), .second, .val (.long q4), .second, .val (.int p5), .val (.int (p1 &&& (2147483647 : Int32))), .unset, .unset, .unset, .unset, .unset, .unset, .unset, .unset, .unset, .unset, .unset, .unset, .unset, .unset, .unset] [(.int p5)])) _
      refine XS.iconst X0.here hx rfl (hb hby at_8) ?_
      show Steps p.tables e below (s₁.setTop (mkF m 9 #[.val (.int p1), .val (.long q2), .second, .val (.long q3), .second, .val (.long q4), .second, .val (.int p5), .val (.int (p1 &&& (2147483647 : Int32))), .unset, .unset, .unset, .unset, .unset, .unset, .unset, .unset, .unset, .unset, .unset, .unset, .unset, .unset, .unset] [(.int (3 : Int32)), (.int p5)])) _
      refine XS.iand X0.here hx rfl (hb hby at_9) rfl ?_
      show Steps p.tables e below (s₁.setTop (mkF m 10 #[.val (.int p1), .val (.long q2), .second, .val (.long q3), .second, .val (.long q4), .second, .val (.int p5), .val (.int (p1 &&& (2147483647 : Int32))), .unset, .unset, .unset, .unset, .unset, .unset, .unset, .unset, .unset, .unset, .unset, .unset, .unset, .unset, .unset] [(.int (p5 &&& (3 : Int32)))])) _
      refine j1 _ ?_
      show Steps p.tables e below (s₁.setTop (mkF m 16 #[.val (.int p1), .val (.long q2), .second, .val (.long q3), .second, .val (.long q4), .second, .val (.int p5), .val (.int n), .unset, .unset, .unset, .unset, .unset, .unset, .unset, .unset, .unset, .unset, .unset, .unset, .unset, .unset, .unset] [])) _
      refine XS.iload X0.here hx rfl (hb hby at_16) rfl ?_
      show Steps p.tables e below (s₁.setTop (mkF m 18 #[.val (.int p1), .val (.long q2), .second, .val (.long q3), .second, .val (.long q4), .second, .val (.int p5), .val (.int n), .unset, .unset, .unset, .unset, .unset, .unset, .unset, .unset, .unset, .unset, .unset, .unset, .unset, .unset, .unset] [(.int p5)])) _
      refine XS.iconst X0.here hx rfl (hb hby at_18) ?_
      show Steps p.tables e below (s₁.setTop (mkF m 19 #[.val (.int p1), .val (.long q2), .second, .val (.long q3), .second, .val (.long q4), .second, .val (.int p5), .val (.int n), .unset, .unset, .unset, .unset, .unset, .unset, .unset, .unset, .unset, .unset, .unset, .unset, .unset, .unset, .unset] [(.int (4 : Int32)), (.int p5)])) _
      refine XS.iand X0.here hx rfl (hb hby at_19) rfl ?_
      show Steps p.tables e below (s₁.setTop (mkF m 20 #[.val (.int p1), .val (.long q2), .second, .val (.long q3), .second, .val (.long q4), .second, .val (.int p5), .val (.int n), .unset, .unset, .unset, .unset, .unset, .unset, .unset, .unset, .unset, .unset, .unset, .unset, .unset, .unset, .unset] [(.int (p5 &&& (4 : Int32)))])) _
      refine j2 _ ?_
      show Steps p.tables e below (s₁.setTop (mkF m 40 #[.val (.int p1), .val (.long q2), .second, .val (.long q3), .second, .val (.long q4), .second, .val (.int p5), .val (.int n), .val (.long w), .second, .unset, .unset, .unset, .unset, .unset, .unset, .unset, .unset, .unset, .unset, .unset, .unset, .unset] [])) _
      refine XS.lloadN X0.here hx rfl (hb hby at_40) rfl ?_
      show Steps p.tables e below (s₁.setTop (mkF m 41 #[.val (.int p1), .val (.long q2), .second, .val (.long q3), .second, .val (.long q4), .second, .val (.int p5), .val (.int n), .val (.long w), .second, .unset, .unset, .unset, .unset, .unset, .unset, .unset, .unset, .unset, .unset, .unset, .unset, .unset] [(.long q3)])) _
      refine XS.lstore X0.here hx rfl (hb hby at_41) rfl (l' := #[.val (.int p1), .val (.long q2), .second, .val (.long q3), .second, .val (.long q4), .second, .val (.int p5), .val (.int n), .val (.long w), .second, .val (.long q3), .second, .unset, .unset, .unset, .unset, .unset, .unset, .unset, .unset, .unset, .unset, .unset]) rfl ?_
      show Steps p.tables e below (s₁.setTop (mkF m 43 #[.val (.int p1), .val (.long q2), .second, .val (.long q3), .second, .val (.long q4), .second, .val (.int p5), .val (.int n), .val (.long w), .second, .val (.long q3), .second, .unset, .unset, .unset, .unset, .unset, .unset, .unset, .unset, .unset, .unset, .unset] [])) _
      refine XS.lload X0.here hx rfl (hb hby at_43) rfl ?_
      show Steps p.tables e below (s₁.setTop (mkF m 45 #[.val (.int p1), .val (.long q2), .second, .val (.long q3), .second, .val (.long q4), .second, .val (.int p5), .val (.int n), .val (.long w), .second, .val (.long q3), .second, .unset, .unset, .unset, .unset, .unset, .unset, .unset, .unset, .unset, .unset, .unset] [(.long q4)])) _
      refine XS.lstore X0.here hx rfl (hb hby at_45) rfl (l' := #[.val (.int p1), .val (.long q2), .second, .val (.long q3), .second, .val (.long q4), .second, .val (.int p5), .val (.int n), .val (.long w), .second, .val (.long q3), .second, .val (.long q4), .second, .unset, .unset, .unset, .unset, .unset, .unset, .unset, .unset, .unset]) rfl ?_
      show Steps p.tables e below (s₁.setTop (mkF m 47 #[.val (.int p1), .val (.long q2), .second, .val (.long q3), .second, .val (.long q4), .second, .val (.int p5), .val (.int n), .val (.long w), .second, .val (.long q3), .second, .val (.long q4), .second, .unset, .unset, .unset, .unset, .unset, .unset, .unset, .unset, .unset] [])) _
      refine XS.iload X0.here hx rfl (hb hby at_47) rfl ?_
      show Steps p.tables e below (s₁.setTop (mkF m 49 #[.val (.int p1), .val (.long q2), .second, .val (.long q3), .second, .val (.long q4), .second, .val (.int p5), .val (.int n), .val (.long w), .second, .val (.long q3), .second, .val (.long q4), .second, .unset, .unset, .unset, .unset, .unset, .unset, .unset, .unset, .unset] [(.int p5)])) _
      refine XS.bipush X0.here hx rfl (hb hby at_49) ?_
      show Steps p.tables e below (s₁.setTop (mkF m 51 #[.val (.int p1), .val (.long q2), .second, .val (.long q3), .second, .val (.long q4), .second, .val (.int p5), .val (.int n), .val (.long w), .second, .val (.long q3), .second, .val (.long q4), .second, .unset, .unset, .unset, .unset, .unset, .unset, .unset, .unset, .unset] [(.int (8 : Int32)), (.int p5)])) _
      refine XS.iand X0.here hx rfl (hb hby at_51) rfl ?_
      show Steps p.tables e below (s₁.setTop (mkF m 52 #[.val (.int p1), .val (.long q2), .second, .val (.long q3), .second, .val (.long q4), .second, .val (.int p5), .val (.int n), .val (.long w), .second, .val (.long q3), .second, .val (.long q4), .second, .unset, .unset, .unset, .unset, .unset, .unset, .unset, .unset, .unset] [(.int (p5 &&& (8 : Int32)))])) _
      refine j4 _ ?_
      show Steps p.tables e below (s₁.setTop (mkF m 72 #[.val (.int p1), .val (.long q2), .second, .val (.long q3), .second, .val (.long q4), .second, .val (.int p5), .val (.int n), .val (.long w), .second, .val (.long u), .second, .val (.long q4), .second, .unset, .unset, .unset, .unset, .unset, .unset, .unset, .unset, .unset] [])) _
      refine XS.iload X0.here hx rfl (hb hby at_72) rfl ?_
      show Steps p.tables e below (s₁.setTop (mkF m 74 #[.val (.int p1), .val (.long q2), .second, .val (.long q3), .second, .val (.long q4), .second, .val (.int p5), .val (.int n), .val (.long w), .second, .val (.long u), .second, .val (.long q4), .second, .unset, .unset, .unset, .unset, .unset, .unset, .unset, .unset, .unset] [(.int p5)])) _
      refine XS.bipush X0.here hx rfl (hb hby at_74) ?_
      show Steps p.tables e below (s₁.setTop (mkF m 76 #[.val (.int p1), .val (.long q2), .second, .val (.long q3), .second, .val (.long q4), .second, .val (.int p5), .val (.int n), .val (.long w), .second, .val (.long u), .second, .val (.long q4), .second, .unset, .unset, .unset, .unset, .unset, .unset, .unset, .unset, .unset] [(.int (16 : Int32)), (.int p5)])) _
      refine XS.iand X0.here hx rfl (hb hby at_76) rfl ?_
      show Steps p.tables e below (s₁.setTop (mkF m 77 #[.val (.int p1), .val (.long q2), .second, .val (.long q3), .second, .val (.long q4), .second, .val (.int p5), .val (.int n), .val (.long w), .second, .val (.long u), .second, .val (.long q4), .second, .unset, .unset, .unset, .unset, .unset, .unset, .unset, .unset, .unset] [(.int (p5 &&& (16 : Int32)))])) _
      refine j6 _ ?_
      exact k)
  have hn0 : 0 ≤ n.toInt := by
    rw [hv_n]; split
    · decide
    · exact Own.and32 _
  have hw0 : 0 ≤ w.toInt := by
    rw [hv_w]; split <;> exact Own.and64 _ _ (by decide)
  have hnn : ¬ (n < (0 : Int32)) := by rw [Int32.lt_iff_toInt_lt, Own.i0]; omega
  have hww : ¬ ((lcmpW w (0 : Int64)) < (0 : Int32)) := by rw [Own.lt_iff, Own.l0]; omega
  obtain ⟨T8, h8, X8, e8, E8, A8, D8, -, st8⟩ := newO X0 hx hZ hown (hw _ (List.mem_of_getElem? (i := 2) rfl)) (hw _ (List.mem_of_getElem? (i := 3) rfl)) (hw _ (List.mem_of_getElem? (i := 4) rfl)) e0 (g := (mkF m 98 #[.val (.int p1), .val (.long q2), .second, .val (.long q3), .second, .val (.long q4), .second, .val (.int p5), .val (.int n), .val (.long w), .second, .val (.long u), .second, .val (.long v), .second, .unset, .unset, .unset, .unset, .unset, .unset, .unset, .unset, .unset] [])) rfl (hb hby at_98) (by decide) (by decide)
  obtain ⟨b8, g8⟩ : ∃ z, z = (h0).size := ⟨_, rfl⟩
  rw [← g8] at A8 D8 st8
  have ga_b8 : n0 ≤ b8 := Nat.le_trans Z0 (Nat.le_of_eq g8.symm)
  have sz_b8 : h0.size ≤ b8 := Nat.le_trans (Keep.refl h0 []).1 (Nat.le_of_eq g8.symm)
  have K8_ : Keep h0 h8 [] := (Keep.refl h0 []).ext E8
  have z8_ : n0 ≤ (h8).size := Nat.le_trans Z0 E8.1
  have F8_full_b8 : Fld Z h8 b8 "com/example/curtaincall/curtaincall/core/Weight" "full" "I" (.int (0 : Int32)) := D8 (Or.inr (hw _ (List.mem_of_getElem? (i := 17) rfl))) (ty := .int) (by decide)
  have F8_warmupMs_b8 : Fld Z h8 b8 "com/example/curtaincall/curtaincall/core/Weight" "warmupMs" "J" (.long (0 : Int64)) := D8 (Or.inr (hw _ (List.mem_of_getElem? (i := 19) rfl))) (ty := .long) (by decide)
  obtain ⟨_, _, ⟨T9, L9, k9, n9⟩, -, X9, ⟨Lc9, hQ9, l9, y9, z9⟩, st9⟩ := X8.specialBack hx (y := (⟨"com/example/curtaincall/curtaincall/core/Weight", "<init>", "(IJ)V"⟩ : MethodName)) rfl hown (mvT hZ (hw _ (List.mem_of_getElem? (i := 5) rfl))) (mvT hZ (hw _ (List.mem_of_getElem? (i := 6) rfl))) (mvT hZ (hw _ (List.mem_of_getElem? (i := 7) rfl))) (by decide) (backOf (W := 1) (rm1 l Z a0 hw [] b8 n w _ _ h8 n0 z8_ A8 F8_full_b8 F8_warmupMs_b8 ga_b8 hnn hww) hZ (hw _ (List.mem_of_getElem? (i := 7) rfl)) (hw _ (List.mem_of_getElem? (i := 4) rfl)) (by decide) (by decide)) (g := (mkF m 106 #[.val (.int p1), .val (.long q2), .second, .val (.long q3), .second, .val (.long q4), .second, .val (.int p5), .val (.int n), .val (.long w), .second, .val (.long u), .second, .val (.long v), .second, .unset, .unset, .unset, .unset, .unset, .unset, .unset, .unset, .unset] [(.long w), (.int n), (.ref b8), (.ref b8)])) rfl (by rw [hml]; rfl) (Steps.refl _) (a := b8) (argsL := [(.int n), (.long w)]) (rest := [(.ref b8)]) (lenOf pd_2 rfl) rfl (by show 2 * 0 + _ ≤ _; exact Nat.le_of_eq rfl) (hb hby at_106) (fun _ _ => ⟨rfl, e8, (by decide : 1 + 0 ≤ _), (by decide : 2 + 0 ≤ _)⟩)
  dsimp only [Pt.U, Pt.locs, Pt.cells, Pt.slots] at X9 l9 y9 z9 st9 hQ9
  subst l9 y9 z9
  obtain ⟨rfl, N9q, K9, E9a, F9f, F9w⟩ := hQ9
  have N9 := Fr.app N0 N9q
  have K9_ : Keep h0 T9.heap [] := K8_.trans K9 (allS (Or.inr sz_b8) all0)
  have z9_ : n0 ≤ (T9.heap).size := Nat.le_trans z8_ K9.1
  have E9_b8 := A8.keep K9
  obtain ⟨cq10, kq10, q10a, q10b, q10c⟩ := isOf hZ rfl E9a
  obtain ⟨_, _, ⟨T10, L10, k10, n10⟩, -, X10, ⟨Lc10, hQ10, l10, y10, z10⟩, st10⟩ := X9.virtualBack hx (y := (⟨"com/example/curtaincall/curtaincall/core/Weight", "effectiveAt", "(J)I"⟩ : MethodName)) (z := (⟨"com/example/curtaincall/curtaincall/core/Weight", "effectiveAt", "(J)I"⟩ : MethodName)) hown (mvT hZ (hw _ (List.mem_of_getElem? (i := 20) rfl))) (mvT hZ (hw _ (List.mem_of_getElem? (i := 21) rfl))) (notFace_of_selects (args := #[]) (mvT hZ (hw _ (List.mem_of_getElem? (i := 23) rfl)))) (mvT hZ (hw _ (List.mem_of_getElem? (i := 23) rfl))) (mvT hZ (hw _ (List.mem_of_getElem? (i := 22) rfl))) (by decide) (backOf (W := 0) (rm4 l Z a0 hw [] b8 u n w T9.heap n0 z9_ F9f F9w hn0 hw0) hZ (hw _ (List.mem_of_getElem? (i := 24) rfl)) (hw _ (List.mem_of_getElem? (i := 4) rfl)) (by decide) (by decide)) q10a q10c (g := (mkF m 115 #[.val (.int p1), .val (.long q2), .second, .val (.long q3), .second, .val (.long q4), .second, .val (.int p5), .val (.int n), .val (.long w), .second, .val (.long u), .second, .val (.long v), .second, .val (.ref b8), .unset, .unset, .unset, .unset, .unset, .unset, .unset, .unset] [(.long u), (.ref b8)])) rfl (by rw [hml]; rfl) (Steps.refl _) (argsL := [(.long u)]) (rest := []) (lenOf pd_3 rfl) rfl (by show 2 * 0 + _ ≤ _; exact Nat.le_of_eq rfl) (hb hby at_115) (fun _ _ => ⟨rfl, rfl, (by decide : 1 + 0 ≤ _), (by decide : 2 + 0 ≤ _)⟩)
  dsimp only [Pt.U, Pt.locs, Pt.cells, Pt.slots] at X10 l10 y10 z10 st10 hQ10
  subst l10 y10 z10
  obtain ⟨rfl, N10q, e10⟩ := hQ10
  have N10 := Fr.app N9 N10q
  have pre11 : ∀ t, Steps p.tables e below (T10.setTop (mkF m 122 #[.val (.int p1), .val (.long q2), .second, .val (.long q3), .second, .val (.long q4), .second, .val (.int p5), .val (.int n), .val (.long w), .second, .val (.long u), .second, .val (.long v), .second, .val (.ref b8), .val (.int (Own.eff n w u)), .unset, .unset, .unset, .unset, .unset, .unset, .unset] [(.int n)])) t → Steps p.tables e below (s₁.setTop (entryFrame m #[(.int p1), (.long q2), (.long q3), (.long q4), (.int p5)] maxLocals)) t := fun t k => pre7 t (by
      show Steps p.tables e below (s₁.setTop (mkF m 98 #[.val (.int p1), .val (.long q2), .second, .val (.long q3), .second, .val (.long q4), .second, .val (.int p5), .val (.int n), .val (.long w), .second, .val (.long u), .second, .val (.long v), .second, .unset, .unset, .unset, .unset, .unset, .unset, .unset, .unset, .unset] [])) _
      refine st8 _ ?_
      show Steps p.tables e below (T8.setTop (mkF m 101 #[.val (.int p1), .val (.long q2), .second, .val (.long q3), .second, .val (.long q4), .second, .val (.int p5), .val (.int n), .val (.long w), .second, .val (.long u), .second, .val (.long v), .second, .unset, .unset, .unset, .unset, .unset, .unset, .unset, .unset, .unset] [(.ref b8)])) _
      refine XS.dup X8.here hx rfl (hb hby at_101) rfl rfl ?_
      show Steps p.tables e below (T8.setTop (mkF m 102 #[.val (.int p1), .val (.long q2), .second, .val (.long q3), .second, .val (.long q4), .second, .val (.int p5), .val (.int n), .val (.long w), .second, .val (.long u), .second, .val (.long v), .second, .unset, .unset, .unset, .unset, .unset, .unset, .unset, .unset, .unset] [(.ref b8), (.ref b8)])) _
      refine XS.iload X8.here hx rfl (hb hby at_102) rfl ?_
      show Steps p.tables e below (T8.setTop (mkF m 104 #[.val (.int p1), .val (.long q2), .second, .val (.long q3), .second, .val (.long q4), .second, .val (.int p5), .val (.int n), .val (.long w), .second, .val (.long u), .second, .val (.long v), .second, .unset, .unset, .unset, .unset, .unset, .unset, .unset, .unset, .unset] [(.int n), (.ref b8), (.ref b8)])) _
      refine XS.lload X8.here hx rfl (hb hby at_104) rfl ?_
      show Steps p.tables e below (T8.setTop (mkF m 106 #[.val (.int p1), .val (.long q2), .second, .val (.long q3), .second, .val (.long q4), .second, .val (.int p5), .val (.int n), .val (.long w), .second, .val (.long u), .second, .val (.long v), .second, .unset, .unset, .unset, .unset, .unset, .unset, .unset, .unset, .unset] [(.long w), (.int n), (.ref b8), (.ref b8)])) _
      refine st9.trans ?_
      show Steps p.tables e below (T9.setTop (mkF m 109 #[.val (.int p1), .val (.long q2), .second, .val (.long q3), .second, .val (.long q4), .second, .val (.int p5), .val (.int n), .val (.long w), .second, .val (.long u), .second, .val (.long v), .second, .unset, .unset, .unset, .unset, .unset, .unset, .unset, .unset, .unset] [(.ref b8)])) _
      refine XS.astore X9.here hx rfl (hb hby at_109) rfl rfl (l' := #[.val (.int p1), .val (.long q2), .second, .val (.long q3), .second, .val (.long q4), .second, .val (.int p5), .val (.int n), .val (.long w), .second, .val (.long u), .second, .val (.long v), .second, .val (.ref b8), .unset, .unset, .unset, .unset, .unset, .unset, .unset, .unset]) rfl ?_
      show Steps p.tables e below (T9.setTop (mkF m 111 #[.val (.int p1), .val (.long q2), .second, .val (.long q3), .second, .val (.long q4), .second, .val (.int p5), .val (.int n), .val (.long w), .second, .val (.long u), .second, .val (.long v), .second, .val (.ref b8), .unset, .unset, .unset, .unset, .unset, .unset, .unset, .unset] [])) _
      refine XS.aload X9.here hx rfl (hb hby at_111) rfl rfl ?_
      show Steps p.tables e below (T9.setTop (mkF m 113 #[.val (.int p1), .val (.long q2), .second, .val (.long q3), .second, .val (.long q4), .second, .val (.int p5), .val (.int n), .val (.long w), .second, .val (.long u), .second, .val (.long v), .second, .val (.ref b8), .unset, .unset, .unset, .unset, .unset, .unset, .unset, .unset] [(.ref b8)])) _
      refine XS.lload X9.here hx rfl (hb hby at_113) rfl ?_
      show Steps p.tables e below (T9.setTop (mkF m 115 #[.val (.int p1), .val (.long q2), .second, .val (.long q3), .second, .val (.long q4), .second, .val (.int p5), .val (.int n), .val (.long w), .second, .val (.long u), .second, .val (.long v), .second, .val (.ref b8), .unset, .unset, .unset, .unset, .unset, .unset, .unset, .unset] [(.long u), (.ref b8)])) _
      refine st10.trans ?_
      show Steps p.tables e below (T10.setTop (mkF m 118 #[.val (.int p1), .val (.long q2), .second, .val (.long q3), .second, .val (.long q4), .second, .val (.int p5), .val (.int n), .val (.long w), .second, .val (.long u), .second, .val (.long v), .second, .val (.ref b8), .unset, .unset, .unset, .unset, .unset, .unset, .unset, .unset] [(.int (Own.eff n w u))])) _
      refine XS.istore X10.here hx rfl (hb hby at_118) rfl (l' := #[.val (.int p1), .val (.long q2), .second, .val (.long q3), .second, .val (.long q4), .second, .val (.int p5), .val (.int n), .val (.long w), .second, .val (.long u), .second, .val (.long v), .second, .val (.ref b8), .val (.int (Own.eff n w u)), .unset, .unset, .unset, .unset, .unset, .unset, .unset]) rfl ?_
      show Steps p.tables e below (T10.setTop (mkF m 120 #[.val (.int p1), .val (.long q2), .second, .val (.long q3), .second, .val (.long q4), .second, .val (.int p5), .val (.int n), .val (.long w), .second, .val (.long u), .second, .val (.long v), .second, .val (.ref b8), .val (.int (Own.eff n w u)), .unset, .unset, .unset, .unset, .unset, .unset, .unset] [])) _
      refine XS.iload X10.here hx rfl (hb hby at_120) rfl ?_
      exact k)
  by_cases hc122_12 : n = (0 : Int32)
  · obtain ⟨_, _, ⟨T13, L13, k13, n13⟩, -, X13, ⟨Lc13, hQ13, l13, y13, z13⟩, st13⟩ := Jvm.LawKit.callS X10 hx (y := (⟨"java/lang/Math", "min", "(JJ)J"⟩ : MethodName)) hown (mvT hZ (hw _ (List.mem_of_getElem? (i := 25) rfl))) (mvT hZ (hw _ (List.mem_of_getElem? (i := 26) rfl))) (mvT hZ (hw _ (List.mem_of_getElem? (i := 27) rfl))) (mvT hZ (hw _ (List.mem_of_getElem? (i := 28) rfl))) (by decide) (backOf (W := 1) (rm5 l Z a0 hw [] u v T9.heap n0 z9_) hZ (hw _ (List.mem_of_getElem? (i := 28) rfl)) (hw _ (List.mem_of_getElem? (i := 27) rfl)) (by decide) (by decide)) (g := (mkF m 286 #[.val (.int p1), .val (.long q2), .second, .val (.long q3), .second, .val (.long q4), .second, .val (.int p5), .val (.int n), .val (.long w), .second, .val (.long u), .second, .val (.long v), .second, .val (.ref b8), .val (.int (Own.eff n w u)), .val (.int (1 : Int32)), .unset, .unset, .unset, .unset, .unset, .unset] [(.long v), (.long u), (.ref b8)])) rfl (by rw [hml]; rfl) (argsL := [(.long u), (.long v)]) (rest := [(.ref b8)]) (lenOf pd_1 rfl) rfl (by show 2 * 0 + _ ≤ _; exact Nat.le_of_eq rfl) (hb hby at_286) (fun _ _ => ⟨rfl, e10, (by decide : 1 + 0 ≤ _), (by decide : 2 + 0 ≤ _)⟩)
    dsimp only [Pt.U, Pt.locs, Pt.cells, Pt.slots] at X13 l13 y13 z13 st13 hQ13
    subst l13 y13 z13
    obtain ⟨rfl, N13q, e13⟩ := hQ13
    have N13 := Fr.app N10 N13q
    obtain ⟨cq14, kq14, q14a, q14b, q14c⟩ := isOf hZ e13 E9a
    obtain ⟨_, _, ⟨T14, L14, k14, n14⟩, -, X14, ⟨Lc14, hQ14, l14, y14, z14⟩, st14⟩ := X13.virtualBack hx (y := (⟨"com/example/curtaincall/curtaincall/core/Weight", "effectiveAt", "(J)I"⟩ : MethodName)) (z := (⟨"com/example/curtaincall/curtaincall/core/Weight", "effectiveAt", "(J)I"⟩ : MethodName)) hown (mvT hZ (hw _ (List.mem_of_getElem? (i := 20) rfl))) (mvT hZ (hw _ (List.mem_of_getElem? (i := 21) rfl))) (notFace_of_selects (args := #[]) (mvT hZ (hw _ (List.mem_of_getElem? (i := 23) rfl)))) (mvT hZ (hw _ (List.mem_of_getElem? (i := 23) rfl))) (mvT hZ (hw _ (List.mem_of_getElem? (i := 22) rfl))) (by decide) (backOf (W := 0) (rm4 l Z a0 hw [] b8 (Own.mnW u v) n w T9.heap n0 z9_ F9f F9w hn0 hw0) hZ (hw _ (List.mem_of_getElem? (i := 24) rfl)) (hw _ (List.mem_of_getElem? (i := 4) rfl)) (by decide) (by decide)) q14a q14c (g := (mkF m 289 #[.val (.int p1), .val (.long q2), .second, .val (.long q3), .second, .val (.long q4), .second, .val (.int p5), .val (.int n), .val (.long w), .second, .val (.long u), .second, .val (.long v), .second, .val (.ref b8), .val (.int (Own.eff n w u)), .val (.int (1 : Int32)), .unset, .unset, .unset, .unset, .unset, .unset] [(.long (Own.mnW u v)), (.ref b8)])) rfl (by rw [hml]; rfl) (Steps.refl _) (argsL := [(.long (Own.mnW u v))]) (rest := []) (lenOf pd_3 rfl) rfl (by show 2 * 0 + _ ≤ _; exact Nat.le_of_eq rfl) (hb hby at_289) (fun _ _ => ⟨rfl, e13, (by decide : 1 + 0 ≤ _), (by decide : 2 + 0 ≤ _)⟩)
    dsimp only [Pt.U, Pt.locs, Pt.cells, Pt.slots] at X14 l14 y14 z14 st14 hQ14
    subst l14 y14 z14
    obtain ⟨rfl, N14q, e14⟩ := hQ14
    have N14 := Fr.app N13 N14q
    obtain ⟨_, _, ⟨T15, L15, k15, n15⟩, -, X15, ⟨Lc15, hQ15, l15, y15, z15⟩, st15⟩ := Jvm.LawKit.callS X14 hx (y := (⟨"java/lang/Math", "max", "(JJ)J"⟩ : MethodName)) hown (mvT hZ (hw _ (List.mem_of_getElem? (i := 29) rfl))) (mvT hZ (hw _ (List.mem_of_getElem? (i := 30) rfl))) (mvT hZ (hw _ (List.mem_of_getElem? (i := 27) rfl))) (mvT hZ (hw _ (List.mem_of_getElem? (i := 31) rfl))) (by decide) (backOf (W := 1) (rm6 l Z a0 hw [] u v T9.heap n0 z9_) hZ (hw _ (List.mem_of_getElem? (i := 31) rfl)) (hw _ (List.mem_of_getElem? (i := 27) rfl)) (by decide) (by decide)) (g := (mkF m 300 #[.val (.int p1), .val (.long q2), .second, .val (.long q3), .second, .val (.long q4), .second, .val (.int p5), .val (.int n), .val (.long w), .second, .val (.long u), .second, .val (.long v), .second, .val (.ref b8), .val (.int (Own.eff n w u)), .val (.int (1 : Int32)), .val (.int (Own.eff n w (Own.mnW u v))), .unset, .unset, .unset, .unset, .unset] [(.long v), (.long u), (.ref b8)])) rfl (by rw [hml]; rfl) (argsL := [(.long u), (.long v)]) (rest := [(.ref b8)]) (lenOf pd_1 rfl) rfl (by show 2 * 0 + _ ≤ _; exact Nat.le_of_eq rfl) (hb hby at_300) (fun _ _ => ⟨rfl, e14, (by decide : 1 + 0 ≤ _), (by decide : 2 + 0 ≤ _)⟩)
    dsimp only [Pt.U, Pt.locs, Pt.cells, Pt.slots] at X15 l15 y15 z15 st15 hQ15
    subst l15 y15 z15
    obtain ⟨rfl, N15q, e15⟩ := hQ15
    have N15 := Fr.app N14 N15q
    obtain ⟨cq16, kq16, q16a, q16b, q16c⟩ := isOf hZ e15 E9a
    obtain ⟨_, _, ⟨T16, L16, k16, n16⟩, -, X16, ⟨Lc16, hQ16, l16, y16, z16⟩, st16⟩ := X15.virtualBack hx (y := (⟨"com/example/curtaincall/curtaincall/core/Weight", "effectiveAt", "(J)I"⟩ : MethodName)) (z := (⟨"com/example/curtaincall/curtaincall/core/Weight", "effectiveAt", "(J)I"⟩ : MethodName)) hown (mvT hZ (hw _ (List.mem_of_getElem? (i := 20) rfl))) (mvT hZ (hw _ (List.mem_of_getElem? (i := 21) rfl))) (notFace_of_selects (args := #[]) (mvT hZ (hw _ (List.mem_of_getElem? (i := 23) rfl)))) (mvT hZ (hw _ (List.mem_of_getElem? (i := 23) rfl))) (mvT hZ (hw _ (List.mem_of_getElem? (i := 22) rfl))) (by decide) (backOf (W := 0) (rm4 l Z a0 hw [] b8 (Own.mxW u v) n w T9.heap n0 z9_ F9f F9w hn0 hw0) hZ (hw _ (List.mem_of_getElem? (i := 24) rfl)) (hw _ (List.mem_of_getElem? (i := 4) rfl)) (by decide) (by decide)) q16a q16c (g := (mkF m 303 #[.val (.int p1), .val (.long q2), .second, .val (.long q3), .second, .val (.long q4), .second, .val (.int p5), .val (.int n), .val (.long w), .second, .val (.long u), .second, .val (.long v), .second, .val (.ref b8), .val (.int (Own.eff n w u)), .val (.int (1 : Int32)), .val (.int (Own.eff n w (Own.mnW u v))), .unset, .unset, .unset, .unset, .unset] [(.long (Own.mxW u v)), (.ref b8)])) rfl (by rw [hml]; rfl) (Steps.refl _) (argsL := [(.long (Own.mxW u v))]) (rest := []) (lenOf pd_3 rfl) rfl (by show 2 * 0 + _ ≤ _; exact Nat.le_of_eq rfl) (hb hby at_303) (fun _ _ => ⟨rfl, e15, (by decide : 1 + 0 ≤ _), (by decide : 2 + 0 ≤ _)⟩)
    dsimp only [Pt.U, Pt.locs, Pt.cells, Pt.slots] at X16 l16 y16 z16 st16 hQ16
    subst l16 y16 z16
    obtain ⟨rfl, N16q, e16⟩ := hQ16
    have N16 := Fr.app N15 N16q
    obtain ⟨fs, hr, hrun, hended, hW, hsame⟩ := X16.leave (v := some (.int (1 : Int32))) (fun h => by rw [Bd.returns] at h; cases h)
    refine ⟨_, _, pre11 _ ?_, hrun, hended, _, _, rfl, ?_, ⟨_, rfl⟩, hW, hsame.mono (by decide) (by decide)⟩
    · show Steps p.tables e below (T10.setTop (mkF m 122 #[.val (.int p1), .val (.long q2), .second, .val (.long q3), .second, .val (.long q4), .second, .val (.int p5), .val (.int n), .val (.long w), .second, .val (.long u), .second, .val (.long v), .second, .val (.ref b8), .val (.int (Own.eff n w u)), .unset, .unset, .unset, .unset, .unset, .unset, .unset] [(.int n)])) _
      refine XS.ifNo X10.here hx rfl (hb hby at_122) rfl ((if0 _ _).trans (teq hc122_12).2) ?_
      show Steps p.tables e below (T10.setTop (mkF m 125 #[.val (.int p1), .val (.long q2), .second, .val (.long q3), .second, .val (.long q4), .second, .val (.int p5), .val (.int n), .val (.long w), .second, .val (.long u), .second, .val (.long v), .second, .val (.ref b8), .val (.int (Own.eff n w u)), .unset, .unset, .unset, .unset, .unset, .unset, .unset] [])) _
      refine XS.iload X10.here hx rfl (hb hby at_125) rfl ?_
      show Steps p.tables e below (T10.setTop (mkF m 127 #[.val (.int p1), .val (.long q2), .second, .val (.long q3), .second, .val (.long q4), .second, .val (.int p5), .val (.int n), .val (.long w), .second, .val (.long u), .second, .val (.long v), .second, .val (.ref b8), .val (.int (Own.eff n w u)), .unset, .unset, .unset, .unset, .unset, .unset, .unset] [(.int (Own.eff n w u))])) _
      refine XS.ifNo X10.here hx rfl (hb hby at_127) rfl ((if0 _ _).trans (teq (show (Own.eff n w u) = (0 : Int32) from by rw [hc122_12]; exact Own.eff0 _ _)).2) ?_
      show Steps p.tables e below (T10.setTop (mkF m 130 #[.val (.int p1), .val (.long q2), .second, .val (.long q3), .second, .val (.long q4), .second, .val (.int p5), .val (.int n), .val (.long w), .second, .val (.long u), .second, .val (.long v), .second, .val (.ref b8), .val (.int (Own.eff n w u)), .unset, .unset, .unset, .unset, .unset, .unset, .unset] [])) _
      refine XS.iconst X10.here hx rfl (hb hby at_130) ?_
      show Steps p.tables e below (T10.setTop (mkF m 131 #[.val (.int p1), .val (.long q2), .second, .val (.long q3), .second, .val (.long q4), .second, .val (.int p5), .val (.int n), .val (.long w), .second, .val (.long u), .second, .val (.long v), .second, .val (.ref b8), .val (.int (Own.eff n w u)), .unset, .unset, .unset, .unset, .unset, .unset, .unset] [(.int (1 : Int32))])) _
      refine XS.goto X10.here hx rfl (pc0 := 131) (pc' := 135) rfl (hb hby at_131) (by decide) (by decide) ?_
      show Steps p.tables e below (T10.setTop (mkF m 135 #[.val (.int p1), .val (.long q2), .second, .val (.long q3), .second, .val (.long q4), .second, .val (.int p5), .val (.int n), .val (.long w), .second, .val (.long u), .second, .val (.long v), .second, .val (.ref b8), .val (.int (Own.eff n w u)), .unset, .unset, .unset, .unset, .unset, .unset, .unset] [(.int (1 : Int32))])) _
      refine XS.istore X10.here hx rfl (hb hby at_135) rfl (l' := #[.val (.int p1), .val (.long q2), .second, .val (.long q3), .second, .val (.long q4), .second, .val (.int p5), .val (.int n), .val (.long w), .second, .val (.long u), .second, .val (.long v), .second, .val (.ref b8), .val (.int (Own.eff n w u)), .val (.int (1 : Int32)), .unset, .unset, .unset, .unset, .unset, .unset]) rfl ?_
      show Steps p.tables e below (T10.setTop (mkF m 137 #[.val (.int p1), .val (.long q2), .second, .val (.long q3), .second, .val (.long q4), .second, .val (.int p5), .val (.int n), .val (.long w), .second, .val (.long u), .second, .val (.long v), .second, .val (.ref b8), .val (.int (Own.eff n w u)), .val (.int (1 : Int32)), .unset, .unset, .unset, .unset, .unset, .unset] [])) _
      refine XS.goto X10.here hx rfl (pc0 := 137) (pc' := 280) rfl (hb hby at_137) (by decide) (by decide) ?_
      show Steps p.tables e below (T10.setTop (mkF m 280 #[.val (.int p1), .val (.long q2), .second, .val (.long q3), .second, .val (.long q4), .second, .val (.int p5), .val (.int n), .val (.long w), .second, .val (.long u), .second, .val (.long v), .second, .val (.ref b8), .val (.int (Own.eff n w u)), .val (.int (1 : Int32)), .unset, .unset, .unset, .unset, .unset, .unset] [])) _
      refine XS.aload X10.here hx rfl (hb hby at_280) rfl rfl ?_
      show Steps p.tables e below (T10.setTop (mkF m 282 #[.val (.int p1), .val (.long q2), .second, .val (.long q3), .second, .val (.long q4), .second, .val (.int p5), .val (.int n), .val (.long w), .second, .val (.long u), .second, .val (.long v), .second, .val (.ref b8), .val (.int (Own.eff n w u)), .val (.int (1 : Int32)), .unset, .unset, .unset, .unset, .unset, .unset] [(.ref b8)])) _
      refine XS.lload X10.here hx rfl (hb hby at_282) rfl ?_
      show Steps p.tables e below (T10.setTop (mkF m 284 #[.val (.int p1), .val (.long q2), .second, .val (.long q3), .second, .val (.long q4), .second, .val (.int p5), .val (.int n), .val (.long w), .second, .val (.long u), .second, .val (.long v), .second, .val (.ref b8), .val (.int (Own.eff n w u)), .val (.int (1 : Int32)), .unset, .unset, .unset, .unset, .unset, .unset] [(.long u), (.ref b8)])) _
      refine XS.lload X10.here hx rfl (hb hby at_284) rfl ?_
      show Steps p.tables e below (T10.setTop (mkF m 286 #[.val (.int p1), .val (.long q2), .second, .val (.long q3), .second, .val (.long q4), .second, .val (.int p5), .val (.int n), .val (.long w), .second, .val (.long u), .second, .val (.long v), .second, .val (.ref b8), .val (.int (Own.eff n w u)), .val (.int (1 : Int32)), .unset, .unset, .unset, .unset, .unset, .unset] [(.long v), (.long u), (.ref b8)])) _
      refine st13 _ ?_
      show Steps p.tables e below (T13.setTop (mkF m 289 #[.val (.int p1), .val (.long q2), .second, .val (.long q3), .second, .val (.long q4), .second, .val (.int p5), .val (.int n), .val (.long w), .second, .val (.long u), .second, .val (.long v), .second, .val (.ref b8), .val (.int (Own.eff n w u)), .val (.int (1 : Int32)), .unset, .unset, .unset, .unset, .unset, .unset] [(.long (Own.mnW u v)), (.ref b8)])) _
      refine st14.trans ?_
      show Steps p.tables e below (T14.setTop (mkF m 292 #[.val (.int p1), .val (.long q2), .second, .val (.long q3), .second, .val (.long q4), .second, .val (.int p5), .val (.int n), .val (.long w), .second, .val (.long u), .second, .val (.long v), .second, .val (.ref b8), .val (.int (Own.eff n w u)), .val (.int (1 : Int32)), .unset, .unset, .unset, .unset, .unset, .unset] [(.int (Own.eff n w (Own.mnW u v)))])) _
      refine XS.istore X14.here hx rfl (hb hby at_292) rfl (l' := #[.val (.int p1), .val (.long q2), .second, .val (.long q3), .second, .val (.long q4), .second, .val (.int p5), .val (.int n), .val (.long w), .second, .val (.long u), .second, .val (.long v), .second, .val (.ref b8), .val (.int (Own.eff n w u)), .val (.int (1 : Int32)), .val (.int (Own.eff n w (Own.mnW u v))), .unset, .unset, .unset, .unset, .unset]) rfl ?_
      show Steps p.tables e below (T14.setTop (mkF m 294 #[.val (.int p1), .val (.long q2), .second, .val (.long q3), .second, .val (.long q4), .second, .val (.int p5), .val (.int n), .val (.long w), .second, .val (.long u), .second, .val (.long v), .second, .val (.ref b8), .val (.int (Own.eff n w u)), .val (.int (1 : Int32)), .val (.int (Own.eff n w (Own.mnW u v))), .unset, .unset, .unset, .unset, .unset] [])) _
      refine XS.aload X14.here hx rfl (hb hby at_294) rfl rfl ?_
      show Steps p.tables e below (T14.setTop (mkF m 296 #[.val (.int p1), .val (.long q2), .second, .val (.long q3), .second, .val (.long q4), .second, .val (.int p5), .val (.int n), .val (.long w), .second, .val (.long u), .second, .val (.long v), .second, .val (.ref b8), .val (.int (Own.eff n w u)), .val (.int (1 : Int32)), .val (.int (Own.eff n w (Own.mnW u v))), .unset, .unset, .unset, .unset, .unset] [(.ref b8)])) _
      refine XS.lload X14.here hx rfl (hb hby at_296) rfl ?_
      show Steps p.tables e below (T14.setTop (mkF m 298 #[.val (.int p1), .val (.long q2), .second, .val (.long q3), .second, .val (.long q4), .second, .val (.int p5), .val (.int n), .val (.long w), .second, .val (.long u), .second, .val (.long v), .second, .val (.ref b8), .val (.int (Own.eff n w u)), .val (.int (1 : Int32)), .val (.int (Own.eff n w (Own.mnW u v))), .unset, .unset, .unset, .unset, .unset] [(.long u), (.ref b8)])) _
      refine XS.lload X14.here hx rfl (hb hby at_298) rfl ?_
      show Steps p.tables e below (T14.setTop (mkF m 300 #[.val (.int p1), .val (.long q2), .second, .val (.long q3), .second, .val (.long q4), .second, .val (.int p5), .val (.int n), .val (.long w), .second, .val (.long u), .second, .val (.long v), .second, .val (.ref b8), .val (.int (Own.eff n w u)), .val (.int (1 : Int32)), .val (.int (Own.eff n w (Own.mnW u v))), .unset, .unset, .unset, .unset, .unset] [(.long v), (.long u), (.ref b8)])) _
      refine st15 _ ?_
      show Steps p.tables e below (T15.setTop (mkF m 303 #[.val (.int p1), .val (.long q2), .second, .val (.long q3), .second, .val (.long q4), .second, .val (.int p5), .val (.int n), .val (.long w), .second, .val (.long u), .second, .val (.long v), .second, .val (.ref b8), .val (.int (Own.eff n w u)), .val (.int (1 : Int32)), .val (.int (Own.eff n w (Own.mnW u v))), .unset, .unset, .unset, .unset, .unset] [(.long (Own.mxW u v)), (.ref b8)])) _
      refine st16.trans ?_
      show Steps p.tables e below (T16.setTop (mkF m 306 #[.val (.int p1), .val (.long q2), .second, .val (.long q3), .second, .val (.long q4), .second, .val (.int p5), .val (.int n), .val (.long w), .second, .val (.long u), .second, .val (.long v), .second, .val (.ref b8), .val (.int (Own.eff n w u)), .val (.int (1 : Int32)), .val (.int (Own.eff n w (Own.mnW u v))), .unset, .unset, .unset, .unset, .unset] [(.int (Own.eff n w (Own.mxW u v)))])) _
      refine XS.istore X16.here hx rfl (hb hby at_306) rfl (l' := #[.val (.int p1), .val (.long q2), .second, .val (.long q3), .second, .val (.long q4), .second, .val (.int p5), .val (.int n), .val (.long w), .second, .val (.long u), .second, .val (.long v), .second, .val (.ref b8), .val (.int (Own.eff n w u)), .val (.int (1 : Int32)), .val (.int (Own.eff n w (Own.mnW u v))), .val (.int (Own.eff n w (Own.mxW u v))), .unset, .unset, .unset, .unset]) rfl ?_
      show Steps p.tables e below (T16.setTop (mkF m 308 #[.val (.int p1), .val (.long q2), .second, .val (.long q3), .second, .val (.long q4), .second, .val (.int p5), .val (.int n), .val (.long w), .second, .val (.long u), .second, .val (.long v), .second, .val (.ref b8), .val (.int (Own.eff n w u)), .val (.int (1 : Int32)), .val (.int (Own.eff n w (Own.mnW u v))), .val (.int (Own.eff n w (Own.mxW u v))), .unset, .unset, .unset, .unset] [])) _
      refine XS.iload X16.here hx rfl (hb hby at_308) rfl ?_
      show Steps p.tables e below (T16.setTop (mkF m 310 #[.val (.int p1), .val (.long q2), .second, .val (.long q3), .second, .val (.long q4), .second, .val (.int p5), .val (.int n), .val (.long w), .second, .val (.long u), .second, .val (.long v), .second, .val (.ref b8), .val (.int (Own.eff n w u)), .val (.int (1 : Int32)), .val (.int (Own.eff n w (Own.mnW u v))), .val (.int (Own.eff n w (Own.mxW u v))), .unset, .unset, .unset, .unset] [(.int (1 : Int32))])) _
      refine XS.ifNo X16.here hx rfl (hb hby at_310) rfl ((if0 _ _).trans (feq (by decide : ¬ ((1 : Int32) = (0 : Int32)))).1) ?_
      show Steps p.tables e below (T16.setTop (mkF m 313 #[.val (.int p1), .val (.long q2), .second, .val (.long q3), .second, .val (.long q4), .second, .val (.int p5), .val (.int n), .val (.long w), .second, .val (.long u), .second, .val (.long v), .second, .val (.ref b8), .val (.int (Own.eff n w u)), .val (.int (1 : Int32)), .val (.int (Own.eff n w (Own.mnW u v))), .val (.int (Own.eff n w (Own.mxW u v))), .unset, .unset, .unset, .unset] [])) _
      refine XS.iload X16.here hx rfl (hb hby at_313) rfl ?_
      show Steps p.tables e below (T16.setTop (mkF m 315 #[.val (.int p1), .val (.long q2), .second, .val (.long q3), .second, .val (.long q4), .second, .val (.int p5), .val (.int n), .val (.long w), .second, .val (.long u), .second, .val (.long v), .second, .val (.ref b8), .val (.int (Own.eff n w u)), .val (.int (1 : Int32)), .val (.int (Own.eff n w (Own.mnW u v))), .val (.int (Own.eff n w (Own.mxW u v))), .unset, .unset, .unset, .unset] [(.int (Own.eff n w (Own.mnW u v)))])) _
      refine XS.iload X16.here hx rfl (hb hby at_315) rfl ?_
      show Steps p.tables e below (T16.setTop (mkF m 317 #[.val (.int p1), .val (.long q2), .second, .val (.long q3), .second, .val (.long q4), .second, .val (.int p5), .val (.int n), .val (.long w), .second, .val (.long u), .second, .val (.long v), .second, .val (.ref b8), .val (.int (Own.eff n w u)), .val (.int (1 : Int32)), .val (.int (Own.eff n w (Own.mnW u v))), .val (.int (Own.eff n w (Own.mxW u v))), .unset, .unset, .unset, .unset] [(.int (Own.eff n w (Own.mxW u v))), (.int (Own.eff n w (Own.mnW u v)))])) _
      refine XS.icmpNo X16.here hx rfl (hb hby at_317) rfl (flt (show ¬ ((Own.eff n w (Own.mxW u v)) < (Own.eff n w (Own.mnW u v))) from Own.eff_mm hn0)).2.2.1 ?_
      show Steps p.tables e below (T16.setTop (mkF m 320 #[.val (.int p1), .val (.long q2), .second, .val (.long q3), .second, .val (.long q4), .second, .val (.int p5), .val (.int n), .val (.long w), .second, .val (.long u), .second, .val (.long v), .second, .val (.ref b8), .val (.int (Own.eff n w u)), .val (.int (1 : Int32)), .val (.int (Own.eff n w (Own.mnW u v))), .val (.int (Own.eff n w (Own.mxW u v))), .unset, .unset, .unset, .unset] [])) _
      refine XS.iconst X16.here hx rfl (hb hby at_320) ?_
      show Steps p.tables e below (T16.setTop (mkF m 321 #[.val (.int p1), .val (.long q2), .second, .val (.long q3), .second, .val (.long q4), .second, .val (.int p5), .val (.int n), .val (.long w), .second, .val (.long u), .second, .val (.long v), .second, .val (.ref b8), .val (.int (Own.eff n w u)), .val (.int (1 : Int32)), .val (.int (Own.eff n w (Own.mnW u v))), .val (.int (Own.eff n w (Own.mxW u v))), .unset, .unset, .unset, .unset] [(.int (1 : Int32))])) _
      refine XS.goto X16.here hx rfl (pc0 := 321) (pc' := 325) rfl (hb hby at_321) (by decide) (by decide) ?_
      show Steps p.tables e below (T16.setTop (mkF m 325 #[.val (.int p1), .val (.long q2), .second, .val (.long q3), .second, .val (.long q4), .second, .val (.int p5), .val (.int n), .val (.long w), .second, .val (.long u), .second, .val (.long v), .second, .val (.ref b8), .val (.int (Own.eff n w u)), .val (.int (1 : Int32)), .val (.int (Own.eff n w (Own.mnW u v))), .val (.int (Own.eff n w (Own.mxW u v))), .unset, .unset, .unset, .unset] [(.int (1 : Int32))])) _
      exact retN X16 hx (t := .boolean) Bd.returns (by simp) (hb hby at_325) hr
    · show Q_rm0 Z p1 q2 q3 q4 p5 h0 n0 _ T16.heap _
      exact ⟨rfl, N16⟩
  · have pre17 : ∀ t, Steps p.tables e below (T10.setTop (mkF m 140 #[.val (.int p1), .val (.long q2), .second, .val (.long q3), .second, .val (.long q4), .second, .val (.int p5), .val (.int n), .val (.long w), .second, .val (.long u), .second, .val (.long v), .second, .val (.ref b8), .val (.int (Own.eff n w u)), .unset, .unset, .unset, .unset, .unset, .unset, .unset] [])) t → Steps p.tables e below (s₁.setTop (entryFrame m #[(.int p1), (.long q2), (.long q3), (.long q4), (.int p5)] maxLocals)) t := fun t k => pre11 t (by
        show Steps p.tables e below (T10.setTop (mkF m 122 #[.val (.int p1), .val (.long q2), .second, .val (.long q3), .second, .val (.long q4), .second, .val (.int p5), .val (.int n), .val (.long w), .second, .val (.long u), .second, .val (.long v), .second, .val (.ref b8), .val (.int (Own.eff n w u)), .unset, .unset, .unset, .unset, .unset, .unset, .unset] [(.int n)])) _
        refine XS.ifYes X10.here hx rfl (pc0 := 122) (pc' := 140) rfl (hb hby at_122) rfl ((if0 _ _).trans (feq hc122_12).2) (by decide) (by decide) ?_
        exact k)
    have hn1 := Own.one_le hn0 hc122_12
    have pre18 : ∀ t, Steps p.tables e below (T10.setTop (mkF m 144 #[.val (.int p1), .val (.long q2), .second, .val (.long q3), .second, .val (.long q4), .second, .val (.int p5), .val (.int n), .val (.long w), .second, .val (.long u), .second, .val (.long v), .second, .val (.ref b8), .val (.int (Own.eff n w u)), .unset, .unset, .unset, .unset, .unset, .unset, .unset] [(.int (lcmpW u (0 : Int64)))])) t → Steps p.tables e below (s₁.setTop (entryFrame m #[(.int p1), (.long q2), (.long q3), (.long q4), (.int p5)] maxLocals)) t := fun t k => pre17 t (by
        show Steps p.tables e below (T10.setTop (mkF m 140 #[.val (.int p1), .val (.long q2), .second, .val (.long q3), .second, .val (.long q4), .second, .val (.int p5), .val (.int n), .val (.long w), .second, .val (.long u), .second, .val (.long v), .second, .val (.ref b8), .val (.int (Own.eff n w u)), .unset, .unset, .unset, .unset, .unset, .unset, .unset] [])) _
        refine XS.lload X10.here hx rfl (hb hby at_140) rfl ?_
        show Steps p.tables e below (T10.setTop (mkF m 142 #[.val (.int p1), .val (.long q2), .second, .val (.long q3), .second, .val (.long q4), .second, .val (.int p5), .val (.int n), .val (.long w), .second, .val (.long u), .second, .val (.long v), .second, .val (.ref b8), .val (.int (Own.eff n w u)), .unset, .unset, .unset, .unset, .unset, .unset, .unset] [(.long u)])) _
        refine XS.lconst X10.here hx rfl (hb hby at_142) ?_
        show Steps p.tables e below (T10.setTop (mkF m 143 #[.val (.int p1), .val (.long q2), .second, .val (.long q3), .second, .val (.long q4), .second, .val (.int p5), .val (.int n), .val (.long w), .second, .val (.long u), .second, .val (.long v), .second, .val (.ref b8), .val (.int (Own.eff n w u)), .unset, .unset, .unset, .unset, .unset, .unset, .unset] [(.long (0 : Int64)), (.long u)])) _
        refine XS.lcmp X10.here hx rfl (hb hby at_143) rfl ?_
        exact k)
    by_cases hc144_19 : (lcmpW u (0 : Int64)) < (0 : Int32)
    · have pre20 : ∀ t, Steps p.tables e below (T10.setTop (mkF m 147 #[.val (.int p1), .val (.long q2), .second, .val (.long q3), .second, .val (.long q4), .second, .val (.int p5), .val (.int n), .val (.long w), .second, .val (.long u), .second, .val (.long v), .second, .val (.ref b8), .val (.int (Own.eff n w u)), .unset, .unset, .unset, .unset, .unset, .unset, .unset] [])) t → Steps p.tables e below (s₁.setTop (entryFrame m #[(.int p1), (.long q2), (.long q3), (.long q4), (.int p5)] maxLocals)) t := fun t k => pre18 t (by
          show Steps p.tables e below (T10.setTop (mkF m 144 #[.val (.int p1), .val (.long q2), .second, .val (.long q3), .second, .val (.long q4), .second, .val (.int p5), .val (.int n), .val (.long w), .second, .val (.long u), .second, .val (.long v), .second, .val (.ref b8), .val (.int (Own.eff n w u)), .unset, .unset, .unset, .unset, .unset, .unset, .unset] [(.int (lcmpW u (0 : Int64)))])) _
          refine XS.ifNo X10.here hx rfl (hb hby at_144) rfl ((if0 _ _).trans (tlt hc144_19).2.1) ?_
          exact k)
      have hun : u.toInt < 0 := by have q := Own.in_lt hc144_19; rw [Own.l0] at q; exact q
      obtain ⟨_, _, ⟨T21, L21, k21, n21⟩, -, X21, ⟨Lc21, hQ21, l21, y21, z21⟩, st21⟩ := Jvm.LawKit.callS X10 hx (y := (⟨"java/lang/Math", "min", "(JJ)J"⟩ : MethodName)) hown (mvT hZ (hw _ (List.mem_of_getElem? (i := 25) rfl))) (mvT hZ (hw _ (List.mem_of_getElem? (i := 26) rfl))) (mvT hZ (hw _ (List.mem_of_getElem? (i := 27) rfl))) (mvT hZ (hw _ (List.mem_of_getElem? (i := 28) rfl))) (by decide) (backOf (W := 1) (rm5 l Z a0 hw [] u v T9.heap n0 z9_) hZ (hw _ (List.mem_of_getElem? (i := 28) rfl)) (hw _ (List.mem_of_getElem? (i := 27) rfl)) (by decide) (by decide)) (g := (mkF m 286 #[.val (.int p1), .val (.long q2), .second, .val (.long q3), .second, .val (.long q4), .second, .val (.int p5), .val (.int n), .val (.long w), .second, .val (.long u), .second, .val (.long v), .second, .val (.ref b8), .val (.int (Own.eff n w u)), .val (.int (1 : Int32)), .unset, .unset, .unset, .unset, .unset, .unset] [(.long v), (.long u), (.ref b8)])) rfl (by rw [hml]; rfl) (argsL := [(.long u), (.long v)]) (rest := [(.ref b8)]) (lenOf pd_1 rfl) rfl (by show 2 * 0 + _ ≤ _; exact Nat.le_of_eq rfl) (hb hby at_286) (fun _ _ => ⟨rfl, e10, (by decide : 1 + 0 ≤ _), (by decide : 2 + 0 ≤ _)⟩)
      dsimp only [Pt.U, Pt.locs, Pt.cells, Pt.slots] at X21 l21 y21 z21 st21 hQ21
      subst l21 y21 z21
      obtain ⟨rfl, N21q, e21⟩ := hQ21
      have N21 := Fr.app N10 N21q
      obtain ⟨cq22, kq22, q22a, q22b, q22c⟩ := isOf hZ e21 E9a
      obtain ⟨_, _, ⟨T22, L22, k22, n22⟩, -, X22, ⟨Lc22, hQ22, l22, y22, z22⟩, st22⟩ := X21.virtualBack hx (y := (⟨"com/example/curtaincall/curtaincall/core/Weight", "effectiveAt", "(J)I"⟩ : MethodName)) (z := (⟨"com/example/curtaincall/curtaincall/core/Weight", "effectiveAt", "(J)I"⟩ : MethodName)) hown (mvT hZ (hw _ (List.mem_of_getElem? (i := 20) rfl))) (mvT hZ (hw _ (List.mem_of_getElem? (i := 21) rfl))) (notFace_of_selects (args := #[]) (mvT hZ (hw _ (List.mem_of_getElem? (i := 23) rfl)))) (mvT hZ (hw _ (List.mem_of_getElem? (i := 23) rfl))) (mvT hZ (hw _ (List.mem_of_getElem? (i := 22) rfl))) (by decide) (backOf (W := 0) (rm4 l Z a0 hw [] b8 (Own.mnW u v) n w T9.heap n0 z9_ F9f F9w hn0 hw0) hZ (hw _ (List.mem_of_getElem? (i := 24) rfl)) (hw _ (List.mem_of_getElem? (i := 4) rfl)) (by decide) (by decide)) q22a q22c (g := (mkF m 289 #[.val (.int p1), .val (.long q2), .second, .val (.long q3), .second, .val (.long q4), .second, .val (.int p5), .val (.int n), .val (.long w), .second, .val (.long u), .second, .val (.long v), .second, .val (.ref b8), .val (.int (Own.eff n w u)), .val (.int (1 : Int32)), .unset, .unset, .unset, .unset, .unset, .unset] [(.long (Own.mnW u v)), (.ref b8)])) rfl (by rw [hml]; rfl) (Steps.refl _) (argsL := [(.long (Own.mnW u v))]) (rest := []) (lenOf pd_3 rfl) rfl (by show 2 * 0 + _ ≤ _; exact Nat.le_of_eq rfl) (hb hby at_289) (fun _ _ => ⟨rfl, e21, (by decide : 1 + 0 ≤ _), (by decide : 2 + 0 ≤ _)⟩)
      dsimp only [Pt.U, Pt.locs, Pt.cells, Pt.slots] at X22 l22 y22 z22 st22 hQ22
      subst l22 y22 z22
      obtain ⟨rfl, N22q, e22⟩ := hQ22
      have N22 := Fr.app N21 N22q
      obtain ⟨_, _, ⟨T23, L23, k23, n23⟩, -, X23, ⟨Lc23, hQ23, l23, y23, z23⟩, st23⟩ := Jvm.LawKit.callS X22 hx (y := (⟨"java/lang/Math", "max", "(JJ)J"⟩ : MethodName)) hown (mvT hZ (hw _ (List.mem_of_getElem? (i := 29) rfl))) (mvT hZ (hw _ (List.mem_of_getElem? (i := 30) rfl))) (mvT hZ (hw _ (List.mem_of_getElem? (i := 27) rfl))) (mvT hZ (hw _ (List.mem_of_getElem? (i := 31) rfl))) (by decide) (backOf (W := 1) (rm6 l Z a0 hw [] u v T9.heap n0 z9_) hZ (hw _ (List.mem_of_getElem? (i := 31) rfl)) (hw _ (List.mem_of_getElem? (i := 27) rfl)) (by decide) (by decide)) (g := (mkF m 300 #[.val (.int p1), .val (.long q2), .second, .val (.long q3), .second, .val (.long q4), .second, .val (.int p5), .val (.int n), .val (.long w), .second, .val (.long u), .second, .val (.long v), .second, .val (.ref b8), .val (.int (Own.eff n w u)), .val (.int (1 : Int32)), .val (.int (Own.eff n w (Own.mnW u v))), .unset, .unset, .unset, .unset, .unset] [(.long v), (.long u), (.ref b8)])) rfl (by rw [hml]; rfl) (argsL := [(.long u), (.long v)]) (rest := [(.ref b8)]) (lenOf pd_1 rfl) rfl (by show 2 * 0 + _ ≤ _; exact Nat.le_of_eq rfl) (hb hby at_300) (fun _ _ => ⟨rfl, e22, (by decide : 1 + 0 ≤ _), (by decide : 2 + 0 ≤ _)⟩)
      dsimp only [Pt.U, Pt.locs, Pt.cells, Pt.slots] at X23 l23 y23 z23 st23 hQ23
      subst l23 y23 z23
      obtain ⟨rfl, N23q, e23⟩ := hQ23
      have N23 := Fr.app N22 N23q
      obtain ⟨cq24, kq24, q24a, q24b, q24c⟩ := isOf hZ e23 E9a
      obtain ⟨_, _, ⟨T24, L24, k24, n24⟩, -, X24, ⟨Lc24, hQ24, l24, y24, z24⟩, st24⟩ := X23.virtualBack hx (y := (⟨"com/example/curtaincall/curtaincall/core/Weight", "effectiveAt", "(J)I"⟩ : MethodName)) (z := (⟨"com/example/curtaincall/curtaincall/core/Weight", "effectiveAt", "(J)I"⟩ : MethodName)) hown (mvT hZ (hw _ (List.mem_of_getElem? (i := 20) rfl))) (mvT hZ (hw _ (List.mem_of_getElem? (i := 21) rfl))) (notFace_of_selects (args := #[]) (mvT hZ (hw _ (List.mem_of_getElem? (i := 23) rfl)))) (mvT hZ (hw _ (List.mem_of_getElem? (i := 23) rfl))) (mvT hZ (hw _ (List.mem_of_getElem? (i := 22) rfl))) (by decide) (backOf (W := 0) (rm4 l Z a0 hw [] b8 (Own.mxW u v) n w T9.heap n0 z9_ F9f F9w hn0 hw0) hZ (hw _ (List.mem_of_getElem? (i := 24) rfl)) (hw _ (List.mem_of_getElem? (i := 4) rfl)) (by decide) (by decide)) q24a q24c (g := (mkF m 303 #[.val (.int p1), .val (.long q2), .second, .val (.long q3), .second, .val (.long q4), .second, .val (.int p5), .val (.int n), .val (.long w), .second, .val (.long u), .second, .val (.long v), .second, .val (.ref b8), .val (.int (Own.eff n w u)), .val (.int (1 : Int32)), .val (.int (Own.eff n w (Own.mnW u v))), .unset, .unset, .unset, .unset, .unset] [(.long (Own.mxW u v)), (.ref b8)])) rfl (by rw [hml]; rfl) (Steps.refl _) (argsL := [(.long (Own.mxW u v))]) (rest := []) (lenOf pd_3 rfl) rfl (by show 2 * 0 + _ ≤ _; exact Nat.le_of_eq rfl) (hb hby at_303) (fun _ _ => ⟨rfl, e23, (by decide : 1 + 0 ≤ _), (by decide : 2 + 0 ≤ _)⟩)
      dsimp only [Pt.U, Pt.locs, Pt.cells, Pt.slots] at X24 l24 y24 z24 st24 hQ24
      subst l24 y24 z24
      obtain ⟨rfl, N24q, e24⟩ := hQ24
      have N24 := Fr.app N23 N24q
      obtain ⟨fs, hr, hrun, hended, hW, hsame⟩ := X24.leave (v := some (.int (1 : Int32))) (fun h => by rw [Bd.returns] at h; cases h)
      refine ⟨_, _, pre20 _ ?_, hrun, hended, _, _, rfl, ?_, ⟨_, rfl⟩, hW, hsame.mono (by decide) (by decide)⟩
      · show Steps p.tables e below (T10.setTop (mkF m 147 #[.val (.int p1), .val (.long q2), .second, .val (.long q3), .second, .val (.long q4), .second, .val (.int p5), .val (.int n), .val (.long w), .second, .val (.long u), .second, .val (.long v), .second, .val (.ref b8), .val (.int (Own.eff n w u)), .unset, .unset, .unset, .unset, .unset, .unset, .unset] [])) _
        refine XS.iload X10.here hx rfl (hb hby at_147) rfl ?_
        show Steps p.tables e below (T10.setTop (mkF m 149 #[.val (.int p1), .val (.long q2), .second, .val (.long q3), .second, .val (.long q4), .second, .val (.int p5), .val (.int n), .val (.long w), .second, .val (.long u), .second, .val (.long v), .second, .val (.ref b8), .val (.int (Own.eff n w u)), .unset, .unset, .unset, .unset, .unset, .unset, .unset] [(.int (Own.eff n w u))])) _
        refine XS.iconst X10.here hx rfl (hb hby at_149) ?_
        show Steps p.tables e below (T10.setTop (mkF m 150 #[.val (.int p1), .val (.long q2), .second, .val (.long q3), .second, .val (.long q4), .second, .val (.int p5), .val (.int n), .val (.long w), .second, .val (.long u), .second, .val (.long v), .second, .val (.ref b8), .val (.int (Own.eff n w u)), .unset, .unset, .unset, .unset, .unset, .unset, .unset] [(.int (1 : Int32)), (.int (Own.eff n w u))])) _
        refine XS.icmpNo X10.here hx rfl (hb hby at_150) rfl (teq (show (Own.eff n w u) = (1 : Int32) from Own.eff_neg hc122_12 hun)).2 ?_
        show Steps p.tables e below (T10.setTop (mkF m 153 #[.val (.int p1), .val (.long q2), .second, .val (.long q3), .second, .val (.long q4), .second, .val (.int p5), .val (.int n), .val (.long w), .second, .val (.long u), .second, .val (.long v), .second, .val (.ref b8), .val (.int (Own.eff n w u)), .unset, .unset, .unset, .unset, .unset, .unset, .unset] [])) _
        refine XS.iconst X10.here hx rfl (hb hby at_153) ?_
        show Steps p.tables e below (T10.setTop (mkF m 154 #[.val (.int p1), .val (.long q2), .second, .val (.long q3), .second, .val (.long q4), .second, .val (.int p5), .val (.int n), .val (.long w), .second, .val (.long u), .second, .val (.long v), .second, .val (.ref b8), .val (.int (Own.eff n w u)), .unset, .unset, .unset, .unset, .unset, .unset, .unset] [(.int (1 : Int32))])) _
        refine XS.goto X10.here hx rfl (pc0 := 154) (pc' := 158) rfl (hb hby at_154) (by decide) (by decide) ?_
        show Steps p.tables e below (T10.setTop (mkF m 158 #[.val (.int p1), .val (.long q2), .second, .val (.long q3), .second, .val (.long q4), .second, .val (.int p5), .val (.int n), .val (.long w), .second, .val (.long u), .second, .val (.long v), .second, .val (.ref b8), .val (.int (Own.eff n w u)), .unset, .unset, .unset, .unset, .unset, .unset, .unset] [(.int (1 : Int32))])) _
        refine XS.istore X10.here hx rfl (hb hby at_158) rfl (l' := #[.val (.int p1), .val (.long q2), .second, .val (.long q3), .second, .val (.long q4), .second, .val (.int p5), .val (.int n), .val (.long w), .second, .val (.long u), .second, .val (.long v), .second, .val (.ref b8), .val (.int (Own.eff n w u)), .val (.int (1 : Int32)), .unset, .unset, .unset, .unset, .unset, .unset]) rfl ?_
        show Steps p.tables e below (T10.setTop (mkF m 160 #[.val (.int p1), .val (.long q2), .second, .val (.long q3), .second, .val (.long q4), .second, .val (.int p5), .val (.int n), .val (.long w), .second, .val (.long u), .second, .val (.long v), .second, .val (.ref b8), .val (.int (Own.eff n w u)), .val (.int (1 : Int32)), .unset, .unset, .unset, .unset, .unset, .unset] [])) _
        refine XS.goto X10.here hx rfl (pc0 := 160) (pc' := 280) rfl (hb hby at_160) (by decide) (by decide) ?_
        show Steps p.tables e below (T10.setTop (mkF m 280 #[.val (.int p1), .val (.long q2), .second, .val (.long q3), .second, .val (.long q4), .second, .val (.int p5), .val (.int n), .val (.long w), .second, .val (.long u), .second, .val (.long v), .second, .val (.ref b8), .val (.int (Own.eff n w u)), .val (.int (1 : Int32)), .unset, .unset, .unset, .unset, .unset, .unset] [])) _
        refine XS.aload X10.here hx rfl (hb hby at_280) rfl rfl ?_
        show Steps p.tables e below (T10.setTop (mkF m 282 #[.val (.int p1), .val (.long q2), .second, .val (.long q3), .second, .val (.long q4), .second, .val (.int p5), .val (.int n), .val (.long w), .second, .val (.long u), .second, .val (.long v), .second, .val (.ref b8), .val (.int (Own.eff n w u)), .val (.int (1 : Int32)), .unset, .unset, .unset, .unset, .unset, .unset] [(.ref b8)])) _
        refine XS.lload X10.here hx rfl (hb hby at_282) rfl ?_
        show Steps p.tables e below (T10.setTop (mkF m 284 #[.val (.int p1), .val (.long q2), .second, .val (.long q3), .second, .val (.long q4), .second, .val (.int p5), .val (.int n), .val (.long w), .second, .val (.long u), .second, .val (.long v), .second, .val (.ref b8), .val (.int (Own.eff n w u)), .val (.int (1 : Int32)), .unset, .unset, .unset, .unset, .unset, .unset] [(.long u), (.ref b8)])) _
        refine XS.lload X10.here hx rfl (hb hby at_284) rfl ?_
        show Steps p.tables e below (T10.setTop (mkF m 286 #[.val (.int p1), .val (.long q2), .second, .val (.long q3), .second, .val (.long q4), .second, .val (.int p5), .val (.int n), .val (.long w), .second, .val (.long u), .second, .val (.long v), .second, .val (.ref b8), .val (.int (Own.eff n w u)), .val (.int (1 : Int32)), .unset, .unset, .unset, .unset, .unset, .unset] [(.long v), (.long u), (.ref b8)])) _
        refine st21 _ ?_
        show Steps p.tables e below (T21.setTop (mkF m 289 #[.val (.int p1), .val (.long q2), .second, .val (.long q3), .second, .val (.long q4), .second, .val (.int p5), .val (.int n), .val (.long w), .second, .val (.long u), .second, .val (.long v), .second, .val (.ref b8), .val (.int (Own.eff n w u)), .val (.int (1 : Int32)), .unset, .unset, .unset, .unset, .unset, .unset] [(.long (Own.mnW u v)), (.ref b8)])) _
        refine st22.trans ?_
        show Steps p.tables e below (T22.setTop (mkF m 292 #[.val (.int p1), .val (.long q2), .second, .val (.long q3), .second, .val (.long q4), .second, .val (.int p5), .val (.int n), .val (.long w), .second, .val (.long u), .second, .val (.long v), .second, .val (.ref b8), .val (.int (Own.eff n w u)), .val (.int (1 : Int32)), .unset, .unset, .unset, .unset, .unset, .unset] [(.int (Own.eff n w (Own.mnW u v)))])) _
        refine XS.istore X22.here hx rfl (hb hby at_292) rfl (l' := #[.val (.int p1), .val (.long q2), .second, .val (.long q3), .second, .val (.long q4), .second, .val (.int p5), .val (.int n), .val (.long w), .second, .val (.long u), .second, .val (.long v), .second, .val (.ref b8), .val (.int (Own.eff n w u)), .val (.int (1 : Int32)), .val (.int (Own.eff n w (Own.mnW u v))), .unset, .unset, .unset, .unset, .unset]) rfl ?_
        show Steps p.tables e below (T22.setTop (mkF m 294 #[.val (.int p1), .val (.long q2), .second, .val (.long q3), .second, .val (.long q4), .second, .val (.int p5), .val (.int n), .val (.long w), .second, .val (.long u), .second, .val (.long v), .second, .val (.ref b8), .val (.int (Own.eff n w u)), .val (.int (1 : Int32)), .val (.int (Own.eff n w (Own.mnW u v))), .unset, .unset, .unset, .unset, .unset] [])) _
        refine XS.aload X22.here hx rfl (hb hby at_294) rfl rfl ?_
        show Steps p.tables e below (T22.setTop (mkF m 296 #[.val (.int p1), .val (.long q2), .second, .val (.long q3), .second, .val (.long q4), .second, .val (.int p5), .val (.int n), .val (.long w), .second, .val (.long u), .second, .val (.long v), .second, .val (.ref b8), .val (.int (Own.eff n w u)), .val (.int (1 : Int32)), .val (.int (Own.eff n w (Own.mnW u v))), .unset, .unset, .unset, .unset, .unset] [(.ref b8)])) _
        refine XS.lload X22.here hx rfl (hb hby at_296) rfl ?_
        show Steps p.tables e below (T22.setTop (mkF m 298 #[.val (.int p1), .val (.long q2), .second, .val (.long q3), .second, .val (.long q4), .second, .val (.int p5), .val (.int n), .val (.long w), .second, .val (.long u), .second, .val (.long v), .second, .val (.ref b8), .val (.int (Own.eff n w u)), .val (.int (1 : Int32)), .val (.int (Own.eff n w (Own.mnW u v))), .unset, .unset, .unset, .unset, .unset] [(.long u), (.ref b8)])) _
        refine XS.lload X22.here hx rfl (hb hby at_298) rfl ?_
        show Steps p.tables e below (T22.setTop (mkF m 300 #[.val (.int p1), .val (.long q2), .second, .val (.long q3), .second, .val (.long q4), .second, .val (.int p5), .val (.int n), .val (.long w), .second, .val (.long u), .second, .val (.long v), .second, .val (.ref b8), .val (.int (Own.eff n w u)), .val (.int (1 : Int32)), .val (.int (Own.eff n w (Own.mnW u v))), .unset, .unset, .unset, .unset, .unset] [(.long v), (.long u), (.ref b8)])) _
        refine st23 _ ?_
        show Steps p.tables e below (T23.setTop (mkF m 303 #[.val (.int p1), .val (.long q2), .second, .val (.long q3), .second, .val (.long q4), .second, .val (.int p5), .val (.int n), .val (.long w), .second, .val (.long u), .second, .val (.long v), .second, .val (.ref b8), .val (.int (Own.eff n w u)), .val (.int (1 : Int32)), .val (.int (Own.eff n w (Own.mnW u v))), .unset, .unset, .unset, .unset, .unset] [(.long (Own.mxW u v)), (.ref b8)])) _
        refine st24.trans ?_
        show Steps p.tables e below (T24.setTop (mkF m 306 #[.val (.int p1), .val (.long q2), .second, .val (.long q3), .second, .val (.long q4), .second, .val (.int p5), .val (.int n), .val (.long w), .second, .val (.long u), .second, .val (.long v), .second, .val (.ref b8), .val (.int (Own.eff n w u)), .val (.int (1 : Int32)), .val (.int (Own.eff n w (Own.mnW u v))), .unset, .unset, .unset, .unset, .unset] [(.int (Own.eff n w (Own.mxW u v)))])) _
        refine XS.istore X24.here hx rfl (hb hby at_306) rfl (l' := #[.val (.int p1), .val (.long q2), .second, .val (.long q3), .second, .val (.long q4), .second, .val (.int p5), .val (.int n), .val (.long w), .second, .val (.long u), .second, .val (.long v), .second, .val (.ref b8), .val (.int (Own.eff n w u)), .val (.int (1 : Int32)), .val (.int (Own.eff n w (Own.mnW u v))), .val (.int (Own.eff n w (Own.mxW u v))), .unset, .unset, .unset, .unset]) rfl ?_
        show Steps p.tables e below (T24.setTop (mkF m 308 #[.val (.int p1), .val (.long q2), .second, .val (.long q3), .second, .val (.long q4), .second, .val (.int p5), .val (.int n), .val (.long w), .second, .val (.long u), .second, .val (.long v), .second, .val (.ref b8), .val (.int (Own.eff n w u)), .val (.int (1 : Int32)), .val (.int (Own.eff n w (Own.mnW u v))), .val (.int (Own.eff n w (Own.mxW u v))), .unset, .unset, .unset, .unset] [])) _
        refine XS.iload X24.here hx rfl (hb hby at_308) rfl ?_
        show Steps p.tables e below (T24.setTop (mkF m 310 #[.val (.int p1), .val (.long q2), .second, .val (.long q3), .second, .val (.long q4), .second, .val (.int p5), .val (.int n), .val (.long w), .second, .val (.long u), .second, .val (.long v), .second, .val (.ref b8), .val (.int (Own.eff n w u)), .val (.int (1 : Int32)), .val (.int (Own.eff n w (Own.mnW u v))), .val (.int (Own.eff n w (Own.mxW u v))), .unset, .unset, .unset, .unset] [(.int (1 : Int32))])) _
        refine XS.ifNo X24.here hx rfl (hb hby at_310) rfl ((if0 _ _).trans (feq (by decide : ¬ ((1 : Int32) = (0 : Int32)))).1) ?_
        show Steps p.tables e below (T24.setTop (mkF m 313 #[.val (.int p1), .val (.long q2), .second, .val (.long q3), .second, .val (.long q4), .second, .val (.int p5), .val (.int n), .val (.long w), .second, .val (.long u), .second, .val (.long v), .second, .val (.ref b8), .val (.int (Own.eff n w u)), .val (.int (1 : Int32)), .val (.int (Own.eff n w (Own.mnW u v))), .val (.int (Own.eff n w (Own.mxW u v))), .unset, .unset, .unset, .unset] [])) _
        refine XS.iload X24.here hx rfl (hb hby at_313) rfl ?_
        show Steps p.tables e below (T24.setTop (mkF m 315 #[.val (.int p1), .val (.long q2), .second, .val (.long q3), .second, .val (.long q4), .second, .val (.int p5), .val (.int n), .val (.long w), .second, .val (.long u), .second, .val (.long v), .second, .val (.ref b8), .val (.int (Own.eff n w u)), .val (.int (1 : Int32)), .val (.int (Own.eff n w (Own.mnW u v))), .val (.int (Own.eff n w (Own.mxW u v))), .unset, .unset, .unset, .unset] [(.int (Own.eff n w (Own.mnW u v)))])) _
        refine XS.iload X24.here hx rfl (hb hby at_315) rfl ?_
        show Steps p.tables e below (T24.setTop (mkF m 317 #[.val (.int p1), .val (.long q2), .second, .val (.long q3), .second, .val (.long q4), .second, .val (.int p5), .val (.int n), .val (.long w), .second, .val (.long u), .second, .val (.long v), .second, .val (.ref b8), .val (.int (Own.eff n w u)), .val (.int (1 : Int32)), .val (.int (Own.eff n w (Own.mnW u v))), .val (.int (Own.eff n w (Own.mxW u v))), .unset, .unset, .unset, .unset] [(.int (Own.eff n w (Own.mxW u v))), (.int (Own.eff n w (Own.mnW u v)))])) _
        refine XS.icmpNo X24.here hx rfl (hb hby at_317) rfl (flt (show ¬ ((Own.eff n w (Own.mxW u v)) < (Own.eff n w (Own.mnW u v))) from Own.eff_mm hn0)).2.2.1 ?_
        show Steps p.tables e below (T24.setTop (mkF m 320 #[.val (.int p1), .val (.long q2), .second, .val (.long q3), .second, .val (.long q4), .second, .val (.int p5), .val (.int n), .val (.long w), .second, .val (.long u), .second, .val (.long v), .second, .val (.ref b8), .val (.int (Own.eff n w u)), .val (.int (1 : Int32)), .val (.int (Own.eff n w (Own.mnW u v))), .val (.int (Own.eff n w (Own.mxW u v))), .unset, .unset, .unset, .unset] [])) _
        refine XS.iconst X24.here hx rfl (hb hby at_320) ?_
        show Steps p.tables e below (T24.setTop (mkF m 321 #[.val (.int p1), .val (.long q2), .second, .val (.long q3), .second, .val (.long q4), .second, .val (.int p5), .val (.int n), .val (.long w), .second, .val (.long u), .second, .val (.long v), .second, .val (.ref b8), .val (.int (Own.eff n w u)), .val (.int (1 : Int32)), .val (.int (Own.eff n w (Own.mnW u v))), .val (.int (Own.eff n w (Own.mxW u v))), .unset, .unset, .unset, .unset] [(.int (1 : Int32))])) _
        refine XS.goto X24.here hx rfl (pc0 := 321) (pc' := 325) rfl (hb hby at_321) (by decide) (by decide) ?_
        show Steps p.tables e below (T24.setTop (mkF m 325 #[.val (.int p1), .val (.long q2), .second, .val (.long q3), .second, .val (.long q4), .second, .val (.int p5), .val (.int n), .val (.long w), .second, .val (.long u), .second, .val (.long v), .second, .val (.ref b8), .val (.int (Own.eff n w u)), .val (.int (1 : Int32)), .val (.int (Own.eff n w (Own.mnW u v))), .val (.int (Own.eff n w (Own.mxW u v))), .unset, .unset, .unset, .unset] [(.int (1 : Int32))])) _
        exact retN X24 hx (t := .boolean) Bd.returns (by simp) (hb hby at_325) hr
      · show Q_rm0 Z p1 q2 q3 q4 p5 h0 n0 _ T24.heap _
        exact ⟨rfl, N24⟩
    · have pre25 : ∀ t, Steps p.tables e below (T10.setTop (mkF m 163 #[.val (.int p1), .val (.long q2), .second, .val (.long q3), .second, .val (.long q4), .second, .val (.int p5), .val (.int n), .val (.long w), .second, .val (.long u), .second, .val (.long v), .second, .val (.ref b8), .val (.int (Own.eff n w u)), .unset, .unset, .unset, .unset, .unset, .unset, .unset] [])) t → Steps p.tables e below (s₁.setTop (entryFrame m #[(.int p1), (.long q2), (.long q3), (.long q4), (.int p5)] maxLocals)) t := fun t k => pre18 t (by
          show Steps p.tables e below (T10.setTop (mkF m 144 #[.val (.int p1), .val (.long q2), .second, .val (.long q3), .second, .val (.long q4), .second, .val (.int p5), .val (.int n), .val (.long w), .second, .val (.long u), .second, .val (.long v), .second, .val (.ref b8), .val (.int (Own.eff n w u)), .unset, .unset, .unset, .unset, .unset, .unset, .unset] [(.int (lcmpW u (0 : Int64)))])) _
          refine XS.ifYes X10.here hx rfl (pc0 := 144) (pc' := 163) rfl (hb hby at_144) rfl ((if0 _ _).trans (flt hc144_19).2.1) (by decide) (by decide) ?_
          exact k)
      have hu0 := Own.nn hc144_19
      have pre26 : ∀ t, Steps p.tables e below (T10.setTop (mkF m 168 #[.val (.int p1), .val (.long q2), .second, .val (.long q3), .second, .val (.long q4), .second, .val (.int p5), .val (.int n), .val (.long w), .second, .val (.long u), .second, .val (.long v), .second, .val (.ref b8), .val (.int (Own.eff n w u)), .unset, .unset, .unset, .unset, .unset, .unset, .unset] [(.int (lcmpW u w))])) t → Steps p.tables e below (s₁.setTop (entryFrame m #[(.int p1), (.long q2), (.long q3), (.long q4), (.int p5)] maxLocals)) t := fun t k => pre25 t (by
          show Steps p.tables e below (T10.setTop (mkF m 163 #[.val (.int p1), .val (.long q2), .second, .val (.long q3), .second, .val (.long q4), .second, .val (.int p5), .val (.int n), .val (.long w), .second, .val (.long u), .second, .val (.long v), .second, .val (.ref b8), .val (.int (Own.eff n w u)), .unset, .unset, .unset, .unset, .unset, .unset, .unset] [])) _
          refine XS.lload X10.here hx rfl (hb hby at_163) rfl ?_
          show Steps p.tables e below (T10.setTop (mkF m 165 #[.val (.int p1), .val (.long q2), .second, .val (.long q3), .second, .val (.long q4), .second, .val (.int p5), .val (.int n), .val (.long w), .second, .val (.long u), .second, .val (.long v), .second, .val (.ref b8), .val (.int (Own.eff n w u)), .unset, .unset, .unset, .unset, .unset, .unset, .unset] [(.long u)])) _
          refine XS.lload X10.here hx rfl (hb hby at_165) rfl ?_
          show Steps p.tables e below (T10.setTop (mkF m 167 #[.val (.int p1), .val (.long q2), .second, .val (.long q3), .second, .val (.long q4), .second, .val (.int p5), .val (.int n), .val (.long w), .second, .val (.long u), .second, .val (.long v), .second, .val (.ref b8), .val (.int (Own.eff n w u)), .unset, .unset, .unset, .unset, .unset, .unset, .unset] [(.long w), (.long u)])) _
          refine XS.lcmp X10.here hx rfl (hb hby at_167) rfl ?_
          exact k)
      by_cases hc168_27 : (lcmpW u w) < (0 : Int32)
      · have pre28 : ∀ t, Steps p.tables e below (T10.setTop (mkF m 188 #[.val (.int p1), .val (.long q2), .second, .val (.long q3), .second, .val (.long q4), .second, .val (.int p5), .val (.int n), .val (.long w), .second, .val (.long u), .second, .val (.long v), .second, .val (.ref b8), .val (.int (Own.eff n w u)), .unset, .unset, .unset, .unset, .unset, .unset, .unset] [])) t → Steps p.tables e below (s₁.setTop (entryFrame m #[(.int p1), (.long q2), (.long q3), (.long q4), (.int p5)] maxLocals)) t := fun t k => pre26 t (by
            show Steps p.tables e below (T10.setTop (mkF m 168 #[.val (.int p1), .val (.long q2), .second, .val (.long q3), .second, .val (.long q4), .second, .val (.int p5), .val (.int n), .val (.long w), .second, .val (.long u), .second, .val (.long v), .second, .val (.ref b8), .val (.int (Own.eff n w u)), .unset, .unset, .unset, .unset, .unset, .unset, .unset] [(.int (lcmpW u w))])) _
            refine XS.ifYes X10.here hx rfl (pc0 := 168) (pc' := 188) rfl (hb hby at_168) rfl ((if0 _ _).trans (tlt hc168_27).1) (by decide) (by decide) ?_
            exact k)
        have hin := Own.in_lt hc168_27
        have pre29 : ∀ t, Steps p.tables e below (T10.setTop (mkF m 214 #[.val (.int p1), .val (.long q2), .second, .val (.long q3), .second, .val (.long q4), .second, .val (.int p5), .val (.int n), .val (.long w), .second, .val (.long u), .second, .val (.long v), .second, .val (.ref b8), .val (.int (Own.eff n w u)), .val (.int (1 : Int32)), .unset, .unset, .unset, .unset, .unset, .unset] [(.int (lcmpW w (4294967295 : Int64)))])) t → Steps p.tables e below (s₁.setTop (entryFrame m #[(.int p1), (.long q2), (.long q3), (.long q4), (.int p5)] maxLocals)) t := fun t k => pre28 t (by
            show Steps p.tables e below (T10.setTop (mkF m 188 #[.val (.int p1), .val (.long q2), .second, .val (.long q3), .second, .val (.long q4), .second, .val (.int p5), .val (.int n), .val (.long w), .second, .val (.long u), .second, .val (.long v), .second, .val (.ref b8), .val (.int (Own.eff n w u)), .unset, .unset, .unset, .unset, .unset, .unset, .unset] [])) _
            refine XS.iload X10.here hx rfl (hb hby at_188) rfl ?_
            show Steps p.tables e below (T10.setTop (mkF m 190 #[.val (.int p1), .val (.long q2), .second, .val (.long q3), .second, .val (.long q4), .second, .val (.int p5), .val (.int n), .val (.long w), .second, .val (.long u), .second, .val (.long v), .second, .val (.ref b8), .val (.int (Own.eff n w u)), .unset, .unset, .unset, .unset, .unset, .unset, .unset] [(.int (Own.eff n w u))])) _
            refine XS.iconst X10.here hx rfl (hb hby at_190) ?_
            show Steps p.tables e below (T10.setTop (mkF m 191 #[.val (.int p1), .val (.long q2), .second, .val (.long q3), .second, .val (.long q4), .second, .val (.int p5), .val (.int n), .val (.long w), .second, .val (.long u), .second, .val (.long v), .second, .val (.ref b8), .val (.int (Own.eff n w u)), .unset, .unset, .unset, .unset, .unset, .unset, .unset] [(.int (1 : Int32)), (.int (Own.eff n w u))])) _
            refine XS.icmpNo X10.here hx rfl (hb hby at_191) rfl (flt (show ¬ ((Own.eff n w u) < (1 : Int32)) from by have q := (Own.eff_range (w := w) (u := u) hn1).1; rw [Int32.lt_iff_toInt_lt, Own.i1]; omega)).1 ?_
            show Steps p.tables e below (T10.setTop (mkF m 194 #[.val (.int p1), .val (.long q2), .second, .val (.long q3), .second, .val (.long q4), .second, .val (.int p5), .val (.int n), .val (.long w), .second, .val (.long u), .second, .val (.long v), .second, .val (.ref b8), .val (.int (Own.eff n w u)), .unset, .unset, .unset, .unset, .unset, .unset, .unset] [])) _
            refine XS.iload X10.here hx rfl (hb hby at_194) rfl ?_
            show Steps p.tables e below (T10.setTop (mkF m 196 #[.val (.int p1), .val (.long q2), .second, .val (.long q3), .second, .val (.long q4), .second, .val (.int p5), .val (.int n), .val (.long w), .second, .val (.long u), .second, .val (.long v), .second, .val (.ref b8), .val (.int (Own.eff n w u)), .unset, .unset, .unset, .unset, .unset, .unset, .unset] [(.int (Own.eff n w u))])) _
            refine XS.iload X10.here hx rfl (hb hby at_196) rfl ?_
            show Steps p.tables e below (T10.setTop (mkF m 198 #[.val (.int p1), .val (.long q2), .second, .val (.long q3), .second, .val (.long q4), .second, .val (.int p5), .val (.int n), .val (.long w), .second, .val (.long u), .second, .val (.long v), .second, .val (.ref b8), .val (.int (Own.eff n w u)), .unset, .unset, .unset, .unset, .unset, .unset, .unset] [(.int n), (.int (Own.eff n w u))])) _
            refine XS.icmpNo X10.here hx rfl (hb hby at_198) rfl (flt (show ¬ (n < (Own.eff n w u)) from by have q := (Own.eff_range (w := w) (u := u) hn1).2; rw [Int32.lt_iff_toInt_lt]; omega)).2.2.1 ?_
            show Steps p.tables e below (T10.setTop (mkF m 201 #[.val (.int p1), .val (.long q2), .second, .val (.long q3), .second, .val (.long q4), .second, .val (.int p5), .val (.int n), .val (.long w), .second, .val (.long u), .second, .val (.long v), .second, .val (.ref b8), .val (.int (Own.eff n w u)), .unset, .unset, .unset, .unset, .unset, .unset, .unset] [])) _
            refine XS.iconst X10.here hx rfl (hb hby at_201) ?_
            show Steps p.tables e below (T10.setTop (mkF m 202 #[.val (.int p1), .val (.long q2), .second, .val (.long q3), .second, .val (.long q4), .second, .val (.int p5), .val (.int n), .val (.long w), .second, .val (.long u), .second, .val (.long v), .second, .val (.ref b8), .val (.int (Own.eff n w u)), .unset, .unset, .unset, .unset, .unset, .unset, .unset] [(.int (1 : Int32))])) _
            refine XS.goto X10.here hx rfl (pc0 := 202) (pc' := 206) rfl (hb hby at_202) (by decide) (by decide) ?_
            show Steps p.tables e below (T10.setTop (mkF m 206 #[.val (.int p1), .val (.long q2), .second, .val (.long q3), .second, .val (.long q4), .second, .val (.int p5), .val (.int n), .val (.long w), .second, .val (.long u), .second, .val (.long v), .second, .val (.ref b8), .val (.int (Own.eff n w u)), .unset, .unset, .unset, .unset, .unset, .unset, .unset] [(.int (1 : Int32))])) _
            refine XS.istore X10.here hx rfl (hb hby at_206) rfl (l' := #[.val (.int p1), .val (.long q2), .second, .val (.long q3), .second, .val (.long q4), .second, .val (.int p5), .val (.int n), .val (.long w), .second, .val (.long u), .second, .val (.long v), .second, .val (.ref b8), .val (.int (Own.eff n w u)), .val (.int (1 : Int32)), .unset, .unset, .unset, .unset, .unset, .unset]) rfl ?_
            show Steps p.tables e below (T10.setTop (mkF m 208 #[.val (.int p1), .val (.long q2), .second, .val (.long q3), .second, .val (.long q4), .second, .val (.int p5), .val (.int n), .val (.long w), .second, .val (.long u), .second, .val (.long v), .second, .val (.ref b8), .val (.int (Own.eff n w u)), .val (.int (1 : Int32)), .unset, .unset, .unset, .unset, .unset, .unset] [])) _
            refine XS.lload X10.here hx rfl (hb hby at_208) rfl ?_
            show Steps p.tables e below (T10.setTop (mkF m 210 #[.val (.int p1), .val (.long q2), .second, .val (.long q3), .second, .val (.long q4), .second, .val (.int p5), .val (.int n), .val (.long w), .second, .val (.long u), .second, .val (.long v), .second, .val (.ref b8), .val (.int (Own.eff n w u)), .val (.int (1 : Int32)), .unset, .unset, .unset, .unset, .unset, .unset] [(.long w)])) _
            refine Jvm.Stand.ldc2Long X10 hx hown (mvT hZ (hw _ (List.mem_of_getElem? (i := 1) rfl))) (g := (mkF m 210 #[.val (.int p1), .val (.long q2), .second, .val (.long q3), .second, .val (.long q4), .second, .val (.int p5), .val (.int n), .val (.long w), .second, .val (.long u), .second, .val (.long v), .second, .val (.ref b8), .val (.int (Own.eff n w u)), .val (.int (1 : Int32)), .unset, .unset, .unset, .unset, .unset, .unset] [(.long w)])) rfl (hb hby at_210) _ ?_
            show Steps p.tables e below (T10.setTop (mkF m 213 #[.val (.int p1), .val (.long q2), .second, .val (.long q3), .second, .val (.long q4), .second, .val (.int p5), .val (.int n), .val (.long w), .second, .val (.long u), .second, .val (.long v), .second, .val (.ref b8), .val (.int (Own.eff n w u)), .val (.int (1 : Int32)), .unset, .unset, .unset, .unset, .unset, .unset] [(.long (4294967295 : Int64)), (.long w)])) _
            refine XS.lcmp X10.here hx rfl (hb hby at_213) rfl ?_
            exact k)
        by_cases hc214_30 : (0 : Int32) < (lcmpW w (4294967295 : Int64))
        · obtain ⟨_, _, ⟨T31, L31, k31, n31⟩, -, X31, ⟨Lc31, hQ31, l31, y31, z31⟩, st31⟩ := Jvm.LawKit.callS X10 hx (y := (⟨"java/lang/Math", "min", "(JJ)J"⟩ : MethodName)) hown (mvT hZ (hw _ (List.mem_of_getElem? (i := 25) rfl))) (mvT hZ (hw _ (List.mem_of_getElem? (i := 26) rfl))) (mvT hZ (hw _ (List.mem_of_getElem? (i := 27) rfl))) (mvT hZ (hw _ (List.mem_of_getElem? (i := 28) rfl))) (by decide) (backOf (W := 1) (rm5 l Z a0 hw [] u v T9.heap n0 z9_) hZ (hw _ (List.mem_of_getElem? (i := 28) rfl)) (hw _ (List.mem_of_getElem? (i := 27) rfl)) (by decide) (by decide)) (g := (mkF m 286 #[.val (.int p1), .val (.long q2), .second, .val (.long q3), .second, .val (.long q4), .second, .val (.int p5), .val (.int n), .val (.long w), .second, .val (.long u), .second, .val (.long v), .second, .val (.ref b8), .val (.int (Own.eff n w u)), .val (.int (1 : Int32)), .unset, .unset, .unset, .unset, .unset, .unset] [(.long v), (.long u), (.ref b8)])) rfl (by rw [hml]; rfl) (argsL := [(.long u), (.long v)]) (rest := [(.ref b8)]) (lenOf pd_1 rfl) rfl (by show 2 * 0 + _ ≤ _; exact Nat.le_of_eq rfl) (hb hby at_286) (fun _ _ => ⟨rfl, e10, (by decide : 1 + 0 ≤ _), (by decide : 2 + 0 ≤ _)⟩)
          dsimp only [Pt.U, Pt.locs, Pt.cells, Pt.slots] at X31 l31 y31 z31 st31 hQ31
          subst l31 y31 z31
          obtain ⟨rfl, N31q, e31⟩ := hQ31
          have N31 := Fr.app N10 N31q
          obtain ⟨cq32, kq32, q32a, q32b, q32c⟩ := isOf hZ e31 E9a
          obtain ⟨_, _, ⟨T32, L32, k32, n32⟩, -, X32, ⟨Lc32, hQ32, l32, y32, z32⟩, st32⟩ := X31.virtualBack hx (y := (⟨"com/example/curtaincall/curtaincall/core/Weight", "effectiveAt", "(J)I"⟩ : MethodName)) (z := (⟨"com/example/curtaincall/curtaincall/core/Weight", "effectiveAt", "(J)I"⟩ : MethodName)) hown (mvT hZ (hw _ (List.mem_of_getElem? (i := 20) rfl))) (mvT hZ (hw _ (List.mem_of_getElem? (i := 21) rfl))) (notFace_of_selects (args := #[]) (mvT hZ (hw _ (List.mem_of_getElem? (i := 23) rfl)))) (mvT hZ (hw _ (List.mem_of_getElem? (i := 23) rfl))) (mvT hZ (hw _ (List.mem_of_getElem? (i := 22) rfl))) (by decide) (backOf (W := 0) (rm4 l Z a0 hw [] b8 (Own.mnW u v) n w T9.heap n0 z9_ F9f F9w hn0 hw0) hZ (hw _ (List.mem_of_getElem? (i := 24) rfl)) (hw _ (List.mem_of_getElem? (i := 4) rfl)) (by decide) (by decide)) q32a q32c (g := (mkF m 289 #[.val (.int p1), .val (.long q2), .second, .val (.long q3), .second, .val (.long q4), .second, .val (.int p5), .val (.int n), .val (.long w), .second, .val (.long u), .second, .val (.long v), .second, .val (.ref b8), .val (.int (Own.eff n w u)), .val (.int (1 : Int32)), .unset, .unset, .unset, .unset, .unset, .unset] [(.long (Own.mnW u v)), (.ref b8)])) rfl (by rw [hml]; rfl) (Steps.refl _) (argsL := [(.long (Own.mnW u v))]) (rest := []) (lenOf pd_3 rfl) rfl (by show 2 * 0 + _ ≤ _; exact Nat.le_of_eq rfl) (hb hby at_289) (fun _ _ => ⟨rfl, e31, (by decide : 1 + 0 ≤ _), (by decide : 2 + 0 ≤ _)⟩)
          dsimp only [Pt.U, Pt.locs, Pt.cells, Pt.slots] at X32 l32 y32 z32 st32 hQ32
          subst l32 y32 z32
          obtain ⟨rfl, N32q, e32⟩ := hQ32
          have N32 := Fr.app N31 N32q
          obtain ⟨_, _, ⟨T33, L33, k33, n33⟩, -, X33, ⟨Lc33, hQ33, l33, y33, z33⟩, st33⟩ := Jvm.LawKit.callS X32 hx (y := (⟨"java/lang/Math", "max", "(JJ)J"⟩ : MethodName)) hown (mvT hZ (hw _ (List.mem_of_getElem? (i := 29) rfl))) (mvT hZ (hw _ (List.mem_of_getElem? (i := 30) rfl))) (mvT hZ (hw _ (List.mem_of_getElem? (i := 27) rfl))) (mvT hZ (hw _ (List.mem_of_getElem? (i := 31) rfl))) (by decide) (backOf (W := 1) (rm6 l Z a0 hw [] u v T9.heap n0 z9_) hZ (hw _ (List.mem_of_getElem? (i := 31) rfl)) (hw _ (List.mem_of_getElem? (i := 27) rfl)) (by decide) (by decide)) (g := (mkF m 300 #[.val (.int p1), .val (.long q2), .second, .val (.long q3), .second, .val (.long q4), .second, .val (.int p5), .val (.int n), .val (.long w), .second, .val (.long u), .second, .val (.long v), .second, .val (.ref b8), .val (.int (Own.eff n w u)), .val (.int (1 : Int32)), .val (.int (Own.eff n w (Own.mnW u v))), .unset, .unset, .unset, .unset, .unset] [(.long v), (.long u), (.ref b8)])) rfl (by rw [hml]; rfl) (argsL := [(.long u), (.long v)]) (rest := [(.ref b8)]) (lenOf pd_1 rfl) rfl (by show 2 * 0 + _ ≤ _; exact Nat.le_of_eq rfl) (hb hby at_300) (fun _ _ => ⟨rfl, e32, (by decide : 1 + 0 ≤ _), (by decide : 2 + 0 ≤ _)⟩)
          dsimp only [Pt.U, Pt.locs, Pt.cells, Pt.slots] at X33 l33 y33 z33 st33 hQ33
          subst l33 y33 z33
          obtain ⟨rfl, N33q, e33⟩ := hQ33
          have N33 := Fr.app N32 N33q
          obtain ⟨cq34, kq34, q34a, q34b, q34c⟩ := isOf hZ e33 E9a
          obtain ⟨_, _, ⟨T34, L34, k34, n34⟩, -, X34, ⟨Lc34, hQ34, l34, y34, z34⟩, st34⟩ := X33.virtualBack hx (y := (⟨"com/example/curtaincall/curtaincall/core/Weight", "effectiveAt", "(J)I"⟩ : MethodName)) (z := (⟨"com/example/curtaincall/curtaincall/core/Weight", "effectiveAt", "(J)I"⟩ : MethodName)) hown (mvT hZ (hw _ (List.mem_of_getElem? (i := 20) rfl))) (mvT hZ (hw _ (List.mem_of_getElem? (i := 21) rfl))) (notFace_of_selects (args := #[]) (mvT hZ (hw _ (List.mem_of_getElem? (i := 23) rfl)))) (mvT hZ (hw _ (List.mem_of_getElem? (i := 23) rfl))) (mvT hZ (hw _ (List.mem_of_getElem? (i := 22) rfl))) (by decide) (backOf (W := 0) (rm4 l Z a0 hw [] b8 (Own.mxW u v) n w T9.heap n0 z9_ F9f F9w hn0 hw0) hZ (hw _ (List.mem_of_getElem? (i := 24) rfl)) (hw _ (List.mem_of_getElem? (i := 4) rfl)) (by decide) (by decide)) q34a q34c (g := (mkF m 303 #[.val (.int p1), .val (.long q2), .second, .val (.long q3), .second, .val (.long q4), .second, .val (.int p5), .val (.int n), .val (.long w), .second, .val (.long u), .second, .val (.long v), .second, .val (.ref b8), .val (.int (Own.eff n w u)), .val (.int (1 : Int32)), .val (.int (Own.eff n w (Own.mnW u v))), .unset, .unset, .unset, .unset, .unset] [(.long (Own.mxW u v)), (.ref b8)])) rfl (by rw [hml]; rfl) (Steps.refl _) (argsL := [(.long (Own.mxW u v))]) (rest := []) (lenOf pd_3 rfl) rfl (by show 2 * 0 + _ ≤ _; exact Nat.le_of_eq rfl) (hb hby at_303) (fun _ _ => ⟨rfl, e33, (by decide : 1 + 0 ≤ _), (by decide : 2 + 0 ≤ _)⟩)
          dsimp only [Pt.U, Pt.locs, Pt.cells, Pt.slots] at X34 l34 y34 z34 st34 hQ34
          subst l34 y34 z34
          obtain ⟨rfl, N34q, e34⟩ := hQ34
          have N34 := Fr.app N33 N34q
          obtain ⟨fs, hr, hrun, hended, hW, hsame⟩ := X34.leave (v := some (.int (1 : Int32))) (fun h => by rw [Bd.returns] at h; cases h)
          refine ⟨_, _, pre29 _ ?_, hrun, hended, _, _, rfl, ?_, ⟨_, rfl⟩, hW, hsame.mono (by decide) (by decide)⟩
          · show Steps p.tables e below (T10.setTop (mkF m 214 #[.val (.int p1), .val (.long q2), .second, .val (.long q3), .second, .val (.long q4), .second, .val (.int p5), .val (.int n), .val (.long w), .second, .val (.long u), .second, .val (.long v), .second, .val (.ref b8), .val (.int (Own.eff n w u)), .val (.int (1 : Int32)), .unset, .unset, .unset, .unset, .unset, .unset] [(.int (lcmpW w (4294967295 : Int64)))])) _
            refine XS.ifYes X10.here hx rfl (pc0 := 214) (pc' := 280) rfl (hb hby at_214) rfl ((if0 _ _).trans (tlt hc214_30).2.2.1) (by decide) (by decide) ?_
            show Steps p.tables e below (T10.setTop (mkF m 280 #[.val (.int p1), .val (.long q2), .second, .val (.long q3), .second, .val (.long q4), .second, .val (.int p5), .val (.int n), .val (.long w), .second, .val (.long u), .second, .val (.long v), .second, .val (.ref b8), .val (.int (Own.eff n w u)), .val (.int (1 : Int32)), .unset, .unset, .unset, .unset, .unset, .unset] [])) _
            refine XS.aload X10.here hx rfl (hb hby at_280) rfl rfl ?_
            show Steps p.tables e below (T10.setTop (mkF m 282 #[.val (.int p1), .val (.long q2), .second, .val (.long q3), .second, .val (.long q4), .second, .val (.int p5), .val (.int n), .val (.long w), .second, .val (.long u), .second, .val (.long v), .second, .val (.ref b8), .val (.int (Own.eff n w u)), .val (.int (1 : Int32)), .unset, .unset, .unset, .unset, .unset, .unset] [(.ref b8)])) _
            refine XS.lload X10.here hx rfl (hb hby at_282) rfl ?_
            show Steps p.tables e below (T10.setTop (mkF m 284 #[.val (.int p1), .val (.long q2), .second, .val (.long q3), .second, .val (.long q4), .second, .val (.int p5), .val (.int n), .val (.long w), .second, .val (.long u), .second, .val (.long v), .second, .val (.ref b8), .val (.int (Own.eff n w u)), .val (.int (1 : Int32)), .unset, .unset, .unset, .unset, .unset, .unset] [(.long u), (.ref b8)])) _
            refine XS.lload X10.here hx rfl (hb hby at_284) rfl ?_
            show Steps p.tables e below (T10.setTop (mkF m 286 #[.val (.int p1), .val (.long q2), .second, .val (.long q3), .second, .val (.long q4), .second, .val (.int p5), .val (.int n), .val (.long w), .second, .val (.long u), .second, .val (.long v), .second, .val (.ref b8), .val (.int (Own.eff n w u)), .val (.int (1 : Int32)), .unset, .unset, .unset, .unset, .unset, .unset] [(.long v), (.long u), (.ref b8)])) _
            refine st31 _ ?_
            show Steps p.tables e below (T31.setTop (mkF m 289 #[.val (.int p1), .val (.long q2), .second, .val (.long q3), .second, .val (.long q4), .second, .val (.int p5), .val (.int n), .val (.long w), .second, .val (.long u), .second, .val (.long v), .second, .val (.ref b8), .val (.int (Own.eff n w u)), .val (.int (1 : Int32)), .unset, .unset, .unset, .unset, .unset, .unset] [(.long (Own.mnW u v)), (.ref b8)])) _
            refine st32.trans ?_
            show Steps p.tables e below (T32.setTop (mkF m 292 #[.val (.int p1), .val (.long q2), .second, .val (.long q3), .second, .val (.long q4), .second, .val (.int p5), .val (.int n), .val (.long w), .second, .val (.long u), .second, .val (.long v), .second, .val (.ref b8), .val (.int (Own.eff n w u)), .val (.int (1 : Int32)), .unset, .unset, .unset, .unset, .unset, .unset] [(.int (Own.eff n w (Own.mnW u v)))])) _
            refine XS.istore X32.here hx rfl (hb hby at_292) rfl (l' := #[.val (.int p1), .val (.long q2), .second, .val (.long q3), .second, .val (.long q4), .second, .val (.int p5), .val (.int n), .val (.long w), .second, .val (.long u), .second, .val (.long v), .second, .val (.ref b8), .val (.int (Own.eff n w u)), .val (.int (1 : Int32)), .val (.int (Own.eff n w (Own.mnW u v))), .unset, .unset, .unset, .unset, .unset]) rfl ?_
            show Steps p.tables e below (T32.setTop (mkF m 294 #[.val (.int p1), .val (.long q2), .second, .val (.long q3), .second, .val (.long q4), .second, .val (.int p5), .val (.int n), .val (.long w), .second, .val (.long u), .second, .val (.long v), .second, .val (.ref b8), .val (.int (Own.eff n w u)), .val (.int (1 : Int32)), .val (.int (Own.eff n w (Own.mnW u v))), .unset, .unset, .unset, .unset, .unset] [])) _
            refine XS.aload X32.here hx rfl (hb hby at_294) rfl rfl ?_
            show Steps p.tables e below (T32.setTop (mkF m 296 #[.val (.int p1), .val (.long q2), .second, .val (.long q3), .second, .val (.long q4), .second, .val (.int p5), .val (.int n), .val (.long w), .second, .val (.long u), .second, .val (.long v), .second, .val (.ref b8), .val (.int (Own.eff n w u)), .val (.int (1 : Int32)), .val (.int (Own.eff n w (Own.mnW u v))), .unset, .unset, .unset, .unset, .unset] [(.ref b8)])) _
            refine XS.lload X32.here hx rfl (hb hby at_296) rfl ?_
            show Steps p.tables e below (T32.setTop (mkF m 298 #[.val (.int p1), .val (.long q2), .second, .val (.long q3), .second, .val (.long q4), .second, .val (.int p5), .val (.int n), .val (.long w), .second, .val (.long u), .second, .val (.long v), .second, .val (.ref b8), .val (.int (Own.eff n w u)), .val (.int (1 : Int32)), .val (.int (Own.eff n w (Own.mnW u v))), .unset, .unset, .unset, .unset, .unset] [(.long u), (.ref b8)])) _
            refine XS.lload X32.here hx rfl (hb hby at_298) rfl ?_
            show Steps p.tables e below (T32.setTop (mkF m 300 #[.val (.int p1), .val (.long q2), .second, .val (.long q3), .second, .val (.long q4), .second, .val (.int p5), .val (.int n), .val (.long w), .second, .val (.long u), .second, .val (.long v), .second, .val (.ref b8), .val (.int (Own.eff n w u)), .val (.int (1 : Int32)), .val (.int (Own.eff n w (Own.mnW u v))), .unset, .unset, .unset, .unset, .unset] [(.long v), (.long u), (.ref b8)])) _
            refine st33 _ ?_
            show Steps p.tables e below (T33.setTop (mkF m 303 #[.val (.int p1), .val (.long q2), .second, .val (.long q3), .second, .val (.long q4), .second, .val (.int p5), .val (.int n), .val (.long w), .second, .val (.long u), .second, .val (.long v), .second, .val (.ref b8), .val (.int (Own.eff n w u)), .val (.int (1 : Int32)), .val (.int (Own.eff n w (Own.mnW u v))), .unset, .unset, .unset, .unset, .unset] [(.long (Own.mxW u v)), (.ref b8)])) _
            refine st34.trans ?_
            show Steps p.tables e below (T34.setTop (mkF m 306 #[.val (.int p1), .val (.long q2), .second, .val (.long q3), .second, .val (.long q4), .second, .val (.int p5), .val (.int n), .val (.long w), .second, .val (.long u), .second, .val (.long v), .second, .val (.ref b8), .val (.int (Own.eff n w u)), .val (.int (1 : Int32)), .val (.int (Own.eff n w (Own.mnW u v))), .unset, .unset, .unset, .unset, .unset] [(.int (Own.eff n w (Own.mxW u v)))])) _
            refine XS.istore X34.here hx rfl (hb hby at_306) rfl (l' := #[.val (.int p1), .val (.long q2), .second, .val (.long q3), .second, .val (.long q4), .second, .val (.int p5), .val (.int n), .val (.long w), .second, .val (.long u), .second, .val (.long v), .second, .val (.ref b8), .val (.int (Own.eff n w u)), .val (.int (1 : Int32)), .val (.int (Own.eff n w (Own.mnW u v))), .val (.int (Own.eff n w (Own.mxW u v))), .unset, .unset, .unset, .unset]) rfl ?_
            show Steps p.tables e below (T34.setTop (mkF m 308 #[.val (.int p1), .val (.long q2), .second, .val (.long q3), .second, .val (.long q4), .second, .val (.int p5), .val (.int n), .val (.long w), .second, .val (.long u), .second, .val (.long v), .second, .val (.ref b8), .val (.int (Own.eff n w u)), .val (.int (1 : Int32)), .val (.int (Own.eff n w (Own.mnW u v))), .val (.int (Own.eff n w (Own.mxW u v))), .unset, .unset, .unset, .unset] [])) _
            refine XS.iload X34.here hx rfl (hb hby at_308) rfl ?_
            show Steps p.tables e below (T34.setTop (mkF m 310 #[.val (.int p1), .val (.long q2), .second, .val (.long q3), .second, .val (.long q4), .second, .val (.int p5), .val (.int n), .val (.long w), .second, .val (.long u), .second, .val (.long v), .second, .val (.ref b8), .val (.int (Own.eff n w u)), .val (.int (1 : Int32)), .val (.int (Own.eff n w (Own.mnW u v))), .val (.int (Own.eff n w (Own.mxW u v))), .unset, .unset, .unset, .unset] [(.int (1 : Int32))])) _
            refine XS.ifNo X34.here hx rfl (hb hby at_310) rfl ((if0 _ _).trans (feq (by decide : ¬ ((1 : Int32) = (0 : Int32)))).1) ?_
            show Steps p.tables e below (T34.setTop (mkF m 313 #[.val (.int p1), .val (.long q2), .second, .val (.long q3), .second, .val (.long q4), .second, .val (.int p5), .val (.int n), .val (.long w), .second, .val (.long u), .second, .val (.long v), .second, .val (.ref b8), .val (.int (Own.eff n w u)), .val (.int (1 : Int32)), .val (.int (Own.eff n w (Own.mnW u v))), .val (.int (Own.eff n w (Own.mxW u v))), .unset, .unset, .unset, .unset] [])) _
            refine XS.iload X34.here hx rfl (hb hby at_313) rfl ?_
            show Steps p.tables e below (T34.setTop (mkF m 315 #[.val (.int p1), .val (.long q2), .second, .val (.long q3), .second, .val (.long q4), .second, .val (.int p5), .val (.int n), .val (.long w), .second, .val (.long u), .second, .val (.long v), .second, .val (.ref b8), .val (.int (Own.eff n w u)), .val (.int (1 : Int32)), .val (.int (Own.eff n w (Own.mnW u v))), .val (.int (Own.eff n w (Own.mxW u v))), .unset, .unset, .unset, .unset] [(.int (Own.eff n w (Own.mnW u v)))])) _
            refine XS.iload X34.here hx rfl (hb hby at_315) rfl ?_
            show Steps p.tables e below (T34.setTop (mkF m 317 #[.val (.int p1), .val (.long q2), .second, .val (.long q3), .second, .val (.long q4), .second, .val (.int p5), .val (.int n), .val (.long w), .second, .val (.long u), .second, .val (.long v), .second, .val (.ref b8), .val (.int (Own.eff n w u)), .val (.int (1 : Int32)), .val (.int (Own.eff n w (Own.mnW u v))), .val (.int (Own.eff n w (Own.mxW u v))), .unset, .unset, .unset, .unset] [(.int (Own.eff n w (Own.mxW u v))), (.int (Own.eff n w (Own.mnW u v)))])) _
            refine XS.icmpNo X34.here hx rfl (hb hby at_317) rfl (flt (show ¬ ((Own.eff n w (Own.mxW u v)) < (Own.eff n w (Own.mnW u v))) from Own.eff_mm hn0)).2.2.1 ?_
            show Steps p.tables e below (T34.setTop (mkF m 320 #[.val (.int p1), .val (.long q2), .second, .val (.long q3), .second, .val (.long q4), .second, .val (.int p5), .val (.int n), .val (.long w), .second, .val (.long u), .second, .val (.long v), .second, .val (.ref b8), .val (.int (Own.eff n w u)), .val (.int (1 : Int32)), .val (.int (Own.eff n w (Own.mnW u v))), .val (.int (Own.eff n w (Own.mxW u v))), .unset, .unset, .unset, .unset] [])) _
            refine XS.iconst X34.here hx rfl (hb hby at_320) ?_
            show Steps p.tables e below (T34.setTop (mkF m 321 #[.val (.int p1), .val (.long q2), .second, .val (.long q3), .second, .val (.long q4), .second, .val (.int p5), .val (.int n), .val (.long w), .second, .val (.long u), .second, .val (.long v), .second, .val (.ref b8), .val (.int (Own.eff n w u)), .val (.int (1 : Int32)), .val (.int (Own.eff n w (Own.mnW u v))), .val (.int (Own.eff n w (Own.mxW u v))), .unset, .unset, .unset, .unset] [(.int (1 : Int32))])) _
            refine XS.goto X34.here hx rfl (pc0 := 321) (pc' := 325) rfl (hb hby at_321) (by decide) (by decide) ?_
            show Steps p.tables e below (T34.setTop (mkF m 325 #[.val (.int p1), .val (.long q2), .second, .val (.long q3), .second, .val (.long q4), .second, .val (.int p5), .val (.int n), .val (.long w), .second, .val (.long u), .second, .val (.long v), .second, .val (.ref b8), .val (.int (Own.eff n w u)), .val (.int (1 : Int32)), .val (.int (Own.eff n w (Own.mnW u v))), .val (.int (Own.eff n w (Own.mxW u v))), .unset, .unset, .unset, .unset] [(.int (1 : Int32))])) _
            exact retN X34 hx (t := .boolean) Bd.returns (by simp) (hb hby at_325) hr
          · show Q_rm0 Z p1 q2 q3 q4 p5 h0 n0 _ T34.heap _
            exact ⟨rfl, N34⟩
        · have pre35 : ∀ t, Steps p.tables e below (T10.setTop (mkF m 217 #[.val (.int p1), .val (.long q2), .second, .val (.long q3), .second, .val (.long q4), .second, .val (.int p5), .val (.int n), .val (.long w), .second, .val (.long u), .second, .val (.long v), .second, .val (.ref b8), .val (.int (Own.eff n w u)), .val (.int (1 : Int32)), .unset, .unset, .unset, .unset, .unset, .unset] [])) t → Steps p.tables e below (s₁.setTop (entryFrame m #[(.int p1), (.long q2), (.long q3), (.long q4), (.int p5)] maxLocals)) t := fun t k => pre29 t (by
              show Steps p.tables e below (T10.setTop (mkF m 214 #[.val (.int p1), .val (.long q2), .second, .val (.long q3), .second, .val (.long q4), .second, .val (.int p5), .val (.int n), .val (.long w), .second, .val (.long u), .second, .val (.long v), .second, .val (.ref b8), .val (.int (Own.eff n w u)), .val (.int (1 : Int32)), .unset, .unset, .unset, .unset, .unset, .unset] [(.int (lcmpW w (4294967295 : Int64)))])) _
              refine XS.ifNo X10.here hx rfl (hb hby at_214) rfl ((if0 _ _).trans (flt hc214_30).2.2.1) ?_
              exact k)
          have hw2 := Own.w32 hc214_30
          have hwz : w ≠ 0 := Own.nz' (by omega)
          obtain ⟨_, _, ⟨T36, L36, k36, n36⟩, -, X36, ⟨Lc36, hQ36, l36, y36, z36⟩, st36⟩ := Jvm.LawKit.callS X10 hx (y := (⟨"java/lang/Math", "max", "(JJ)J"⟩ : MethodName)) hown (mvT hZ (hw _ (List.mem_of_getElem? (i := 29) rfl))) (mvT hZ (hw _ (List.mem_of_getElem? (i := 30) rfl))) (mvT hZ (hw _ (List.mem_of_getElem? (i := 27) rfl))) (mvT hZ (hw _ (List.mem_of_getElem? (i := 31) rfl))) (by decide) (backOf (W := 0) (rm6 l Z a0 hw [] (1 : Int64) (((u * (n.toInt64)) / w) - (1 : Int64)) T9.heap n0 z9_) hZ (hw _ (List.mem_of_getElem? (i := 31) rfl)) (hw _ (List.mem_of_getElem? (i := 27) rfl)) (by decide) (by decide)) (g := (mkF m 233 #[.val (.int p1), .val (.long q2), .second, .val (.long q3), .second, .val (.long q4), .second, .val (.int p5), .val (.int n), .val (.long w), .second, .val (.long u), .second, .val (.long v), .second, .val (.ref b8), .val (.int (Own.eff n w u)), .val (.int (1 : Int32)), .val (.long ((u * (n.toInt64)) / w)), .second, .unset, .unset, .unset, .unset] [(.long (((u * (n.toInt64)) / w) - (1 : Int64))), (.long (1 : Int64))])) rfl (by rw [hml]; rfl) (argsL := [(.long (1 : Int64)), (.long (((u * (n.toInt64)) / w) - (1 : Int64)))]) (rest := []) (lenOf pd_1 rfl) rfl (by show 2 * 0 + _ ≤ _; exact Nat.le_of_eq rfl) (hb hby at_233) (fun _ _ => ⟨rfl, e10, (by decide : 1 + 0 ≤ _), (by decide : 2 + 0 ≤ _)⟩)
          dsimp only [Pt.U, Pt.locs, Pt.cells, Pt.slots] at X36 l36 y36 z36 st36 hQ36
          subst l36 y36 z36
          obtain ⟨rfl, N36q, e36⟩ := hQ36
          have N36 := Fr.app N10 N36q
          obtain ⟨_, _, ⟨T37, L37, k37, n37⟩, -, X37, ⟨Lc37, hQ37, l37, y37, z37⟩, st37⟩ := Jvm.LawKit.callS X36 hx (y := (⟨"java/lang/Math", "min", "(JJ)J"⟩ : MethodName)) hown (mvT hZ (hw _ (List.mem_of_getElem? (i := 25) rfl))) (mvT hZ (hw _ (List.mem_of_getElem? (i := 26) rfl))) (mvT hZ (hw _ (List.mem_of_getElem? (i := 27) rfl))) (mvT hZ (hw _ (List.mem_of_getElem? (i := 28) rfl))) (by decide) (backOf (W := 0) (rm5 l Z a0 hw [] (n.toInt64) (((u * (n.toInt64)) / w) + (1 : Int64)) T9.heap n0 z9_) hZ (hw _ (List.mem_of_getElem? (i := 28) rfl)) (hw _ (List.mem_of_getElem? (i := 27) rfl)) (by decide) (by decide)) (g := (mkF m 245 #[.val (.int p1), .val (.long q2), .second, .val (.long q3), .second, .val (.long q4), .second, .val (.int p5), .val (.int n), .val (.long w), .second, .val (.long u), .second, .val (.long v), .second, .val (.ref b8), .val (.int (Own.eff n w u)), .val (.int (1 : Int32)), .val (.long ((u * (n.toInt64)) / w)), .second, .val (.long (Own.mxW (1 : Int64) (((u * (n.toInt64)) / w) - (1 : Int64)))), .second, .unset, .unset] [(.long (((u * (n.toInt64)) / w) + (1 : Int64))), (.long (n.toInt64))])) rfl (by rw [hml]; rfl) (argsL := [(.long (n.toInt64)), (.long (((u * (n.toInt64)) / w) + (1 : Int64)))]) (rest := []) (lenOf pd_1 rfl) rfl (by show 2 * 0 + _ ≤ _; exact Nat.le_of_eq rfl) (hb hby at_245) (fun _ _ => ⟨rfl, e36, (by decide : 1 + 0 ≤ _), (by decide : 2 + 0 ≤ _)⟩)
          dsimp only [Pt.U, Pt.locs, Pt.cells, Pt.slots] at X37 l37 y37 z37 st37 hQ37
          subst l37 y37 z37
          obtain ⟨rfl, N37q, e37⟩ := hQ37
          have N37 := Fr.app N36 N37q
          obtain ⟨_, _, ⟨T38, L38, k38, n38⟩, -, X38, ⟨Lc38, hQ38, l38, y38, z38⟩, st38⟩ := Jvm.LawKit.callS X37 hx (y := (⟨"java/lang/Math", "min", "(JJ)J"⟩ : MethodName)) hown (mvT hZ (hw _ (List.mem_of_getElem? (i := 25) rfl))) (mvT hZ (hw _ (List.mem_of_getElem? (i := 26) rfl))) (mvT hZ (hw _ (List.mem_of_getElem? (i := 27) rfl))) (mvT hZ (hw _ (List.mem_of_getElem? (i := 28) rfl))) (by decide) (backOf (W := 1) (rm5 l Z a0 hw [] u v T9.heap n0 z9_) hZ (hw _ (List.mem_of_getElem? (i := 28) rfl)) (hw _ (List.mem_of_getElem? (i := 27) rfl)) (by decide) (by decide)) (g := (mkF m 286 #[.val (.int p1), .val (.long q2), .second, .val (.long q3), .second, .val (.long q4), .second, .val (.int p5), .val (.int n), .val (.long w), .second, .val (.long u), .second, .val (.long v), .second, .val (.ref b8), .val (.int (Own.eff n w u)), .val (.int (1 : Int32)), .val (.long ((u * (n.toInt64)) / w)), .second, .val (.long (Own.mxW (1 : Int64) (((u * (n.toInt64)) / w) - (1 : Int64)))), .second, .val (.long (Own.mnW (n.toInt64) (((u * (n.toInt64)) / w) + (1 : Int64)))), .second] [(.long v), (.long u), (.ref b8)])) rfl (by rw [hml]; rfl) (argsL := [(.long u), (.long v)]) (rest := [(.ref b8)]) (lenOf pd_1 rfl) rfl (by show 2 * 0 + _ ≤ _; exact Nat.le_of_eq rfl) (hb hby at_286) (fun _ _ => ⟨rfl, e37, (by decide : 1 + 0 ≤ _), (by decide : 2 + 0 ≤ _)⟩)
          dsimp only [Pt.U, Pt.locs, Pt.cells, Pt.slots] at X38 l38 y38 z38 st38 hQ38
          subst l38 y38 z38
          obtain ⟨rfl, N38q, e38⟩ := hQ38
          have N38 := Fr.app N37 N38q
          obtain ⟨cq39, kq39, q39a, q39b, q39c⟩ := isOf hZ e38 E9a
          obtain ⟨_, _, ⟨T39, L39, k39, n39⟩, -, X39, ⟨Lc39, hQ39, l39, y39, z39⟩, st39⟩ := X38.virtualBack hx (y := (⟨"com/example/curtaincall/curtaincall/core/Weight", "effectiveAt", "(J)I"⟩ : MethodName)) (z := (⟨"com/example/curtaincall/curtaincall/core/Weight", "effectiveAt", "(J)I"⟩ : MethodName)) hown (mvT hZ (hw _ (List.mem_of_getElem? (i := 20) rfl))) (mvT hZ (hw _ (List.mem_of_getElem? (i := 21) rfl))) (notFace_of_selects (args := #[]) (mvT hZ (hw _ (List.mem_of_getElem? (i := 23) rfl)))) (mvT hZ (hw _ (List.mem_of_getElem? (i := 23) rfl))) (mvT hZ (hw _ (List.mem_of_getElem? (i := 22) rfl))) (by decide) (backOf (W := 0) (rm4 l Z a0 hw [] b8 (Own.mnW u v) n w T9.heap n0 z9_ F9f F9w hn0 hw0) hZ (hw _ (List.mem_of_getElem? (i := 24) rfl)) (hw _ (List.mem_of_getElem? (i := 4) rfl)) (by decide) (by decide)) q39a q39c (g := (mkF m 289 #[.val (.int p1), .val (.long q2), .second, .val (.long q3), .second, .val (.long q4), .second, .val (.int p5), .val (.int n), .val (.long w), .second, .val (.long u), .second, .val (.long v), .second, .val (.ref b8), .val (.int (Own.eff n w u)), .val (.int (1 : Int32)), .val (.long ((u * (n.toInt64)) / w)), .second, .val (.long (Own.mxW (1 : Int64) (((u * (n.toInt64)) / w) - (1 : Int64)))), .second, .val (.long (Own.mnW (n.toInt64) (((u * (n.toInt64)) / w) + (1 : Int64)))), .second] [(.long (Own.mnW u v)), (.ref b8)])) rfl (by rw [hml]; rfl) (Steps.refl _) (argsL := [(.long (Own.mnW u v))]) (rest := []) (lenOf pd_3 rfl) rfl (by show 2 * 0 + _ ≤ _; exact Nat.le_of_eq rfl) (hb hby at_289) (fun _ _ => ⟨rfl, e38, (by decide : 1 + 0 ≤ _), (by decide : 2 + 0 ≤ _)⟩)
          dsimp only [Pt.U, Pt.locs, Pt.cells, Pt.slots] at X39 l39 y39 z39 st39 hQ39
          subst l39 y39 z39
          obtain ⟨rfl, N39q, e39⟩ := hQ39
          have N39 := Fr.app N38 N39q
          obtain ⟨_, _, ⟨T40, L40, k40, n40⟩, -, X40, ⟨Lc40, hQ40, l40, y40, z40⟩, st40⟩ := Jvm.LawKit.callS X39 hx (y := (⟨"java/lang/Math", "max", "(JJ)J"⟩ : MethodName)) hown (mvT hZ (hw _ (List.mem_of_getElem? (i := 29) rfl))) (mvT hZ (hw _ (List.mem_of_getElem? (i := 30) rfl))) (mvT hZ (hw _ (List.mem_of_getElem? (i := 27) rfl))) (mvT hZ (hw _ (List.mem_of_getElem? (i := 31) rfl))) (by decide) (backOf (W := 1) (rm6 l Z a0 hw [] u v T9.heap n0 z9_) hZ (hw _ (List.mem_of_getElem? (i := 31) rfl)) (hw _ (List.mem_of_getElem? (i := 27) rfl)) (by decide) (by decide)) (g := (mkF m 300 #[.val (.int p1), .val (.long q2), .second, .val (.long q3), .second, .val (.long q4), .second, .val (.int p5), .val (.int n), .val (.long w), .second, .val (.long u), .second, .val (.long v), .second, .val (.ref b8), .val (.int (Own.eff n w u)), .val (.int (1 : Int32)), .val (.int (Own.eff n w (Own.mnW u v))), .unset, .val (.long (Own.mxW (1 : Int64) (((u * (n.toInt64)) / w) - (1 : Int64)))), .second, .val (.long (Own.mnW (n.toInt64) (((u * (n.toInt64)) / w) + (1 : Int64)))), .second] [(.long v), (.long u), (.ref b8)])) rfl (by rw [hml]; rfl) (argsL := [(.long u), (.long v)]) (rest := [(.ref b8)]) (lenOf pd_1 rfl) rfl (by show 2 * 0 + _ ≤ _; exact Nat.le_of_eq rfl) (hb hby at_300) (fun _ _ => ⟨rfl, e39, (by decide : 1 + 0 ≤ _), (by decide : 2 + 0 ≤ _)⟩)
          dsimp only [Pt.U, Pt.locs, Pt.cells, Pt.slots] at X40 l40 y40 z40 st40 hQ40
          subst l40 y40 z40
          obtain ⟨rfl, N40q, e40⟩ := hQ40
          have N40 := Fr.app N39 N40q
          obtain ⟨cq41, kq41, q41a, q41b, q41c⟩ := isOf hZ e40 E9a
          obtain ⟨_, _, ⟨T41, L41, k41, n41⟩, -, X41, ⟨Lc41, hQ41, l41, y41, z41⟩, st41⟩ := X40.virtualBack hx (y := (⟨"com/example/curtaincall/curtaincall/core/Weight", "effectiveAt", "(J)I"⟩ : MethodName)) (z := (⟨"com/example/curtaincall/curtaincall/core/Weight", "effectiveAt", "(J)I"⟩ : MethodName)) hown (mvT hZ (hw _ (List.mem_of_getElem? (i := 20) rfl))) (mvT hZ (hw _ (List.mem_of_getElem? (i := 21) rfl))) (notFace_of_selects (args := #[]) (mvT hZ (hw _ (List.mem_of_getElem? (i := 23) rfl)))) (mvT hZ (hw _ (List.mem_of_getElem? (i := 23) rfl))) (mvT hZ (hw _ (List.mem_of_getElem? (i := 22) rfl))) (by decide) (backOf (W := 0) (rm4 l Z a0 hw [] b8 (Own.mxW u v) n w T9.heap n0 z9_ F9f F9w hn0 hw0) hZ (hw _ (List.mem_of_getElem? (i := 24) rfl)) (hw _ (List.mem_of_getElem? (i := 4) rfl)) (by decide) (by decide)) q41a q41c (g := (mkF m 303 #[.val (.int p1), .val (.long q2), .second, .val (.long q3), .second, .val (.long q4), .second, .val (.int p5), .val (.int n), .val (.long w), .second, .val (.long u), .second, .val (.long v), .second, .val (.ref b8), .val (.int (Own.eff n w u)), .val (.int (1 : Int32)), .val (.int (Own.eff n w (Own.mnW u v))), .unset, .val (.long (Own.mxW (1 : Int64) (((u * (n.toInt64)) / w) - (1 : Int64)))), .second, .val (.long (Own.mnW (n.toInt64) (((u * (n.toInt64)) / w) + (1 : Int64)))), .second] [(.long (Own.mxW u v)), (.ref b8)])) rfl (by rw [hml]; rfl) (Steps.refl _) (argsL := [(.long (Own.mxW u v))]) (rest := []) (lenOf pd_3 rfl) rfl (by show 2 * 0 + _ ≤ _; exact Nat.le_of_eq rfl) (hb hby at_303) (fun _ _ => ⟨rfl, e40, (by decide : 1 + 0 ≤ _), (by decide : 2 + 0 ≤ _)⟩)
          dsimp only [Pt.U, Pt.locs, Pt.cells, Pt.slots] at X41 l41 y41 z41 st41 hQ41
          subst l41 y41 z41
          obtain ⟨rfl, N41q, e41⟩ := hQ41
          have N41 := Fr.app N40 N41q
          obtain ⟨fs, hr, hrun, hended, hW, hsame⟩ := X41.leave (v := some (.int (1 : Int32))) (fun h => by rw [Bd.returns] at h; cases h)
          refine ⟨_, _, pre35 _ ?_, hrun, hended, _, _, rfl, ?_, ⟨_, rfl⟩, hW, hsame.mono (by decide) (by decide)⟩
          · show Steps p.tables e below (T10.setTop (mkF m 217 #[.val (.int p1), .val (.long q2), .second, .val (.long q3), .second, .val (.long q4), .second, .val (.int p5), .val (.int n), .val (.long w), .second, .val (.long u), .second, .val (.long v), .second, .val (.ref b8), .val (.int (Own.eff n w u)), .val (.int (1 : Int32)), .unset, .unset, .unset, .unset, .unset, .unset] [])) _
            refine XS.lload X10.here hx rfl (hb hby at_217) rfl ?_
            show Steps p.tables e below (T10.setTop (mkF m 219 #[.val (.int p1), .val (.long q2), .second, .val (.long q3), .second, .val (.long q4), .second, .val (.int p5), .val (.int n), .val (.long w), .second, .val (.long u), .second, .val (.long v), .second, .val (.ref b8), .val (.int (Own.eff n w u)), .val (.int (1 : Int32)), .unset, .unset, .unset, .unset, .unset, .unset] [(.long u)])) _
            refine XS.iload X10.here hx rfl (hb hby at_219) rfl ?_
            show Steps p.tables e below (T10.setTop (mkF m 221 #[.val (.int p1), .val (.long q2), .second, .val (.long q3), .second, .val (.long q4), .second, .val (.int p5), .val (.int n), .val (.long w), .second, .val (.long u), .second, .val (.long v), .second, .val (.ref b8), .val (.int (Own.eff n w u)), .val (.int (1 : Int32)), .unset, .unset, .unset, .unset, .unset, .unset] [(.int n), (.long u)])) _
            refine XS.i2l X10.here hx rfl (hb hby at_221) rfl ?_
            show Steps p.tables e below (T10.setTop (mkF m 222 #[.val (.int p1), .val (.long q2), .second, .val (.long q3), .second, .val (.long q4), .second, .val (.int p5), .val (.int n), .val (.long w), .second, .val (.long u), .second, .val (.long v), .second, .val (.ref b8), .val (.int (Own.eff n w u)), .val (.int (1 : Int32)), .unset, .unset, .unset, .unset, .unset, .unset] [(.long (n.toInt64)), (.long u)])) _
            refine XS.lmul X10.here hx rfl (hb hby at_222) rfl ?_
            show Steps p.tables e below (T10.setTop (mkF m 223 #[.val (.int p1), .val (.long q2), .second, .val (.long q3), .second, .val (.long q4), .second, .val (.int p5), .val (.int n), .val (.long w), .second, .val (.long u), .second, .val (.long v), .second, .val (.ref b8), .val (.int (Own.eff n w u)), .val (.int (1 : Int32)), .unset, .unset, .unset, .unset, .unset, .unset] [(.long (u * (n.toInt64)))])) _
            refine XS.lload X10.here hx rfl (hb hby at_223) rfl ?_
            show Steps p.tables e below (T10.setTop (mkF m 225 #[.val (.int p1), .val (.long q2), .second, .val (.long q3), .second, .val (.long q4), .second, .val (.int p5), .val (.int n), .val (.long w), .second, .val (.long u), .second, .val (.long v), .second, .val (.ref b8), .val (.int (Own.eff n w u)), .val (.int (1 : Int32)), .unset, .unset, .unset, .unset, .unset, .unset] [(.long w), (.long (u * (n.toInt64)))])) _
            refine XS.ldiv X10.here hx rfl (hb hby at_225) rfl hwz ?_
            show Steps p.tables e below (T10.setTop (mkF m 226 #[.val (.int p1), .val (.long q2), .second, .val (.long q3), .second, .val (.long q4), .second, .val (.int p5), .val (.int n), .val (.long w), .second, .val (.long u), .second, .val (.long v), .second, .val (.ref b8), .val (.int (Own.eff n w u)), .val (.int (1 : Int32)), .unset, .unset, .unset, .unset, .unset, .unset] [(.long ((u * (n.toInt64)) / w))])) _
            refine XS.lstore X10.here hx rfl (hb hby at_226) rfl (l' := #[.val (.int p1), .val (.long q2), .second, .val (.long q3), .second, .val (.long q4), .second, .val (.int p5), .val (.int n), .val (.long w), .second, .val (.long u), .second, .val (.long v), .second, .val (.ref b8), .val (.int (Own.eff n w u)), .val (.int (1 : Int32)), .val (.long ((u * (n.toInt64)) / w)), .second, .unset, .unset, .unset, .unset]) rfl ?_
            show Steps p.tables e below (T10.setTop (mkF m 228 #[.val (.int p1), .val (.long q2), .second, .val (.long q3), .second, .val (.long q4), .second, .val (.int p5), .val (.int n), .val (.long w), .second, .val (.long u), .second, .val (.long v), .second, .val (.ref b8), .val (.int (Own.eff n w u)), .val (.int (1 : Int32)), .val (.long ((u * (n.toInt64)) / w)), .second, .unset, .unset, .unset, .unset] [])) _
            refine XS.lconst X10.here hx rfl (hb hby at_228) ?_
            show Steps p.tables e below (T10.setTop (mkF m 229 #[.val (.int p1), .val (.long q2), .second, .val (.long q3), .second, .val (.long q4), .second, .val (.int p5), .val (.int n), .val (.long w), .second, .val (.long u), .second, .val (.long v), .second, .val (.ref b8), .val (.int (Own.eff n w u)), .val (.int (1 : Int32)), .val (.long ((u * (n.toInt64)) / w)), .second, .unset, .unset, .unset, .unset] [(.long (1 : Int64))])) _
            refine XS.lload X10.here hx rfl (hb hby at_229) rfl ?_
            show Steps p.tables e below (T10.setTop (mkF m 231 #[.val (.int p1), .val (.long q2), .second, .val (.long q3), .second, .val (.long q4), .second, .val (.int p5), .val (.int n), .val (.long w), .second, .val (.long u), .second, .val (.long v), .second, .val (.ref b8), .val (.int (Own.eff n w u)), .val (.int (1 : Int32)), .val (.long ((u * (n.toInt64)) / w)), .second, .unset, .unset, .unset, .unset] [(.long ((u * (n.toInt64)) / w)), (.long (1 : Int64))])) _
            refine XS.lconst X10.here hx rfl (hb hby at_231) ?_
            show Steps p.tables e below (T10.setTop (mkF m 232 #[.val (.int p1), .val (.long q2), .second, .val (.long q3), .second, .val (.long q4), .second, .val (.int p5), .val (.int n), .val (.long w), .second, .val (.long u), .second, .val (.long v), .second, .val (.ref b8), .val (.int (Own.eff n w u)), .val (.int (1 : Int32)), .val (.long ((u * (n.toInt64)) / w)), .second, .unset, .unset, .unset, .unset] [(.long (1 : Int64)), (.long ((u * (n.toInt64)) / w)), (.long (1 : Int64))])) _
            refine XS.lsub X10.here hx rfl (hb hby at_232) rfl ?_
            show Steps p.tables e below (T10.setTop (mkF m 233 #[.val (.int p1), .val (.long q2), .second, .val (.long q3), .second, .val (.long q4), .second, .val (.int p5), .val (.int n), .val (.long w), .second, .val (.long u), .second, .val (.long v), .second, .val (.ref b8), .val (.int (Own.eff n w u)), .val (.int (1 : Int32)), .val (.long ((u * (n.toInt64)) / w)), .second, .unset, .unset, .unset, .unset] [(.long (((u * (n.toInt64)) / w) - (1 : Int64))), (.long (1 : Int64))])) _
            refine st36 _ ?_
            show Steps p.tables e below (T36.setTop (mkF m 236 #[.val (.int p1), .val (.long q2), .second, .val (.long q3), .second, .val (.long q4), .second, .val (.int p5), .val (.int n), .val (.long w), .second, .val (.long u), .second, .val (.long v), .second, .val (.ref b8), .val (.int (Own.eff n w u)), .val (.int (1 : Int32)), .val (.long ((u * (n.toInt64)) / w)), .second, .unset, .unset, .unset, .unset] [(.long (Own.mxW (1 : Int64) (((u * (n.toInt64)) / w) - (1 : Int64))))])) _
            refine XS.lstore X36.here hx rfl (hb hby at_236) rfl (l' := #[.val (.int p1), .val (.long q2), .second, .val (.long q3), .second, .val (.long q4), .second, .val (.int p5), .val (.int n), .val (.long w), .second, .val (.long u), .second, .val (.long v), .second, .val (.ref b8), .val (.int (Own.eff n w u)), .val (.int (1 : Int32)), .val (.long ((u * (n.toInt64)) / w)), .second, .val (.long (Own.mxW (1 : Int64) (((u * (n.toInt64)) / w) - (1 : Int64)))), .second, .unset, .unset]) rfl ?_
            show Steps p.tables e below (T36.setTop (mkF m 238 #[.val (.int p1), .val (.long q2), .second, .val (.long q3), .second, .val (.long q4), .second, .val (.int p5), .val (.int n), .val (.long w), .second, .val (.long u), .second, .val (.long v), .second, .val (.ref b8), .val (.int (Own.eff n w u)), .val (.int (1 : Int32)), .val (.long ((u * (n.toInt64)) / w)), .second, .val (.long (Own.mxW (1 : Int64) (((u * (n.toInt64)) / w) - (1 : Int64)))), .second, .unset, .unset] [])) _
            refine XS.iload X36.here hx rfl (hb hby at_238) rfl ?_
            show Steps p.tables e below (T36.setTop (mkF m 240 #[.val (.int p1), .val (.long q2), .second, .val (.long q3), .second, .val (.long q4), .second, .val (.int p5), .val (.int n), .val (.long w), .second, .val (.long u), .second, .val (.long v), .second, .val (.ref b8), .val (.int (Own.eff n w u)), .val (.int (1 : Int32)), .val (.long ((u * (n.toInt64)) / w)), .second, .val (.long (Own.mxW (1 : Int64) (((u * (n.toInt64)) / w) - (1 : Int64)))), .second, .unset, .unset] [(.int n)])) _
            refine XS.i2l X36.here hx rfl (hb hby at_240) rfl ?_
            show Steps p.tables e below (T36.setTop (mkF m 241 #[.val (.int p1), .val (.long q2), .second, .val (.long q3), .second, .val (.long q4), .second, .val (.int p5), .val (.int n), .val (.long w), .second, .val (.long u), .second, .val (.long v), .second, .val (.ref b8), .val (.int (Own.eff n w u)), .val (.int (1 : Int32)), .val (.long ((u * (n.toInt64)) / w)), .second, .val (.long (Own.mxW (1 : Int64) (((u * (n.toInt64)) / w) - (1 : Int64)))), .second, .unset, .unset] [(.long (n.toInt64))])) _
            refine XS.lload X36.here hx rfl (hb hby at_241) rfl ?_
            show Steps p.tables e below (T36.setTop (mkF m 243 #[.val (.int p1), .val (.long q2), .second, .val (.long q3), .second, .val (.long q4), .second, .val (.int p5), .val (.int n), .val (.long w), .second, .val (.long u), .second, .val (.long v), .second, .val (.ref b8), .val (.int (Own.eff n w u)), .val (.int (1 : Int32)), .val (.long ((u * (n.toInt64)) / w)), .second, .val (.long (Own.mxW (1 : Int64) (((u * (n.toInt64)) / w) - (1 : Int64)))), .second, .unset, .unset] [(.long ((u * (n.toInt64)) / w)), (.long (n.toInt64))])) _
            refine XS.lconst X36.here hx rfl (hb hby at_243) ?_
            show Steps p.tables e below (T36.setTop (mkF m 244 #[.val (.int p1), .val (.long q2), .second, .val (.long q3), .second, .val (.long q4), .second, .val (.int p5), .val (.int n), .val (.long w), .second, .val (.long u), .second, .val (.long v), .second, .val (.ref b8), .val (.int (Own.eff n w u)), .val (.int (1 : Int32)), .val (.long ((u * (n.toInt64)) / w)), .second, .val (.long (Own.mxW (1 : Int64) (((u * (n.toInt64)) / w) - (1 : Int64)))), .second, .unset, .unset] [(.long (1 : Int64)), (.long ((u * (n.toInt64)) / w)), (.long (n.toInt64))])) _
            refine XS.ladd X36.here hx rfl (hb hby at_244) rfl ?_
            show Steps p.tables e below (T36.setTop (mkF m 245 #[.val (.int p1), .val (.long q2), .second, .val (.long q3), .second, .val (.long q4), .second, .val (.int p5), .val (.int n), .val (.long w), .second, .val (.long u), .second, .val (.long v), .second, .val (.ref b8), .val (.int (Own.eff n w u)), .val (.int (1 : Int32)), .val (.long ((u * (n.toInt64)) / w)), .second, .val (.long (Own.mxW (1 : Int64) (((u * (n.toInt64)) / w) - (1 : Int64)))), .second, .unset, .unset] [(.long (((u * (n.toInt64)) / w) + (1 : Int64))), (.long (n.toInt64))])) _
            refine st37 _ ?_
            show Steps p.tables e below (T37.setTop (mkF m 248 #[.val (.int p1), .val (.long q2), .second, .val (.long q3), .second, .val (.long q4), .second, .val (.int p5), .val (.int n), .val (.long w), .second, .val (.long u), .second, .val (.long v), .second, .val (.ref b8), .val (.int (Own.eff n w u)), .val (.int (1 : Int32)), .val (.long ((u * (n.toInt64)) / w)), .second, .val (.long (Own.mxW (1 : Int64) (((u * (n.toInt64)) / w) - (1 : Int64)))), .second, .unset, .unset] [(.long (Own.mnW (n.toInt64) (((u * (n.toInt64)) / w) + (1 : Int64))))])) _
            refine XS.lstore X37.here hx rfl (hb hby at_248) rfl (l' := #[.val (.int p1), .val (.long q2), .second, .val (.long q3), .second, .val (.long q4), .second, .val (.int p5), .val (.int n), .val (.long w), .second, .val (.long u), .second, .val (.long v), .second, .val (.ref b8), .val (.int (Own.eff n w u)), .val (.int (1 : Int32)), .val (.long ((u * (n.toInt64)) / w)), .second, .val (.long (Own.mxW (1 : Int64) (((u * (n.toInt64)) / w) - (1 : Int64)))), .second, .val (.long (Own.mnW (n.toInt64) (((u * (n.toInt64)) / w) + (1 : Int64)))), .second]) rfl ?_
            show Steps p.tables e below (T37.setTop (mkF m 250 #[.val (.int p1), .val (.long q2), .second, .val (.long q3), .second, .val (.long q4), .second, .val (.int p5), .val (.int n), .val (.long w), .second, .val (.long u), .second, .val (.long v), .second, .val (.ref b8), .val (.int (Own.eff n w u)), .val (.int (1 : Int32)), .val (.long ((u * (n.toInt64)) / w)), .second, .val (.long (Own.mxW (1 : Int64) (((u * (n.toInt64)) / w) - (1 : Int64)))), .second, .val (.long (Own.mnW (n.toInt64) (((u * (n.toInt64)) / w) + (1 : Int64)))), .second] [])) _
            refine XS.iload X37.here hx rfl (hb hby at_250) rfl ?_
            show Steps p.tables e below (T37.setTop (mkF m 252 #[.val (.int p1), .val (.long q2), .second, .val (.long q3), .second, .val (.long q4), .second, .val (.int p5), .val (.int n), .val (.long w), .second, .val (.long u), .second, .val (.long v), .second, .val (.ref b8), .val (.int (Own.eff n w u)), .val (.int (1 : Int32)), .val (.long ((u * (n.toInt64)) / w)), .second, .val (.long (Own.mxW (1 : Int64) (((u * (n.toInt64)) / w) - (1 : Int64)))), .second, .val (.long (Own.mnW (n.toInt64) (((u * (n.toInt64)) / w) + (1 : Int64)))), .second] [(.int (1 : Int32))])) _
            refine XS.ifNo X37.here hx rfl (hb hby at_252) rfl ((if0 _ _).trans (feq (by decide : ¬ ((1 : Int32) = (0 : Int32)))).1) ?_
            show Steps p.tables e below (T37.setTop (mkF m 255 #[.val (.int p1), .val (.long q2), .second, .val (.long q3), .second, .val (.long q4), .second, .val (.int p5), .val (.int n), .val (.long w), .second, .val (.long u), .second, .val (.long v), .second, .val (.ref b8), .val (.int (Own.eff n w u)), .val (.int (1 : Int32)), .val (.long ((u * (n.toInt64)) / w)), .second, .val (.long (Own.mxW (1 : Int64) (((u * (n.toInt64)) / w) - (1 : Int64)))), .second, .val (.long (Own.mnW (n.toInt64) (((u * (n.toInt64)) / w) + (1 : Int64)))), .second] [])) _
            refine XS.iload X37.here hx rfl (hb hby at_255) rfl ?_
            show Steps p.tables e below (T37.setTop (mkF m 257 #[.val (.int p1), .val (.long q2), .second, .val (.long q3), .second, .val (.long q4), .second, .val (.int p5), .val (.int n), .val (.long w), .second, .val (.long u), .second, .val (.long v), .second, .val (.ref b8), .val (.int (Own.eff n w u)), .val (.int (1 : Int32)), .val (.long ((u * (n.toInt64)) / w)), .second, .val (.long (Own.mxW (1 : Int64) (((u * (n.toInt64)) / w) - (1 : Int64)))), .second, .val (.long (Own.mnW (n.toInt64) (((u * (n.toInt64)) / w) + (1 : Int64)))), .second] [(.int (Own.eff n w u))])) _
            refine XS.i2l X37.here hx rfl (hb hby at_257) rfl ?_
            show Steps p.tables e below (T37.setTop (mkF m 258 #[.val (.int p1), .val (.long q2), .second, .val (.long q3), .second, .val (.long q4), .second, .val (.int p5), .val (.int n), .val (.long w), .second, .val (.long u), .second, .val (.long v), .second, .val (.ref b8), .val (.int (Own.eff n w u)), .val (.int (1 : Int32)), .val (.long ((u * (n.toInt64)) / w)), .second, .val (.long (Own.mxW (1 : Int64) (((u * (n.toInt64)) / w) - (1 : Int64)))), .second, .val (.long (Own.mnW (n.toInt64) (((u * (n.toInt64)) / w) + (1 : Int64)))), .second] [(.long ((Own.eff n w u).toInt64))])) _
            refine XS.lload X37.here hx rfl (hb hby at_258) rfl ?_
            show Steps p.tables e below (T37.setTop (mkF m 260 #[.val (.int p1), .val (.long q2), .second, .val (.long q3), .second, .val (.long q4), .second, .val (.int p5), .val (.int n), .val (.long w), .second, .val (.long u), .second, .val (.long v), .second, .val (.ref b8), .val (.int (Own.eff n w u)), .val (.int (1 : Int32)), .val (.long ((u * (n.toInt64)) / w)), .second, .val (.long (Own.mxW (1 : Int64) (((u * (n.toInt64)) / w) - (1 : Int64)))), .second, .val (.long (Own.mnW (n.toInt64) (((u * (n.toInt64)) / w) + (1 : Int64)))), .second] [(.long (Own.mxW (1 : Int64) (((u * (n.toInt64)) / w) - (1 : Int64)))), (.long ((Own.eff n w u).toInt64))])) _
            refine XS.lcmp X37.here hx rfl (hb hby at_260) rfl ?_
            show Steps p.tables e below (T37.setTop (mkF m 261 #[.val (.int p1), .val (.long q2), .second, .val (.long q3), .second, .val (.long q4), .second, .val (.int p5), .val (.int n), .val (.long w), .second, .val (.long u), .second, .val (.long v), .second, .val (.ref b8), .val (.int (Own.eff n w u)), .val (.int (1 : Int32)), .val (.long ((u * (n.toInt64)) / w)), .second, .val (.long (Own.mxW (1 : Int64) (((u * (n.toInt64)) / w) - (1 : Int64)))), .second, .val (.long (Own.mnW (n.toInt64) (((u * (n.toInt64)) / w) + (1 : Int64)))), .second] [(.int (lcmpW ((Own.eff n w u).toInt64) (Own.mxW (1 : Int64) (((u * (n.toInt64)) / w) - (1 : Int64)))))])) _
            refine XS.ifNo X37.here hx rfl (hb hby at_261) rfl ((if0 _ _).trans (flt (show ¬ ((lcmpW ((Own.eff n w u).toInt64) (Own.mxW (1 : Int64) (((u * (n.toInt64)) / w) - (1 : Int64)))) < (0 : Int32)) from Own.law_lo hn1 hw2 hu0 hin)).1) ?_
            show Steps p.tables e below (T37.setTop (mkF m 264 #[.val (.int p1), .val (.long q2), .second, .val (.long q3), .second, .val (.long q4), .second, .val (.int p5), .val (.int n), .val (.long w), .second, .val (.long u), .second, .val (.long v), .second, .val (.ref b8), .val (.int (Own.eff n w u)), .val (.int (1 : Int32)), .val (.long ((u * (n.toInt64)) / w)), .second, .val (.long (Own.mxW (1 : Int64) (((u * (n.toInt64)) / w) - (1 : Int64)))), .second, .val (.long (Own.mnW (n.toInt64) (((u * (n.toInt64)) / w) + (1 : Int64)))), .second] [])) _
            refine XS.iload X37.here hx rfl (hb hby at_264) rfl ?_
            show Steps p.tables e below (T37.setTop (mkF m 266 #[.val (.int p1), .val (.long q2), .second, .val (.long q3), .second, .val (.long q4), .second, .val (.int p5), .val (.int n), .val (.long w), .second, .val (.long u), .second, .val (.long v), .second, .val (.ref b8), .val (.int (Own.eff n w u)), .val (.int (1 : Int32)), .val (.long ((u * (n.toInt64)) / w)), .second, .val (.long (Own.mxW (1 : Int64) (((u * (n.toInt64)) / w) - (1 : Int64)))), .second, .val (.long (Own.mnW (n.toInt64) (((u * (n.toInt64)) / w) + (1 : Int64)))), .second] [(.int (Own.eff n w u))])) _
            refine XS.i2l X37.here hx rfl (hb hby at_266) rfl ?_
            show Steps p.tables e below (T37.setTop (mkF m 267 #[.val (.int p1), .val (.long q2), .second, .val (.long q3), .second, .val (.long q4), .second, .val (.int p5), .val (.int n), .val (.long w), .second, .val (.long u), .second, .val (.long v), .second, .val (.ref b8), .val (.int (Own.eff n w u)), .val (.int (1 : Int32)), .val (.long ((u * (n.toInt64)) / w)), .second, .val (.long (Own.mxW (1 : Int64) (((u * (n.toInt64)) / w) - (1 : Int64)))), .second, .val (.long (Own.mnW (n.toInt64) (((u * (n.toInt64)) / w) + (1 : Int64)))), .second] [(.long ((Own.eff n w u).toInt64))])) _
            refine XS.lload X37.here hx rfl (hb hby at_267) rfl ?_
            show Steps p.tables e below (T37.setTop (mkF m 269 #[.val (.int p1), .val (.long q2), .second, .val (.long q3), .second, .val (.long q4), .second, .val (.int p5), .val (.int n), .val (.long w), .second, .val (.long u), .second, .val (.long v), .second, .val (.ref b8), .val (.int (Own.eff n w u)), .val (.int (1 : Int32)), .val (.long ((u * (n.toInt64)) / w)), .second, .val (.long (Own.mxW (1 : Int64) (((u * (n.toInt64)) / w) - (1 : Int64)))), .second, .val (.long (Own.mnW (n.toInt64) (((u * (n.toInt64)) / w) + (1 : Int64)))), .second] [(.long (Own.mnW (n.toInt64) (((u * (n.toInt64)) / w) + (1 : Int64)))), (.long ((Own.eff n w u).toInt64))])) _
            refine XS.lcmp X37.here hx rfl (hb hby at_269) rfl ?_
            show Steps p.tables e below (T37.setTop (mkF m 270 #[.val (.int p1), .val (.long q2), .second, .val (.long q3), .second, .val (.long q4), .second, .val (.int p5), .val (.int n), .val (.long w), .second, .val (.long u), .second, .val (.long v), .second, .val (.ref b8), .val (.int (Own.eff n w u)), .val (.int (1 : Int32)), .val (.long ((u * (n.toInt64)) / w)), .second, .val (.long (Own.mxW (1 : Int64) (((u * (n.toInt64)) / w) - (1 : Int64)))), .second, .val (.long (Own.mnW (n.toInt64) (((u * (n.toInt64)) / w) + (1 : Int64)))), .second] [(.int (lcmpW ((Own.eff n w u).toInt64) (Own.mnW (n.toInt64) (((u * (n.toInt64)) / w) + (1 : Int64)))))])) _
            refine XS.ifNo X37.here hx rfl (hb hby at_270) rfl ((if0 _ _).trans (flt (show ¬ ((0 : Int32) < (lcmpW ((Own.eff n w u).toInt64) (Own.mnW (n.toInt64) (((u * (n.toInt64)) / w) + (1 : Int64))))) from Own.law_hi hn1 hw2 hu0 hin)).2.2.1) ?_
            show Steps p.tables e below (T37.setTop (mkF m 273 #[.val (.int p1), .val (.long q2), .second, .val (.long q3), .second, .val (.long q4), .second, .val (.int p5), .val (.int n), .val (.long w), .second, .val (.long u), .second, .val (.long v), .second, .val (.ref b8), .val (.int (Own.eff n w u)), .val (.int (1 : Int32)), .val (.long ((u * (n.toInt64)) / w)), .second, .val (.long (Own.mxW (1 : Int64) (((u * (n.toInt64)) / w) - (1 : Int64)))), .second, .val (.long (Own.mnW (n.toInt64) (((u * (n.toInt64)) / w) + (1 : Int64)))), .second] [])) _
            refine XS.iconst X37.here hx rfl (hb hby at_273) ?_
            show Steps p.tables e below (T37.setTop (mkF m 274 #[.val (.int p1), .val (.long q2), .second, .val (.long q3), .second, .val (.long q4), .second, .val (.int p5), .val (.int n), .val (.long w), .second, .val (.long u), .second, .val (.long v), .second, .val (.ref b8), .val (.int (Own.eff n w u)), .val (.int (1 : Int32)), .val (.long ((u * (n.toInt64)) / w)), .second, .val (.long (Own.mxW (1 : Int64) (((u * (n.toInt64)) / w) - (1 : Int64)))), .second, .val (.long (Own.mnW (n.toInt64) (((u * (n.toInt64)) / w) + (1 : Int64)))), .second] [(.int (1 : Int32))])) _
            refine XS.goto X37.here hx rfl (pc0 := 274) (pc' := 278) rfl (hb hby at_274) (by decide) (by decide) ?_
            show Steps p.tables e below (T37.setTop (mkF m 278 #[.val (.int p1), .val (.long q2), .second, .val (.long q3), .second, .val (.long q4), .second, .val (.int p5), .val (.int n), .val (.long w), .second, .val (.long u), .second, .val (.long v), .second, .val (.ref b8), .val (.int (Own.eff n w u)), .val (.int (1 : Int32)), .val (.long ((u * (n.toInt64)) / w)), .second, .val (.long (Own.mxW (1 : Int64) (((u * (n.toInt64)) / w) - (1 : Int64)))), .second, .val (.long (Own.mnW (n.toInt64) (((u * (n.toInt64)) / w) + (1 : Int64)))), .second] [(.int (1 : Int32))])) _
            refine XS.istore X37.here hx rfl (hb hby at_278) rfl (l' := #[.val (.int p1), .val (.long q2), .second, .val (.long q3), .second, .val (.long q4), .second, .val (.int p5), .val (.int n), .val (.long w), .second, .val (.long u), .second, .val (.long v), .second, .val (.ref b8), .val (.int (Own.eff n w u)), .val (.int (1 : Int32)), .val (.long ((u * (n.toInt64)) / w)), .second, .val (.long (Own.mxW (1 : Int64) (((u * (n.toInt64)) / w) - (1 : Int64)))), .second, .val (.long (Own.mnW (n.toInt64) (((u * (n.toInt64)) / w) + (1 : Int64)))), .second]) rfl ?_
            show Steps p.tables e below (T37.setTop (mkF m 280 #[.val (.int p1), .val (.long q2), .second, .val (.long q3), .second, .val (.long q4), .second, .val (.int p5), .val (.int n), .val (.long w), .second, .val (.long u), .second, .val (.long v), .second, .val (.ref b8), .val (.int (Own.eff n w u)), .val (.int (1 : Int32)), .val (.long ((u * (n.toInt64)) / w)), .second, .val (.long (Own.mxW (1 : Int64) (((u * (n.toInt64)) / w) - (1 : Int64)))), .second, .val (.long (Own.mnW (n.toInt64) (((u * (n.toInt64)) / w) + (1 : Int64)))), .second] [])) _
            refine XS.aload X37.here hx rfl (hb hby at_280) rfl rfl ?_
            show Steps p.tables e below (T37.setTop (mkF m 282 #[.val (.int p1), .val (.long q2), .second, .val (.long q3), .second, .val (.long q4), .second, .val (.int p5), .val (.int n), .val (.long w), .second, .val (.long u), .second, .val (.long v), .second, .val (.ref b8), .val (.int (Own.eff n w u)), .val (.int (1 : Int32)), .val (.long ((u * (n.toInt64)) / w)), .second, .val (.long (Own.mxW (1 : Int64) (((u * (n.toInt64)) / w) - (1 : Int64)))), .second, .val (.long (Own.mnW (n.toInt64) (((u * (n.toInt64)) / w) + (1 : Int64)))), .second] [(.ref b8)])) _
            refine XS.lload X37.here hx rfl (hb hby at_282) rfl ?_
            show Steps p.tables e below (T37.setTop (mkF m 284 #[.val (.int p1), .val (.long q2), .second, .val (.long q3), .second, .val (.long q4), .second, .val (.int p5), .val (.int n), .val (.long w), .second, .val (.long u), .second, .val (.long v), .second, .val (.ref b8), .val (.int (Own.eff n w u)), .val (.int (1 : Int32)), .val (.long ((u * (n.toInt64)) / w)), .second, .val (.long (Own.mxW (1 : Int64) (((u * (n.toInt64)) / w) - (1 : Int64)))), .second, .val (.long (Own.mnW (n.toInt64) (((u * (n.toInt64)) / w) + (1 : Int64)))), .second] [(.long u), (.ref b8)])) _
            refine XS.lload X37.here hx rfl (hb hby at_284) rfl ?_
            show Steps p.tables e below (T37.setTop (mkF m 286 #[.val (.int p1), .val (.long q2), .second, .val (.long q3), .second, .val (.long q4), .second, .val (.int p5), .val (.int n), .val (.long w), .second, .val (.long u), .second, .val (.long v), .second, .val (.ref b8), .val (.int (Own.eff n w u)), .val (.int (1 : Int32)), .val (.long ((u * (n.toInt64)) / w)), .second, .val (.long (Own.mxW (1 : Int64) (((u * (n.toInt64)) / w) - (1 : Int64)))), .second, .val (.long (Own.mnW (n.toInt64) (((u * (n.toInt64)) / w) + (1 : Int64)))), .second] [(.long v), (.long u), (.ref b8)])) _
            refine st38 _ ?_
            show Steps p.tables e below (T38.setTop (mkF m 289 #[.val (.int p1), .val (.long q2), .second, .val (.long q3), .second, .val (.long q4), .second, .val (.int p5), .val (.int n), .val (.long w), .second, .val (.long u), .second, .val (.long v), .second, .val (.ref b8), .val (.int (Own.eff n w u)), .val (.int (1 : Int32)), .val (.long ((u * (n.toInt64)) / w)), .second, .val (.long (Own.mxW (1 : Int64) (((u * (n.toInt64)) / w) - (1 : Int64)))), .second, .val (.long (Own.mnW (n.toInt64) (((u * (n.toInt64)) / w) + (1 : Int64)))), .second] [(.long (Own.mnW u v)), (.ref b8)])) _
            refine st39.trans ?_
            show Steps p.tables e below (T39.setTop (mkF m 292 #[.val (.int p1), .val (.long q2), .second, .val (.long q3), .second, .val (.long q4), .second, .val (.int p5), .val (.int n), .val (.long w), .second, .val (.long u), .second, .val (.long v), .second, .val (.ref b8), .val (.int (Own.eff n w u)), .val (.int (1 : Int32)), .val (.long ((u * (n.toInt64)) / w)), .second, .val (.long (Own.mxW (1 : Int64) (((u * (n.toInt64)) / w) - (1 : Int64)))), .second, .val (.long (Own.mnW (n.toInt64) (((u * (n.toInt64)) / w) + (1 : Int64)))), .second] [(.int (Own.eff n w (Own.mnW u v)))])) _
            refine XS.istore X39.here hx rfl (hb hby at_292) rfl (l' := #[.val (.int p1), .val (.long q2), .second, .val (.long q3), .second, .val (.long q4), .second, .val (.int p5), .val (.int n), .val (.long w), .second, .val (.long u), .second, .val (.long v), .second, .val (.ref b8), .val (.int (Own.eff n w u)), .val (.int (1 : Int32)), .val (.int (Own.eff n w (Own.mnW u v))), .unset, .val (.long (Own.mxW (1 : Int64) (((u * (n.toInt64)) / w) - (1 : Int64)))), .second, .val (.long (Own.mnW (n.toInt64) (((u * (n.toInt64)) / w) + (1 : Int64)))), .second]) rfl ?_
            show Steps p.tables e below (T39.setTop (mkF m 294 #[.val (.int p1), .val (.long q2), .second, .val (.long q3), .second, .val (.long q4), .second, .val (.int p5), .val (.int n), .val (.long w), .second, .val (.long u), .second, .val (.long v), .second, .val (.ref b8), .val (.int (Own.eff n w u)), .val (.int (1 : Int32)), .val (.int (Own.eff n w (Own.mnW u v))), .unset, .val (.long (Own.mxW (1 : Int64) (((u * (n.toInt64)) / w) - (1 : Int64)))), .second, .val (.long (Own.mnW (n.toInt64) (((u * (n.toInt64)) / w) + (1 : Int64)))), .second] [])) _
            refine XS.aload X39.here hx rfl (hb hby at_294) rfl rfl ?_
            show Steps p.tables e below (T39.setTop (mkF m 296 #[.val (.int p1), .val (.long q2), .second, .val (.long q3), .second, .val (.long q4), .second, .val (.int p5), .val (.int n), .val (.long w), .second, .val (.long u), .second, .val (.long v), .second, .val (.ref b8), .val (.int (Own.eff n w u)), .val (.int (1 : Int32)), .val (.int (Own.eff n w (Own.mnW u v))), .unset, .val (.long (Own.mxW (1 : Int64) (((u * (n.toInt64)) / w) - (1 : Int64)))), .second, .val (.long (Own.mnW (n.toInt64) (((u * (n.toInt64)) / w) + (1 : Int64)))), .second] [(.ref b8)])) _
            refine XS.lload X39.here hx rfl (hb hby at_296) rfl ?_
            show Steps p.tables e below (T39.setTop (mkF m 298 #[.val (.int p1), .val (.long q2), .second, .val (.long q3), .second, .val (.long q4), .second, .val (.int p5), .val (.int n), .val (.long w), .second, .val (.long u), .second, .val (.long v), .second, .val (.ref b8), .val (.int (Own.eff n w u)), .val (.int (1 : Int32)), .val (.int (Own.eff n w (Own.mnW u v))), .unset, .val (.long (Own.mxW (1 : Int64) (((u * (n.toInt64)) / w) - (1 : Int64)))), .second, .val (.long (Own.mnW (n.toInt64) (((u * (n.toInt64)) / w) + (1 : Int64)))), .second] [(.long u), (.ref b8)])) _
            refine XS.lload X39.here hx rfl (hb hby at_298) rfl ?_
            show Steps p.tables e below (T39.setTop (mkF m 300 #[.val (.int p1), .val (.long q2), .second, .val (.long q3), .second, .val (.long q4), .second, .val (.int p5), .val (.int n), .val (.long w), .second, .val (.long u), .second, .val (.long v), .second, .val (.ref b8), .val (.int (Own.eff n w u)), .val (.int (1 : Int32)), .val (.int (Own.eff n w (Own.mnW u v))), .unset, .val (.long (Own.mxW (1 : Int64) (((u * (n.toInt64)) / w) - (1 : Int64)))), .second, .val (.long (Own.mnW (n.toInt64) (((u * (n.toInt64)) / w) + (1 : Int64)))), .second] [(.long v), (.long u), (.ref b8)])) _
            refine st40 _ ?_
            show Steps p.tables e below (T40.setTop (mkF m 303 #[.val (.int p1), .val (.long q2), .second, .val (.long q3), .second, .val (.long q4), .second, .val (.int p5), .val (.int n), .val (.long w), .second, .val (.long u), .second, .val (.long v), .second, .val (.ref b8), .val (.int (Own.eff n w u)), .val (.int (1 : Int32)), .val (.int (Own.eff n w (Own.mnW u v))), .unset, .val (.long (Own.mxW (1 : Int64) (((u * (n.toInt64)) / w) - (1 : Int64)))), .second, .val (.long (Own.mnW (n.toInt64) (((u * (n.toInt64)) / w) + (1 : Int64)))), .second] [(.long (Own.mxW u v)), (.ref b8)])) _
            refine st41.trans ?_
            show Steps p.tables e below (T41.setTop (mkF m 306 #[.val (.int p1), .val (.long q2), .second, .val (.long q3), .second, .val (.long q4), .second, .val (.int p5), .val (.int n), .val (.long w), .second, .val (.long u), .second, .val (.long v), .second, .val (.ref b8), .val (.int (Own.eff n w u)), .val (.int (1 : Int32)), .val (.int (Own.eff n w (Own.mnW u v))), .unset, .val (.long (Own.mxW (1 : Int64) (((u * (n.toInt64)) / w) - (1 : Int64)))), .second, .val (.long (Own.mnW (n.toInt64) (((u * (n.toInt64)) / w) + (1 : Int64)))), .second] [(.int (Own.eff n w (Own.mxW u v)))])) _
            refine XS.istore X41.here hx rfl (hb hby at_306) rfl (l' := #[.val (.int p1), .val (.long q2), .second, .val (.long q3), .second, .val (.long q4), .second, .val (.int p5), .val (.int n), .val (.long w), .second, .val (.long u), .second, .val (.long v), .second, .val (.ref b8), .val (.int (Own.eff n w u)), .val (.int (1 : Int32)), .val (.int (Own.eff n w (Own.mnW u v))), .val (.int (Own.eff n w (Own.mxW u v))), .val (.long (Own.mxW (1 : Int64) (((u * (n.toInt64)) / w) - (1 : Int64)))), .second, .val (.long (Own.mnW (n.toInt64) (((u * (n.toInt64)) / w) + (1 : Int64)))), .second]) rfl ?_
            show Steps p.tables e below (T41.setTop (mkF m 308 #[.val (.int p1), .val (.long q2), .second, .val (.long q3), .second, .val (.long q4), .second, .val (.int p5), .val (.int n), .val (.long w), .second, .val (.long u), .second, .val (.long v), .second, .val (.ref b8), .val (.int (Own.eff n w u)), .val (.int (1 : Int32)), .val (.int (Own.eff n w (Own.mnW u v))), .val (.int (Own.eff n w (Own.mxW u v))), .val (.long (Own.mxW (1 : Int64) (((u * (n.toInt64)) / w) - (1 : Int64)))), .second, .val (.long (Own.mnW (n.toInt64) (((u * (n.toInt64)) / w) + (1 : Int64)))), .second] [])) _
            refine XS.iload X41.here hx rfl (hb hby at_308) rfl ?_
            show Steps p.tables e below (T41.setTop (mkF m 310 #[.val (.int p1), .val (.long q2), .second, .val (.long q3), .second, .val (.long q4), .second, .val (.int p5), .val (.int n), .val (.long w), .second, .val (.long u), .second, .val (.long v), .second, .val (.ref b8), .val (.int (Own.eff n w u)), .val (.int (1 : Int32)), .val (.int (Own.eff n w (Own.mnW u v))), .val (.int (Own.eff n w (Own.mxW u v))), .val (.long (Own.mxW (1 : Int64) (((u * (n.toInt64)) / w) - (1 : Int64)))), .second, .val (.long (Own.mnW (n.toInt64) (((u * (n.toInt64)) / w) + (1 : Int64)))), .second] [(.int (1 : Int32))])) _
            refine XS.ifNo X41.here hx rfl (hb hby at_310) rfl ((if0 _ _).trans (feq (by decide : ¬ ((1 : Int32) = (0 : Int32)))).1) ?_
            show Steps p.tables e below (T41.setTop (mkF m 313 #[.val (.int p1), .val (.long q2), .second, .val (.long q3), .second, .val (.long q4), .second, .val (.int p5), .val (.int n), .val (.long w), .second, .val (.long u), .second, .val (.long v), .second, .val (.ref b8), .val (.int (Own.eff n w u)), .val (.int (1 : Int32)), .val (.int (Own.eff n w (Own.mnW u v))), .val (.int (Own.eff n w (Own.mxW u v))), .val (.long (Own.mxW (1 : Int64) (((u * (n.toInt64)) / w) - (1 : Int64)))), .second, .val (.long (Own.mnW (n.toInt64) (((u * (n.toInt64)) / w) + (1 : Int64)))), .second] [])) _
            refine XS.iload X41.here hx rfl (hb hby at_313) rfl ?_
            show Steps p.tables e below (T41.setTop (mkF m 315 #[.val (.int p1), .val (.long q2), .second, .val (.long q3), .second, .val (.long q4), .second, .val (.int p5), .val (.int n), .val (.long w), .second, .val (.long u), .second, .val (.long v), .second, .val (.ref b8), .val (.int (Own.eff n w u)), .val (.int (1 : Int32)), .val (.int (Own.eff n w (Own.mnW u v))), .val (.int (Own.eff n w (Own.mxW u v))), .val (.long (Own.mxW (1 : Int64) (((u * (n.toInt64)) / w) - (1 : Int64)))), .second, .val (.long (Own.mnW (n.toInt64) (((u * (n.toInt64)) / w) + (1 : Int64)))), .second] [(.int (Own.eff n w (Own.mnW u v)))])) _
            refine XS.iload X41.here hx rfl (hb hby at_315) rfl ?_
            show Steps p.tables e below (T41.setTop (mkF m 317 #[.val (.int p1), .val (.long q2), .second, .val (.long q3), .second, .val (.long q4), .second, .val (.int p5), .val (.int n), .val (.long w), .second, .val (.long u), .second, .val (.long v), .second, .val (.ref b8), .val (.int (Own.eff n w u)), .val (.int (1 : Int32)), .val (.int (Own.eff n w (Own.mnW u v))), .val (.int (Own.eff n w (Own.mxW u v))), .val (.long (Own.mxW (1 : Int64) (((u * (n.toInt64)) / w) - (1 : Int64)))), .second, .val (.long (Own.mnW (n.toInt64) (((u * (n.toInt64)) / w) + (1 : Int64)))), .second] [(.int (Own.eff n w (Own.mxW u v))), (.int (Own.eff n w (Own.mnW u v)))])) _
            refine XS.icmpNo X41.here hx rfl (hb hby at_317) rfl (flt (show ¬ ((Own.eff n w (Own.mxW u v)) < (Own.eff n w (Own.mnW u v))) from Own.eff_mm hn0)).2.2.1 ?_
            show Steps p.tables e below (T41.setTop (mkF m 320 #[.val (.int p1), .val (.long q2), .second, .val (.long q3), .second, .val (.long q4), .second, .val (.int p5), .val (.int n), .val (.long w), .second, .val (.long u), .second, .val (.long v), .second, .val (.ref b8), .val (.int (Own.eff n w u)), .val (.int (1 : Int32)), .val (.int (Own.eff n w (Own.mnW u v))), .val (.int (Own.eff n w (Own.mxW u v))), .val (.long (Own.mxW (1 : Int64) (((u * (n.toInt64)) / w) - (1 : Int64)))), .second, .val (.long (Own.mnW (n.toInt64) (((u * (n.toInt64)) / w) + (1 : Int64)))), .second] [])) _
            refine XS.iconst X41.here hx rfl (hb hby at_320) ?_
            show Steps p.tables e below (T41.setTop (mkF m 321 #[.val (.int p1), .val (.long q2), .second, .val (.long q3), .second, .val (.long q4), .second, .val (.int p5), .val (.int n), .val (.long w), .second, .val (.long u), .second, .val (.long v), .second, .val (.ref b8), .val (.int (Own.eff n w u)), .val (.int (1 : Int32)), .val (.int (Own.eff n w (Own.mnW u v))), .val (.int (Own.eff n w (Own.mxW u v))), .val (.long (Own.mxW (1 : Int64) (((u * (n.toInt64)) / w) - (1 : Int64)))), .second, .val (.long (Own.mnW (n.toInt64) (((u * (n.toInt64)) / w) + (1 : Int64)))), .second] [(.int (1 : Int32))])) _
            refine XS.goto X41.here hx rfl (pc0 := 321) (pc' := 325) rfl (hb hby at_321) (by decide) (by decide) ?_
            show Steps p.tables e below (T41.setTop (mkF m 325 #[.val (.int p1), .val (.long q2), .second, .val (.long q3), .second, .val (.long q4), .second, .val (.int p5), .val (.int n), .val (.long w), .second, .val (.long u), .second, .val (.long v), .second, .val (.ref b8), .val (.int (Own.eff n w u)), .val (.int (1 : Int32)), .val (.int (Own.eff n w (Own.mnW u v))), .val (.int (Own.eff n w (Own.mxW u v))), .val (.long (Own.mxW (1 : Int64) (((u * (n.toInt64)) / w) - (1 : Int64)))), .second, .val (.long (Own.mnW (n.toInt64) (((u * (n.toInt64)) / w) + (1 : Int64)))), .second] [(.int (1 : Int32))])) _
            exact retN X41 hx (t := .boolean) Bd.returns (by simp) (hb hby at_325) hr
          · show Q_rm0 Z p1 q2 q3 q4 p5 h0 n0 _ T41.heap _
            exact ⟨rfl, N41⟩
      · have pre42 : ∀ t, Steps p.tables e below (T10.setTop (mkF m 171 #[.val (.int p1), .val (.long q2), .second, .val (.long q3), .second, .val (.long q4), .second, .val (.int p5), .val (.int n), .val (.long w), .second, .val (.long u), .second, .val (.long v), .second, .val (.ref b8), .val (.int (Own.eff n w u)), .unset, .unset, .unset, .unset, .unset, .unset, .unset] [])) t → Steps p.tables e below (s₁.setTop (entryFrame m #[(.int p1), (.long q2), (.long q3), (.long q4), (.int p5)] maxLocals)) t := fun t k => pre26 t (by
            show Steps p.tables e below (T10.setTop (mkF m 168 #[.val (.int p1), .val (.long q2), .second, .val (.long q3), .second, .val (.long q4), .second, .val (.int p5), .val (.int n), .val (.long w), .second, .val (.long u), .second, .val (.long v), .second, .val (.ref b8), .val (.int (Own.eff n w u)), .unset, .unset, .unset, .unset, .unset, .unset, .unset] [(.int (lcmpW u w))])) _
            refine XS.ifNo X10.here hx rfl (hb hby at_168) rfl ((if0 _ _).trans (flt hc168_27).1) ?_
            exact k)
        have hnlt : ¬ (u.toInt < w.toInt) := fun q => hc168_27 ((Own.lt_iff u w).mpr q)
        obtain ⟨_, _, ⟨T43, L43, k43, n43⟩, -, X43, ⟨Lc43, hQ43, l43, y43, z43⟩, st43⟩ := Jvm.LawKit.callS X10 hx (y := (⟨"java/lang/Math", "min", "(JJ)J"⟩ : MethodName)) hown (mvT hZ (hw _ (List.mem_of_getElem? (i := 25) rfl))) (mvT hZ (hw _ (List.mem_of_getElem? (i := 26) rfl))) (mvT hZ (hw _ (List.mem_of_getElem? (i := 27) rfl))) (mvT hZ (hw _ (List.mem_of_getElem? (i := 28) rfl))) (by decide) (backOf (W := 1) (rm5 l Z a0 hw [] u v T9.heap n0 z9_) hZ (hw _ (List.mem_of_getElem? (i := 28) rfl)) (hw _ (List.mem_of_getElem? (i := 27) rfl)) (by decide) (by decide)) (g := (mkF m 286 #[.val (.int p1), .val (.long q2), .second, .val (.long q3), .second, .val (.long q4), .second, .val (.int p5), .val (.int n), .val (.long w), .second, .val (.long u), .second, .val (.long v), .second, .val (.ref b8), .val (.int (Own.eff n w u)), .val (.int (1 : Int32)), .unset, .unset, .unset, .unset, .unset, .unset] [(.long v), (.long u), (.ref b8)])) rfl (by rw [hml]; rfl) (argsL := [(.long u), (.long v)]) (rest := [(.ref b8)]) (lenOf pd_1 rfl) rfl (by show 2 * 0 + _ ≤ _; exact Nat.le_of_eq rfl) (hb hby at_286) (fun _ _ => ⟨rfl, e10, (by decide : 1 + 0 ≤ _), (by decide : 2 + 0 ≤ _)⟩)
        dsimp only [Pt.U, Pt.locs, Pt.cells, Pt.slots] at X43 l43 y43 z43 st43 hQ43
        subst l43 y43 z43
        obtain ⟨rfl, N43q, e43⟩ := hQ43
        have N43 := Fr.app N10 N43q
        obtain ⟨cq44, kq44, q44a, q44b, q44c⟩ := isOf hZ e43 E9a
        obtain ⟨_, _, ⟨T44, L44, k44, n44⟩, -, X44, ⟨Lc44, hQ44, l44, y44, z44⟩, st44⟩ := X43.virtualBack hx (y := (⟨"com/example/curtaincall/curtaincall/core/Weight", "effectiveAt", "(J)I"⟩ : MethodName)) (z := (⟨"com/example/curtaincall/curtaincall/core/Weight", "effectiveAt", "(J)I"⟩ : MethodName)) hown (mvT hZ (hw _ (List.mem_of_getElem? (i := 20) rfl))) (mvT hZ (hw _ (List.mem_of_getElem? (i := 21) rfl))) (notFace_of_selects (args := #[]) (mvT hZ (hw _ (List.mem_of_getElem? (i := 23) rfl)))) (mvT hZ (hw _ (List.mem_of_getElem? (i := 23) rfl))) (mvT hZ (hw _ (List.mem_of_getElem? (i := 22) rfl))) (by decide) (backOf (W := 0) (rm4 l Z a0 hw [] b8 (Own.mnW u v) n w T9.heap n0 z9_ F9f F9w hn0 hw0) hZ (hw _ (List.mem_of_getElem? (i := 24) rfl)) (hw _ (List.mem_of_getElem? (i := 4) rfl)) (by decide) (by decide)) q44a q44c (g := (mkF m 289 #[.val (.int p1), .val (.long q2), .second, .val (.long q3), .second, .val (.long q4), .second, .val (.int p5), .val (.int n), .val (.long w), .second, .val (.long u), .second, .val (.long v), .second, .val (.ref b8), .val (.int (Own.eff n w u)), .val (.int (1 : Int32)), .unset, .unset, .unset, .unset, .unset, .unset] [(.long (Own.mnW u v)), (.ref b8)])) rfl (by rw [hml]; rfl) (Steps.refl _) (argsL := [(.long (Own.mnW u v))]) (rest := []) (lenOf pd_3 rfl) rfl (by show 2 * 0 + _ ≤ _; exact Nat.le_of_eq rfl) (hb hby at_289) (fun _ _ => ⟨rfl, e43, (by decide : 1 + 0 ≤ _), (by decide : 2 + 0 ≤ _)⟩)
        dsimp only [Pt.U, Pt.locs, Pt.cells, Pt.slots] at X44 l44 y44 z44 st44 hQ44
        subst l44 y44 z44
        obtain ⟨rfl, N44q, e44⟩ := hQ44
        have N44 := Fr.app N43 N44q
        obtain ⟨_, _, ⟨T45, L45, k45, n45⟩, -, X45, ⟨Lc45, hQ45, l45, y45, z45⟩, st45⟩ := Jvm.LawKit.callS X44 hx (y := (⟨"java/lang/Math", "max", "(JJ)J"⟩ : MethodName)) hown (mvT hZ (hw _ (List.mem_of_getElem? (i := 29) rfl))) (mvT hZ (hw _ (List.mem_of_getElem? (i := 30) rfl))) (mvT hZ (hw _ (List.mem_of_getElem? (i := 27) rfl))) (mvT hZ (hw _ (List.mem_of_getElem? (i := 31) rfl))) (by decide) (backOf (W := 1) (rm6 l Z a0 hw [] u v T9.heap n0 z9_) hZ (hw _ (List.mem_of_getElem? (i := 31) rfl)) (hw _ (List.mem_of_getElem? (i := 27) rfl)) (by decide) (by decide)) (g := (mkF m 300 #[.val (.int p1), .val (.long q2), .second, .val (.long q3), .second, .val (.long q4), .second, .val (.int p5), .val (.int n), .val (.long w), .second, .val (.long u), .second, .val (.long v), .second, .val (.ref b8), .val (.int (Own.eff n w u)), .val (.int (1 : Int32)), .val (.int (Own.eff n w (Own.mnW u v))), .unset, .unset, .unset, .unset, .unset] [(.long v), (.long u), (.ref b8)])) rfl (by rw [hml]; rfl) (argsL := [(.long u), (.long v)]) (rest := [(.ref b8)]) (lenOf pd_1 rfl) rfl (by show 2 * 0 + _ ≤ _; exact Nat.le_of_eq rfl) (hb hby at_300) (fun _ _ => ⟨rfl, e44, (by decide : 1 + 0 ≤ _), (by decide : 2 + 0 ≤ _)⟩)
        dsimp only [Pt.U, Pt.locs, Pt.cells, Pt.slots] at X45 l45 y45 z45 st45 hQ45
        subst l45 y45 z45
        obtain ⟨rfl, N45q, e45⟩ := hQ45
        have N45 := Fr.app N44 N45q
        obtain ⟨cq46, kq46, q46a, q46b, q46c⟩ := isOf hZ e45 E9a
        obtain ⟨_, _, ⟨T46, L46, k46, n46⟩, -, X46, ⟨Lc46, hQ46, l46, y46, z46⟩, st46⟩ := X45.virtualBack hx (y := (⟨"com/example/curtaincall/curtaincall/core/Weight", "effectiveAt", "(J)I"⟩ : MethodName)) (z := (⟨"com/example/curtaincall/curtaincall/core/Weight", "effectiveAt", "(J)I"⟩ : MethodName)) hown (mvT hZ (hw _ (List.mem_of_getElem? (i := 20) rfl))) (mvT hZ (hw _ (List.mem_of_getElem? (i := 21) rfl))) (notFace_of_selects (args := #[]) (mvT hZ (hw _ (List.mem_of_getElem? (i := 23) rfl)))) (mvT hZ (hw _ (List.mem_of_getElem? (i := 23) rfl))) (mvT hZ (hw _ (List.mem_of_getElem? (i := 22) rfl))) (by decide) (backOf (W := 0) (rm4 l Z a0 hw [] b8 (Own.mxW u v) n w T9.heap n0 z9_ F9f F9w hn0 hw0) hZ (hw _ (List.mem_of_getElem? (i := 24) rfl)) (hw _ (List.mem_of_getElem? (i := 4) rfl)) (by decide) (by decide)) q46a q46c (g := (mkF m 303 #[.val (.int p1), .val (.long q2), .second, .val (.long q3), .second, .val (.long q4), .second, .val (.int p5), .val (.int n), .val (.long w), .second, .val (.long u), .second, .val (.long v), .second, .val (.ref b8), .val (.int (Own.eff n w u)), .val (.int (1 : Int32)), .val (.int (Own.eff n w (Own.mnW u v))), .unset, .unset, .unset, .unset, .unset] [(.long (Own.mxW u v)), (.ref b8)])) rfl (by rw [hml]; rfl) (Steps.refl _) (argsL := [(.long (Own.mxW u v))]) (rest := []) (lenOf pd_3 rfl) rfl (by show 2 * 0 + _ ≤ _; exact Nat.le_of_eq rfl) (hb hby at_303) (fun _ _ => ⟨rfl, e45, (by decide : 1 + 0 ≤ _), (by decide : 2 + 0 ≤ _)⟩)
        dsimp only [Pt.U, Pt.locs, Pt.cells, Pt.slots] at X46 l46 y46 z46 st46 hQ46
        subst l46 y46 z46
        obtain ⟨rfl, N46q, e46⟩ := hQ46
        have N46 := Fr.app N45 N46q
        obtain ⟨fs, hr, hrun, hended, hW, hsame⟩ := X46.leave (v := some (.int (1 : Int32))) (fun h => by rw [Bd.returns] at h; cases h)
        refine ⟨_, _, pre42 _ ?_, hrun, hended, _, _, rfl, ?_, ⟨_, rfl⟩, hW, hsame.mono (by decide) (by decide)⟩
        · show Steps p.tables e below (T10.setTop (mkF m 171 #[.val (.int p1), .val (.long q2), .second, .val (.long q3), .second, .val (.long q4), .second, .val (.int p5), .val (.int n), .val (.long w), .second, .val (.long u), .second, .val (.long v), .second, .val (.ref b8), .val (.int (Own.eff n w u)), .unset, .unset, .unset, .unset, .unset, .unset, .unset] [])) _
          refine XS.iload X10.here hx rfl (hb hby at_171) rfl ?_
          show Steps p.tables e below (T10.setTop (mkF m 173 #[.val (.int p1), .val (.long q2), .second, .val (.long q3), .second, .val (.long q4), .second, .val (.int p5), .val (.int n), .val (.long w), .second, .val (.long u), .second, .val (.long v), .second, .val (.ref b8), .val (.int (Own.eff n w u)), .unset, .unset, .unset, .unset, .unset, .unset, .unset] [(.int (Own.eff n w u))])) _
          refine XS.iload X10.here hx rfl (hb hby at_173) rfl ?_
          show Steps p.tables e below (T10.setTop (mkF m 175 #[.val (.int p1), .val (.long q2), .second, .val (.long q3), .second, .val (.long q4), .second, .val (.int p5), .val (.int n), .val (.long w), .second, .val (.long u), .second, .val (.long v), .second, .val (.ref b8), .val (.int (Own.eff n w u)), .unset, .unset, .unset, .unset, .unset, .unset, .unset] [(.int n), (.int (Own.eff n w u))])) _
          refine XS.icmpNo X10.here hx rfl (hb hby at_175) rfl (teq (show (Own.eff n w u) = n from Own.eff_hi hc122_12 hu0 hnlt)).2 ?_
          show Steps p.tables e below (T10.setTop (mkF m 178 #[.val (.int p1), .val (.long q2), .second, .val (.long q3), .second, .val (.long q4), .second, .val (.int p5), .val (.int n), .val (.long w), .second, .val (.long u), .second, .val (.long v), .second, .val (.ref b8), .val (.int (Own.eff n w u)), .unset, .unset, .unset, .unset, .unset, .unset, .unset] [])) _
          refine XS.iconst X10.here hx rfl (hb hby at_178) ?_
          show Steps p.tables e below (T10.setTop (mkF m 179 #[.val (.int p1), .val (.long q2), .second, .val (.long q3), .second, .val (.long q4), .second, .val (.int p5), .val (.int n), .val (.long w), .second, .val (.long u), .second, .val (.long v), .second, .val (.ref b8), .val (.int (Own.eff n w u)), .unset, .unset, .unset, .unset, .unset, .unset, .unset] [(.int (1 : Int32))])) _
          refine XS.goto X10.here hx rfl (pc0 := 179) (pc' := 183) rfl (hb hby at_179) (by decide) (by decide) ?_
          show Steps p.tables e below (T10.setTop (mkF m 183 #[.val (.int p1), .val (.long q2), .second, .val (.long q3), .second, .val (.long q4), .second, .val (.int p5), .val (.int n), .val (.long w), .second, .val (.long u), .second, .val (.long v), .second, .val (.ref b8), .val (.int (Own.eff n w u)), .unset, .unset, .unset, .unset, .unset, .unset, .unset] [(.int (1 : Int32))])) _
          refine XS.istore X10.here hx rfl (hb hby at_183) rfl (l' := #[.val (.int p1), .val (.long q2), .second, .val (.long q3), .second, .val (.long q4), .second, .val (.int p5), .val (.int n), .val (.long w), .second, .val (.long u), .second, .val (.long v), .second, .val (.ref b8), .val (.int (Own.eff n w u)), .val (.int (1 : Int32)), .unset, .unset, .unset, .unset, .unset, .unset]) rfl ?_
          show Steps p.tables e below (T10.setTop (mkF m 185 #[.val (.int p1), .val (.long q2), .second, .val (.long q3), .second, .val (.long q4), .second, .val (.int p5), .val (.int n), .val (.long w), .second, .val (.long u), .second, .val (.long v), .second, .val (.ref b8), .val (.int (Own.eff n w u)), .val (.int (1 : Int32)), .unset, .unset, .unset, .unset, .unset, .unset] [])) _
          refine XS.goto X10.here hx rfl (pc0 := 185) (pc' := 280) rfl (hb hby at_185) (by decide) (by decide) ?_
          show Steps p.tables e below (T10.setTop (mkF m 280 #[.val (.int p1), .val (.long q2), .second, .val (.long q3), .second, .val (.long q4), .second, .val (.int p5), .val (.int n), .val (.long w), .second, .val (.long u), .second, .val (.long v), .second, .val (.ref b8), .val (.int (Own.eff n w u)), .val (.int (1 : Int32)), .unset, .unset, .unset, .unset, .unset, .unset] [])) _
          refine XS.aload X10.here hx rfl (hb hby at_280) rfl rfl ?_
          show Steps p.tables e below (T10.setTop (mkF m 282 #[.val (.int p1), .val (.long q2), .second, .val (.long q3), .second, .val (.long q4), .second, .val (.int p5), .val (.int n), .val (.long w), .second, .val (.long u), .second, .val (.long v), .second, .val (.ref b8), .val (.int (Own.eff n w u)), .val (.int (1 : Int32)), .unset, .unset, .unset, .unset, .unset, .unset] [(.ref b8)])) _
          refine XS.lload X10.here hx rfl (hb hby at_282) rfl ?_
          show Steps p.tables e below (T10.setTop (mkF m 284 #[.val (.int p1), .val (.long q2), .second, .val (.long q3), .second, .val (.long q4), .second, .val (.int p5), .val (.int n), .val (.long w), .second, .val (.long u), .second, .val (.long v), .second, .val (.ref b8), .val (.int (Own.eff n w u)), .val (.int (1 : Int32)), .unset, .unset, .unset, .unset, .unset, .unset] [(.long u), (.ref b8)])) _
          refine XS.lload X10.here hx rfl (hb hby at_284) rfl ?_
          show Steps p.tables e below (T10.setTop (mkF m 286 #[.val (.int p1), .val (.long q2), .second, .val (.long q3), .second, .val (.long q4), .second, .val (.int p5), .val (.int n), .val (.long w), .second, .val (.long u), .second, .val (.long v), .second, .val (.ref b8), .val (.int (Own.eff n w u)), .val (.int (1 : Int32)), .unset, .unset, .unset, .unset, .unset, .unset] [(.long v), (.long u), (.ref b8)])) _
          refine st43 _ ?_
          show Steps p.tables e below (T43.setTop (mkF m 289 #[.val (.int p1), .val (.long q2), .second, .val (.long q3), .second, .val (.long q4), .second, .val (.int p5), .val (.int n), .val (.long w), .second, .val (.long u), .second, .val (.long v), .second, .val (.ref b8), .val (.int (Own.eff n w u)), .val (.int (1 : Int32)), .unset, .unset, .unset, .unset, .unset, .unset] [(.long (Own.mnW u v)), (.ref b8)])) _
          refine st44.trans ?_
          show Steps p.tables e below (T44.setTop (mkF m 292 #[.val (.int p1), .val (.long q2), .second, .val (.long q3), .second, .val (.long q4), .second, .val (.int p5), .val (.int n), .val (.long w), .second, .val (.long u), .second, .val (.long v), .second, .val (.ref b8), .val (.int (Own.eff n w u)), .val (.int (1 : Int32)), .unset, .unset, .unset, .unset, .unset, .unset] [(.int (Own.eff n w (Own.mnW u v)))])) _
          refine XS.istore X44.here hx rfl (hb hby at_292) rfl (l' := #[.val (.int p1), .val (.long q2), .second, .val (.long q3), .second, .val (.long q4), .second, .val (.int p5), .val (.int n), .val (.long w), .second, .val (.long u), .second, .val (.long v), .second, .val (.ref b8), .val (.int (Own.eff n w u)), .val (.int (1 : Int32)), .val (.int (Own.eff n w (Own.mnW u v))), .unset, .unset, .unset, .unset, .unset]) rfl ?_
          show Steps p.tables e below (T44.setTop (mkF m 294 #[.val (.int p1), .val (.long q2), .second, .val (.long q3), .second, .val (.long q4), .second, .val (.int p5), .val (.int n), .val (.long w), .second, .val (.long u), .second, .val (.long v), .second, .val (.ref b8), .val (.int (Own.eff n w u)), .val (.int (1 : Int32)), .val (.int (Own.eff n w (Own.mnW u v))), .unset, .unset, .unset, .unset, .unset] [])) _
          refine XS.aload X44.here hx rfl (hb hby at_294) rfl rfl ?_
          show Steps p.tables e below (T44.setTop (mkF m 296 #[.val (.int p1), .val (.long q2), .second, .val (.long q3), .second, .val (.long q4), .second, .val (.int p5), .val (.int n), .val (.long w), .second, .val (.long u), .second, .val (.long v), .second, .val (.ref b8), .val (.int (Own.eff n w u)), .val (.int (1 : Int32)), .val (.int (Own.eff n w (Own.mnW u v))), .unset, .unset, .unset, .unset, .unset] [(.ref b8)])) _
          refine XS.lload X44.here hx rfl (hb hby at_296) rfl ?_
          show Steps p.tables e below (T44.setTop (mkF m 298 #[.val (.int p1), .val (.long q2), .second, .val (.long q3), .second, .val (.long q4), .second, .val (.int p5), .val (.int n), .val (.long w), .second, .val (.long u), .second, .val (.long v), .second, .val (.ref b8), .val (.int (Own.eff n w u)), .val (.int (1 : Int32)), .val (.int (Own.eff n w (Own.mnW u v))), .unset, .unset, .unset, .unset, .unset] [(.long u), (.ref b8)])) _
          refine XS.lload X44.here hx rfl (hb hby at_298) rfl ?_
          show Steps p.tables e below (T44.setTop (mkF m 300 #[.val (.int p1), .val (.long q2), .second, .val (.long q3), .second, .val (.long q4), .second, .val (.int p5), .val (.int n), .val (.long w), .second, .val (.long u), .second, .val (.long v), .second, .val (.ref b8), .val (.int (Own.eff n w u)), .val (.int (1 : Int32)), .val (.int (Own.eff n w (Own.mnW u v))), .unset, .unset, .unset, .unset, .unset] [(.long v), (.long u), (.ref b8)])) _
          refine st45 _ ?_
          show Steps p.tables e below (T45.setTop (mkF m 303 #[.val (.int p1), .val (.long q2), .second, .val (.long q3), .second, .val (.long q4), .second, .val (.int p5), .val (.int n), .val (.long w), .second, .val (.long u), .second, .val (.long v), .second, .val (.ref b8), .val (.int (Own.eff n w u)), .val (.int (1 : Int32)), .val (.int (Own.eff n w (Own.mnW u v))), .unset, .unset, .unset, .unset, .unset] [(.long (Own.mxW u v)), (.ref b8)])) _
          refine st46.trans ?_
          show Steps p.tables e below (T46.setTop (mkF m 306 #[.val (.int p1), .val (.long q2), .second, .val (.long q3), .second, .val (.long q4), .second, .val (.int p5), .val (.int n), .val (.long w), .second, .val (.long u), .second, .val (.long v), .second, .val (.ref b8), .val (.int (Own.eff n w u)), .val (.int (1 : Int32)), .val (.int (Own.eff n w (Own.mnW u v))), .unset, .unset, .unset, .unset, .unset] [(.int (Own.eff n w (Own.mxW u v)))])) _
          refine XS.istore X46.here hx rfl (hb hby at_306) rfl (l' := #[.val (.int p1), .val (.long q2), .second, .val (.long q3), .second, .val (.long q4), .second, .val (.int p5), .val (.int n), .val (.long w), .second, .val (.long u), .second, .val (.long v), .second, .val (.ref b8), .val (.int (Own.eff n w u)), .val (.int (1 : Int32)), .val (.int (Own.eff n w (Own.mnW u v))), .val (.int (Own.eff n w (Own.mxW u v))), .unset, .unset, .unset, .unset]) rfl ?_
          show Steps p.tables e below (T46.setTop (mkF m 308 #[.val (.int p1), .val (.long q2), .second, .val (.long q3), .second, .val (.long q4), .second, .val (.int p5), .val (.int n), .val (.long w), .second, .val (.long u), .second, .val (.long v), .second, .val (.ref b8), .val (.int (Own.eff n w u)), .val (.int (1 : Int32)), .val (.int (Own.eff n w (Own.mnW u v))), .val (.int (Own.eff n w (Own.mxW u v))), .unset, .unset, .unset, .unset] [])) _
          refine XS.iload X46.here hx rfl (hb hby at_308) rfl ?_
          show Steps p.tables e below (T46.setTop (mkF m 310 #[.val (.int p1), .val (.long q2), .second, .val (.long q3), .second, .val (.long q4), .second, .val (.int p5), .val (.int n), .val (.long w), .second, .val (.long u), .second, .val (.long v), .second, .val (.ref b8), .val (.int (Own.eff n w u)), .val (.int (1 : Int32)), .val (.int (Own.eff n w (Own.mnW u v))), .val (.int (Own.eff n w (Own.mxW u v))), .unset, .unset, .unset, .unset] [(.int (1 : Int32))])) _
          refine XS.ifNo X46.here hx rfl (hb hby at_310) rfl ((if0 _ _).trans (feq (by decide : ¬ ((1 : Int32) = (0 : Int32)))).1) ?_
          show Steps p.tables e below (T46.setTop (mkF m 313 #[.val (.int p1), .val (.long q2), .second, .val (.long q3), .second, .val (.long q4), .second, .val (.int p5), .val (.int n), .val (.long w), .second, .val (.long u), .second, .val (.long v), .second, .val (.ref b8), .val (.int (Own.eff n w u)), .val (.int (1 : Int32)), .val (.int (Own.eff n w (Own.mnW u v))), .val (.int (Own.eff n w (Own.mxW u v))), .unset, .unset, .unset, .unset] [])) _
          refine XS.iload X46.here hx rfl (hb hby at_313) rfl ?_
          show Steps p.tables e below (T46.setTop (mkF m 315 #[.val (.int p1), .val (.long q2), .second, .val (.long q3), .second, .val (.long q4), .second, .val (.int p5), .val (.int n), .val (.long w), .second, .val (.long u), .second, .val (.long v), .second, .val (.ref b8), .val (.int (Own.eff n w u)), .val (.int (1 : Int32)), .val (.int (Own.eff n w (Own.mnW u v))), .val (.int (Own.eff n w (Own.mxW u v))), .unset, .unset, .unset, .unset] [(.int (Own.eff n w (Own.mnW u v)))])) _
          refine XS.iload X46.here hx rfl (hb hby at_315) rfl ?_
          show Steps p.tables e below (T46.setTop (mkF m 317 #[.val (.int p1), .val (.long q2), .second, .val (.long q3), .second, .val (.long q4), .second, .val (.int p5), .val (.int n), .val (.long w), .second, .val (.long u), .second, .val (.long v), .second, .val (.ref b8), .val (.int (Own.eff n w u)), .val (.int (1 : Int32)), .val (.int (Own.eff n w (Own.mnW u v))), .val (.int (Own.eff n w (Own.mxW u v))), .unset, .unset, .unset, .unset] [(.int (Own.eff n w (Own.mxW u v))), (.int (Own.eff n w (Own.mnW u v)))])) _
          refine XS.icmpNo X46.here hx rfl (hb hby at_317) rfl (flt (show ¬ ((Own.eff n w (Own.mxW u v)) < (Own.eff n w (Own.mnW u v))) from Own.eff_mm hn0)).2.2.1 ?_
          show Steps p.tables e below (T46.setTop (mkF m 320 #[.val (.int p1), .val (.long q2), .second, .val (.long q3), .second, .val (.long q4), .second, .val (.int p5), .val (.int n), .val (.long w), .second, .val (.long u), .second, .val (.long v), .second, .val (.ref b8), .val (.int (Own.eff n w u)), .val (.int (1 : Int32)), .val (.int (Own.eff n w (Own.mnW u v))), .val (.int (Own.eff n w (Own.mxW u v))), .unset, .unset, .unset, .unset] [])) _
          refine XS.iconst X46.here hx rfl (hb hby at_320) ?_
          show Steps p.tables e below (T46.setTop (mkF m 321 #[.val (.int p1), .val (.long q2), .second, .val (.long q3), .second, .val (.long q4), .second, .val (.int p5), .val (.int n), .val (.long w), .second, .val (.long u), .second, .val (.long v), .second, .val (.ref b8), .val (.int (Own.eff n w u)), .val (.int (1 : Int32)), .val (.int (Own.eff n w (Own.mnW u v))), .val (.int (Own.eff n w (Own.mxW u v))), .unset, .unset, .unset, .unset] [(.int (1 : Int32))])) _
          refine XS.goto X46.here hx rfl (pc0 := 321) (pc' := 325) rfl (hb hby at_321) (by decide) (by decide) ?_
          show Steps p.tables e below (T46.setTop (mkF m 325 #[.val (.int p1), .val (.long q2), .second, .val (.long q3), .second, .val (.long q4), .second, .val (.int p5), .val (.int n), .val (.long w), .second, .val (.long u), .second, .val (.long v), .second, .val (.ref b8), .val (.int (Own.eff n w u)), .val (.int (1 : Int32)), .val (.int (Own.eff n w (Own.mnW u v))), .val (.int (Own.eff n w (Own.mxW u v))), .unset, .unset, .unset, .unset] [(.int (1 : Int32))])) _
          exact retN X46 hx (t := .boolean) Bd.returns (by simp) (hb hby at_325) hr
        · show Q_rm0 Z p1 q2 q3 q4 p5 h0 n0 _ T46.heap _
          exact ⟨rfl, N46⟩
set_option maxRecDepth 65536 in
set_option maxHeartbeats 40000000 in
theorem comes_1 {Post : Tables → Env → Array Value → State → Outcome → State → Prop} (hpost : ∀ tb e args s v u, (limb_1_1.after args s (.returned v) u = true ∧ limb_1_2.after args s (.returned v) u = true ∧ True) → FrameEnd s (.returned v) u (Jvm.fieldLocs frame_1_writes args s ++ Jvm.arrayLocs frame_1_arrays args s ++ Jvm.staticLocs frame_1_statics s) 16 128 → Post tb e args s (.returned v) u) :
    ArmFor flags0 classFile x code maxLocals ret World_1 tables_1 room_1 Calls_1 rest_1 Pre_1 Post := by
  intro l hfl _ _ p e ha hc hk s m args below hf hA hF happ hP
  obtain ⟨hcalls, hrest, hpre⟩ := hP
  obtain ⟨-, -, -, hnamed, -, -, -, hat⟩ := (Spec.applies_iff hf).mp happ
  obtain ⟨hg, hn⟩ := and_e (Cond.before_iff.mp (show (Jvm.Cond.and given_1 narrow_1).before args s = true from hpre))
  obtain ⟨gc, g0⟩ := and_e hg
  obtain ⟨ga0, g1⟩ := and_e g0
  obtain ⟨ga1, g2⟩ := and_e g1
  obtain ⟨ga2, g3⟩ := and_e g2
  obtain ⟨ga3, g4⟩ := and_e g3
  obtain ⟨w0, w1, w2, w3, w4, rfl⟩ : ∃ w0 w1 w2 w3 w4 : Value, args = #[w0, w1, w2, w3, w4] := by
    have hs : args.size = 5 := by simpa [Cond.value, given_1] using gc
    obtain ⟨L⟩ := args
    match L, hs with
    | [w0, w1, w2, w3, w4], _ => exact ⟨w0, w1, w2, w3, w4, rfl⟩
  have hw := fun d (hd : d ∈ tables_1) => atoms_spec (ws := Jvm.Cond.code x code maxLocals ret :: tables_1) hat d (List.mem_cons_of_mem _ hd)
  have hfit : Fit s := fun {y c} hc i hi => by
    obtain ⟨ha, rfl⟩ := Array.getElem?_eq_some_iff.mp hc
    have q := List.all_eq_true.mp ((Array.all_eq_true_iff_forall_mem.mp hF) _ (Array.getElem_mem ha)) i (List.mem_range.mpr hi)
    simpa [Array.getElem?_eq_getElem hi] using q
  obtain ⟨i0, ei0⟩ := is_v ga0
  obtain rfl : w0 = (.int i0) := Option.some.inj ei0
  obtain ⟨i1, ei1⟩ := isL_v ga1
  obtain rfl : w1 = (.long i1) := Option.some.inj ei1
  obtain ⟨i2, ei2⟩ := isL_v ga2
  obtain rfl : w2 = (.long i2) := Option.some.inj ei2
  obtain ⟨i3, ei3⟩ := isL_v ga3
  obtain rfl : w3 = (.long i3) := Option.some.inj ei3
  obtain ⟨i4, ei4⟩ := is_v g4
  obtain rfl : w4 = (.int i4) := Option.some.inj ei4
  obtain ⟨n, o, h1, h2, h3, _, L, rfl, ⟨rfl, N⟩, hq⟩ := rm0 l s _ hw tables_1 i0 i1 i2 i3 i4 s.heap s.heap.size (Nat.le_refl _) p e ha hc hk s m _ below hf ((Spec.applies_iff_loose hf).mp happ).1 ⟨rfl, State.Warmed39.refl s, rfl⟩ trivial
  refine ⟨n, _, h1, h2, h3, hpost _ _ _ _ _ _ ⟨Cond.after_iff.mpr rfl, Cond.after_iff.mpr (eq_i res_at (Term.int_eval (1)) rfl), trivial⟩ ⟨hq.1, hq.2.1, (hq.2.2.sift fun y hy => Or.inr (N y hy)).mono (by decide) (by decide)⟩⟩
theorem main_1_1 : Claimed_1_1 := comes_1 fun _ _ _ _ _ _ h hF => ⟨h.1, hF⟩
theorem main_1_2 : Claimed_1_2 := comes_1 fun _ _ _ _ _ _ h hF => ⟨h.2.1, hF⟩
end Jvm.Pilot.@@N@@
namespace Jvm.Pilot.@@N@@
open Jvm Jvm.ClassFile Sem Op Lib Jvm.Free Jvm.Stand Jvm.Pilot.@@N@@.Jvm.D
/-! MADE BY PROGRAM (witnessworld.py) out of the Statement's table words and the real class files: 11 classes; the members and pool entries that the words name. The judged class is class 1, her method 1. -/
namespace start1
open Jvm.ClassFile
def u (s : String) : CpInfo := .utf8 (stringToUtf16 s)
/-- a pool by its gaps: so many unusable entries, then the entry; so many at the end -/
def gap : Nat → List CpInfo → List CpInfo
  | 0, r => r
  | n + 1, r => .unusable :: gap n r
def poolList (es : List (Nat × CpInfo)) (last : Nat) : List CpInfo := es.foldr (fun e r => gap e.1 (e.2 :: r)) (gap last [])
def pool (es : List (Nat × CpInfo)) (last : Nat) : Array CpInfo := ⟨poolList es last⟩
def fileOf (pool : Array CpInfo) (this : Nat) (attrs : Array Attribute := #[]) (ms : Array MethodInfo := #[]) (fl : Nat := 33) (sup : Nat := 0) (ifs : Array Nat := #[]) (fds : Array FieldInfo := #[]) : ClassFile where
  minorVersion := 0
  majorVersion := 65
  constantPool := pool
  accessFlags := fl
  thisClass := this
  superClass := sup
  interfaces := ifs
  fields := fds
  methods := ms
  attributes := attrs
def plain (name : String) (sup : Option ClassId) : Class where
  name := name
  kind := .ordinary
  loader := none
  accessFlags := 33
  super := sup
  interfaces := #[]
  cf := none
  fields := #[]
  methods := #[]
  instanceTypes := #[]
  staticTypes := #[]
  resolved := #[]
  callSites := []
  init := .initialized
  statics := none
  mirror := none

def pool0 : Array CpInfo := pool [(5, u "<init>"), (0, u "()V"), (1, .class_ 10), (1, u "java/lang/Object")] 113

def k0c0 : Code := { maxStack := 0, maxLocals := 1, code := object_method_1_code, exceptionTable := #[], attributes := #[] }
def k0m0 : Method := { name := "<init>", desc := "()V", sig := { parameters := [], returnType := none }, accessFlags := 1, code := some k0c0 }
/-- java/lang/Object -/
def k0 : Class := { plain "java/lang/Object" none with
  accessFlags := 33
  interfaces := #[]
  cf := some (fileOf pool0 8 #[] #[{ accessFlags := 1, nameIndex := 5, descriptorIndex := 6, attributes := #[] }] 33 0 #[] #[])
  fields := #[]
  methods := #[k0m0]
  instanceTypes := #[]
  staticTypes := #[]
  resolved := Array.replicate 124 none
  statics := none }

def pool1 : Array CpInfo := pool [(2, .class_ 4), (1, u "java/lang/Object"), (0, u "<init>"), (0, u "()V"), (0, .integer 2147483647), (2, .long 9223372036854775807), (1, .long 4294967295), (1, .class_ 15), (0, u "com/example/curtaincall/curtaincall/core/Weight"), (0, .methodref 14 17), (0, .nameAndType 5 18), (0, u "(IJ)V"), (0, .methodref 14 20), (0, .nameAndType 21 22), (0, u "effectiveAt"), (0, u "(J)I"), (0, .methodref 24 25), (0, .class_ 26), (0, .nameAndType 27 28), (0, u "java/lang/Math"), (0, u "max"), (0, u "(JJ)J"), (0, .methodref 24 30), (0, .nameAndType 31 28), (0, u "min"), (0, .class_ 33), (0, u "com/example/curtaincall/curtaincall/core/WeightEffectiveAtPinLaw"), (2, u "law"), (0, u "(IJJJI)Z")] 3

def k1m0 : Method := { name := "<init>", desc := "()V", sig := { parameters := [], returnType := none }, accessFlags := 1, code := none }
def k1c1 : Code := { maxStack := 6, maxLocals := 24, code := code, exceptionTable := #[], attributes := #[] }
def k1m1 : Method := { name := "law", desc := "(IJJJI)Z", sig := { parameters := [.int, .long, .long, .long, .int], returnType := some .boolean }, accessFlags := 9, code := some k1c1 }
/-- com/example/curtaincall/curtaincall/core/WeightEffectiveAtPinLaw -/
def k1 : Class := { plain "com/example/curtaincall/curtaincall/core/WeightEffectiveAtPinLaw" (some 0) with
  accessFlags := 49
  interfaces := #[]
  cf := some (fileOf pool1 32 #[] #[{ accessFlags := 1, nameIndex := 5, descriptorIndex := 6, attributes := #[] }, { accessFlags := 9, nameIndex := 36, descriptorIndex := 37, attributes := #[] }] 49 2 #[] #[])
  fields := #[]
  methods := #[k1m0, k1m1]
  instanceTypes := #[]
  staticTypes := #[]
  resolved := Array.replicate 41 none
  statics := none }

def pool2 : Array CpInfo := pool [(1, .methodref 2 3), (0, .class_ 4), (0, .nameAndType 5 6), (0, u "java/lang/Object"), (0, u "<init>"), (0, u "()V"), (0, .class_ 8), (0, u "java/lang/Record")] 13

def k2c0 : Code := { maxStack := 1, maxLocals := 1, code := jdk_30_method_1_code, exceptionTable := #[], attributes := #[] }
def k2m0 : Method := { name := "<init>", desc := "()V", sig := { parameters := [], returnType := none }, accessFlags := 4, code := some k2c0 }
/-- java/lang/Record -/
def k2 : Class := { plain "java/lang/Record" (some 0) with
  accessFlags := 1057
  interfaces := #[]
  cf := some (fileOf pool2 7 #[] #[{ accessFlags := 4, nameIndex := 5, descriptorIndex := 6, attributes := #[] }] 1057 2 #[] #[])
  fields := #[]
  methods := #[k2m0]
  instanceTypes := #[]
  staticTypes := #[]
  resolved := Array.replicate 22 none
  statics := none }

def pool3 : Array CpInfo := pool [(1, .methodref 2 3), (0, .class_ 4), (0, .nameAndType 5 6), (0, u "java/lang/Record"), (0, u "<init>"), (0, u "()V"), (12, .fieldref 20 21), (0, .class_ 22), (0, .nameAndType 23 24), (0, u "com/example/curtaincall/curtaincall/core/Weight"), (0, u "full"), (0, u "I"), (0, .fieldref 20 26), (0, .nameAndType 27 28), (0, u "warmupMs"), (0, u "J"), (0, .methodref 30 31), (0, .class_ 32), (0, .nameAndType 33 34), (0, u "java/lang/Math"), (0, u "min"), (0, u "(JJ)J"), (0, .methodref 30 36), (0, .nameAndType 37 34), (0, u "max"), (16, u "(IJ)V"), (2, u "DEFAULT"), (0, u "Lcom/example/curtaincall/curtaincall/core/Weight;"), (0, u "DEFAULT_FULL"), (2, u "DEFAULT_WARMUP_MS"), (4, u "effectiveAt"), (0, u "(J)I")] 36

def k3c0 : Code := { maxStack := 4, maxLocals := 4, code := prog_14_method_1_code, exceptionTable := #[], attributes := #[] }
def k3m0 : Method := { name := "<init>", desc := "(IJ)V", sig := { parameters := [.int, .long], returnType := none }, accessFlags := 1, code := some k3c0 }
def k3c1 : Code := { maxStack := 6, maxLocals := 6, code := prog_14_method_2_code, exceptionTable := #[], attributes := #[] }
def k3m1 : Method := { name := "effectiveAt", desc := "(J)I", sig := { parameters := [.long], returnType := some .int }, accessFlags := 1, code := some k3c1 }
/-- com/example/curtaincall/curtaincall/core/Weight -/
def k3 : Class := { plain "com/example/curtaincall/curtaincall/core/Weight" (some 2) with
  accessFlags := 49
  interfaces := #[]
  cf := some (fileOf pool3 20 #[] #[{ accessFlags := 1, nameIndex := 5, descriptorIndex := 54, attributes := #[] }, { accessFlags := 1, nameIndex := 67, descriptorIndex := 68, attributes := #[] }] 49 2 #[] #[{ accessFlags := 18, nameIndex := 23, descriptorIndex := 24, attributes := #[] }, { accessFlags := 18, nameIndex := 27, descriptorIndex := 28, attributes := #[] }, { accessFlags := 25, nameIndex := 59, descriptorIndex := 24, attributes := #[] }, { accessFlags := 25, nameIndex := 62, descriptorIndex := 28, attributes := #[] }, { accessFlags := 25, nameIndex := 57, descriptorIndex := 58, attributes := #[] }])
  fields := #[{ name := "full", type := .int, accessFlags := 18, slot := 0, constantValue := 0 }, { name := "warmupMs", type := .long, accessFlags := 18, slot := 1, constantValue := 0 }, { name := "DEFAULT_FULL", type := .int, accessFlags := 25, slot := 0, constantValue := 0 }, { name := "DEFAULT_WARMUP_MS", type := .long, accessFlags := 25, slot := 1, constantValue := 0 }, { name := "DEFAULT", type := (.object "com/example/curtaincall/curtaincall/core/Weight"), accessFlags := 25, slot := 2, constantValue := 0 }]
  methods := #[k3m0, k3m1]
  instanceTypes := #[.int, .long]
  staticTypes := #[.int, .long, (.object "com/example/curtaincall/curtaincall/core/Weight")]
  resolved := Array.replicate 105 none
  statics := none }

def pool4 : Array CpInfo := pool [(1, .class_ 2), (0, u "java/lang/Math"), (1, .class_ 6), (1, u "java/lang/Object"), (0, u "<init>"), (0, u "()V"), (89, .class_ 100), (1, u "java/lang/Math$RandomNumberGeneratorHolder"), (20, u "(JJ)J"), (50, u "negativeZeroFloatBits"), (0, u "J"), (2, u "negativeZeroDoubleBits"), (21, u "max"), (2, u "min"), (43, u "$assertionsDisabled"), (0, u "Z"), (91, u "twoToTheDoubleScaleDown"), (0, u "D"), (4, u "twoToTheDoubleScaleUp"), (9, u "E"), (3, u "PI"), (2, u "TAU"), (2, u "DEGREES_TO_RADIANS"), (0, u "RADIANS_TO_DEGREES")] 94

def k4m0 : Method := { name := "<init>", desc := "()V", sig := { parameters := [], returnType := none }, accessFlags := 2, code := none }
def k4c1 : Code := { maxStack := 4, maxLocals := 4, code := jdk_29_method_66_code, exceptionTable := #[], attributes := #[] }
def k4m1 : Method := { name := "max", desc := "(JJ)J", sig := { parameters := [.long, .long], returnType := some .long }, accessFlags := 9, code := some k4c1 }
def k4c2 : Code := { maxStack := 4, maxLocals := 4, code := jdk_29_method_70_code, exceptionTable := #[], attributes := #[] }
def k4m2 : Method := { name := "min", desc := "(JJ)J", sig := { parameters := [.long, .long], returnType := some .long }, accessFlags := 9, code := some k4c2 }
/-- java/lang/Math -/
def k4 : Class := { plain "java/lang/Math" (some 0) with
  accessFlags := 49
  interfaces := #[]
  cf := some (fileOf pool4 1 #[.nestMembers #[98]] #[{ accessFlags := 2, nameIndex := 7, descriptorIndex := 8, attributes := #[] }, { accessFlags := 9, nameIndex := 198, descriptorIndex := 121, attributes := #[] }, { accessFlags := 9, nameIndex := 201, descriptorIndex := 121, attributes := #[] }] 49 4 #[] #[{ accessFlags := 25, nameIndex := 354, descriptorIndex := 339, attributes := #[] }, { accessFlags := 25, nameIndex := 358, descriptorIndex := 339, attributes := #[] }, { accessFlags := 25, nameIndex := 361, descriptorIndex := 339, attributes := #[] }, { accessFlags := 26, nameIndex := 364, descriptorIndex := 339, attributes := #[] }, { accessFlags := 26, nameIndex := 365, descriptorIndex := 339, attributes := #[] }, { accessFlags := 26, nameIndex := 172, descriptorIndex := 173, attributes := #[] }, { accessFlags := 26, nameIndex := 176, descriptorIndex := 173, attributes := #[] }, { accessFlags := 8, nameIndex := 344, descriptorIndex := 339, attributes := #[] }, { accessFlags := 8, nameIndex := 338, descriptorIndex := 339, attributes := #[] }, { accessFlags := 4120, nameIndex := 245, descriptorIndex := 246, attributes := #[] }])
  fields := #[{ name := "E", type := .double, accessFlags := 25, slot := 0, constantValue := 0 }, { name := "PI", type := .double, accessFlags := 25, slot := 1, constantValue := 0 }, { name := "TAU", type := .double, accessFlags := 25, slot := 2, constantValue := 0 }, { name := "DEGREES_TO_RADIANS", type := .double, accessFlags := 26, slot := 3, constantValue := 0 }, { name := "RADIANS_TO_DEGREES", type := .double, accessFlags := 26, slot := 4, constantValue := 0 }, { name := "negativeZeroFloatBits", type := .long, accessFlags := 26, slot := 5, constantValue := 0 }, { name := "negativeZeroDoubleBits", type := .long, accessFlags := 26, slot := 6, constantValue := 0 }, { name := "twoToTheDoubleScaleUp", type := .double, accessFlags := 8, slot := 7, constantValue := 0 }, { name := "twoToTheDoubleScaleDown", type := .double, accessFlags := 8, slot := 8, constantValue := 0 }, { name := "$assertionsDisabled", type := .boolean, accessFlags := 4120, slot := 9, constantValue := 0 }]
  methods := #[k4m0, k4m1, k4m2]
  instanceTypes := #[]
  staticTypes := #[.double, .double, .double, .double, .double, .long, .long, .double, .double, .boolean]
  resolved := Array.replicate 460 none
  statics := none }

def pool5 : Array CpInfo := pool [(1, u "java/lang/Cloneable"), (0, .class_ 1), (0, u "java/lang/Object"), (0, .class_ 3)] 3

/-- java/lang/Cloneable -/
def k5 : Class := { plain "java/lang/Cloneable" (some 0) with
  accessFlags := 1537
  interfaces := #[]
  cf := some (fileOf pool5 2 #[] #[] 1537 4 #[] #[])
  fields := #[]
  methods := #[]
  instanceTypes := #[]
  staticTypes := #[]
  resolved := Array.replicate 8 none
  statics := none }

def pool6 : Array CpInfo := pool [(1, u "java/io/Serializable"), (0, .class_ 1), (0, u "java/lang/Object"), (0, .class_ 3)] 3

/-- java/io/Serializable -/
def k6 : Class := { plain "java/io/Serializable" (some 0) with
  accessFlags := 1537
  interfaces := #[]
  cf := some (fileOf pool6 2 #[] #[] 1537 4 #[] #[])
  fields := #[]
  methods := #[]
  instanceTypes := #[]
  staticTypes := #[]
  resolved := Array.replicate 8 none
  statics := none }

/-- the primitive byte -/
def k7 : Class := { plain "byte" none with kind := .primitive 'B', accessFlags := 0x411 }
/-- [B -/
def k8 : Class := { plain "[B" (some 0) with kind := .array 7 .byte, interfaces := #[5, 6], accessFlags := 1041 }

/-- the primitive int -/
def k9 : Class := { plain "int" none with kind := .primitive 'I', accessFlags := 0x411 }
/-- [I -/
def k10 : Class := { plain "[I" (some 0) with kind := .array 9 .int, interfaces := #[5, 6], accessFlags := 1041 }

def heap : Heap := #[]
def classes : Array Class := #[k0, k1, k2, k3, k4, k5, k6, k7, k8, k9, k10]
def interned : List (Array UInt16 × Addr) := []
def slotsUsed : Nat := 0
def theMethod : MethodId := ⟨1, 1⟩
def args0 : Array Value := #[.int 5, .long 100, .long 7, .long 9, .int 3]
def aboutOver (below : List Frame) : State where
  vm := { classes := classes, interned := interned.toArray }
  heap := heap
  slotsUsed := slotsUsed
  threads := #[{ frames := .invoking theMethod args0 :: below }]
def below0 : List Frame := [.native { method := ⟨0, 0⟩, args := #[] }]
def about1 : State := aboutOver below0
def p0 : Program := .bare "" "" ""
def e0 : Env := launch0.env 0 0 0
theorem w_frames : about1.frames = Frame.invoking theMethod args0 :: below0 := rfl
set_option maxRecDepth 65536 in
theorem w_args : argsFit about1.vm theMethod args0 = true := by decide +kernel
set_option maxRecDepth 65536 in
theorem w_heap : heapFits about1 = true := by decide +kernel
set_option maxRecDepth 65536 in
theorem w_runnable : about1.curStatus? = some .runnable := by decide +kernel
set_option maxRecDepth 65536 in
theorem w_alone : about1.alone = true := by decide +kernel
set_option maxRecDepth 65536 in
theorem w_named : about1.methodNamed? x = some theMethod := by decide +kernel
set_option maxRecDepth 65536 in
theorem w_hears : about1.hears theMethod below0 = true := by decide +kernel
set_option maxRecDepth 65536 in
theorem w_ripe : about1.ripe theMethod args0 below0 = true := by decide +kernel
theorem w_running : about1.status = .running := rfl
set_option maxRecDepth 65536 in
theorem w_room : about1.hasRoom e0.platform room_1 = true :=
  launch0.hasRoom_least _ room_1 (by decide +kernel) (by decide +kernel) (by decide +kernel) (by decide +kernel) (by decide +kernel) (by decide +kernel)
theorem allAtoms_all (ts : List Jvm.Cond) (a : Array Jvm.Value) (st : Jvm.State) : (allAtoms ts).before a st = ts.all (fun c => c.before a st) := by
  induction ts with
  | nil => rfl
  | cons c t ih =>
    show (Jvm.Cond.and c (allAtoms t)).before a st = _
    rw [Jvm.Cond.before_and, ih, List.all_cons]
def words1 : List Jvm.Cond := Jvm.Cond.code x code maxLocals ret :: tables_1
/-- a 'code' word, met by the world's own term for the bytes: nothing is compared byte by byte -/
theorem code_word {y : MethodName} {bytes : ByteArray} {mx : Nat} {rt : Option FieldType} {a : Array Value} {s : State} {m : MethodId} {meth : Method} {c : Code} (h1 : s.methodNamed? y = some m) (h2 : s.vm.method? m = some meth) (h3 : meth.code = some c) (h4 : c.code = bytes)
    (h5 : (c.maxLocals == mx && c.exceptionTable.isEmpty && decide (c.maxStack ≤ mostOperands) && decide (meth.sig.returnType = rt) && !meth.locks && decide (parseMethodDescriptor y.desc = some meth.sig)) = true) : (Jvm.Cond.code y bytes mx rt).before a s = true := by
  simp only [Bool.and_eq_true, beq_iff_eq, Bool.not_eq_true', decide_eq_true_eq] at h5
  obtain ⟨⟨⟨⟨⟨g1, g2⟩, g3⟩, g4⟩, g5⟩, g6⟩ := h5
  simp [Cond.before, Cond.holds, Cond.value, h1, h2, h3, h4, g1, g2, g3, g4, g5, g6]
def isCode : Jvm.Cond → Bool
  | .code _ _ _ _ => true
  | _ => false
theorem all_split {L : List Jvm.Cond} {P : Jvm.Cond → Bool} (h1 : L.all (fun c => isCode c || P c) = true) (h2 : ∀ c ∈ L.filter isCode, P c = true) : L.all P = true := by
  refine List.all_eq_true.mpr fun c hc => ?_
  have h := List.all_eq_true.mp h1 c hc
  rcases Bool.eq_false_or_eq_true (isCode c) with hi | hi
  · exact h2 c (List.mem_filter.mpr ⟨hc, hi⟩)
  · simpa [hi] using h
set_option maxRecDepth 65536 in
theorem w_c0 : (Jvm.Cond.code x code maxLocals ret).before args0 about1 = true := code_word (m := ⟨1, 1⟩) (meth := k1m1) (c := k1c1) (by decide +kernel) rfl rfl rfl (by decide +kernel)
set_option maxRecDepth 65536 in
theorem w_c1 : (Jvm.Cond.code ({ cls := "com/example/curtaincall/curtaincall/core/Weight", name := "<init>", desc := "(IJ)V" } : Jvm.MethodName) prog_14_method_1_code (4 : Nat) (Option.none : Option Jvm.ClassFile.FieldType)).before args0 about1 = true := code_word (m := ⟨3, 0⟩) (meth := k3m0) (c := k3c0) (by decide +kernel) rfl rfl rfl (by decide +kernel)
set_option maxRecDepth 65536 in
theorem w_c2 : (Jvm.Cond.code ({ cls := "java/lang/Record", name := "<init>", desc := "()V" } : Jvm.MethodName) jdk_30_method_1_code (1 : Nat) (Option.none : Option Jvm.ClassFile.FieldType)).before args0 about1 = true := code_word (m := ⟨2, 0⟩) (meth := k2m0) (c := k2c0) (by decide +kernel) rfl rfl rfl (by decide +kernel)
set_option maxRecDepth 65536 in
theorem w_c3 : (Jvm.Cond.code ({ cls := "java/lang/Object", name := "<init>", desc := "()V" } : Jvm.MethodName) object_method_1_code (1 : Nat) (Option.none : Option Jvm.ClassFile.FieldType)).before args0 about1 = true := code_word (m := ⟨0, 0⟩) (meth := k0m0) (c := k0c0) (by decide +kernel) rfl rfl rfl (by decide +kernel)
set_option maxRecDepth 65536 in
theorem w_c4 : (Jvm.Cond.code ({ cls := "com/example/curtaincall/curtaincall/core/Weight", name := "effectiveAt", desc := "(J)I" } : Jvm.MethodName) prog_14_method_2_code (6 : Nat) (Option.some Jvm.ClassFile.FieldType.int)).before args0 about1 = true := code_word (m := ⟨3, 1⟩) (meth := k3m1) (c := k3c1) (by decide +kernel) rfl rfl rfl (by decide +kernel)
set_option maxRecDepth 65536 in
theorem w_c5 : (Jvm.Cond.code ({ cls := "java/lang/Math", name := "min", desc := "(JJ)J" } : Jvm.MethodName) jdk_29_method_70_code (4 : Nat) (Option.some Jvm.ClassFile.FieldType.long)).before args0 about1 = true := code_word (m := ⟨4, 2⟩) (meth := k4m2) (c := k4c2) (by decide +kernel) rfl rfl rfl (by decide +kernel)
set_option maxRecDepth 65536 in
theorem w_c6 : (Jvm.Cond.code ({ cls := "java/lang/Math", name := "max", desc := "(JJ)J" } : Jvm.MethodName) jdk_29_method_66_code (4 : Nat) (Option.some Jvm.ClassFile.FieldType.long)).before args0 about1 = true := code_word (m := ⟨4, 1⟩) (meth := k4m1) (c := k4c1) (by decide +kernel) rfl rfl rfl (by decide +kernel)
def codes1 : List Jvm.Cond := [Jvm.Cond.code x code maxLocals ret, Jvm.Cond.code ({ cls := "com/example/curtaincall/curtaincall/core/Weight", name := "<init>", desc := "(IJ)V" } : Jvm.MethodName) prog_14_method_1_code (4 : Nat) (Option.none : Option Jvm.ClassFile.FieldType), Jvm.Cond.code ({ cls := "java/lang/Record", name := "<init>", desc := "()V" } : Jvm.MethodName) jdk_30_method_1_code (1 : Nat) (Option.none : Option Jvm.ClassFile.FieldType), Jvm.Cond.code ({ cls := "java/lang/Object", name := "<init>", desc := "()V" } : Jvm.MethodName) object_method_1_code (1 : Nat) (Option.none : Option Jvm.ClassFile.FieldType), Jvm.Cond.code ({ cls := "com/example/curtaincall/curtaincall/core/Weight", name := "effectiveAt", desc := "(J)I" } : Jvm.MethodName) prog_14_method_2_code (6 : Nat) (Option.some Jvm.ClassFile.FieldType.int), Jvm.Cond.code ({ cls := "java/lang/Math", name := "min", desc := "(JJ)J" } : Jvm.MethodName) jdk_29_method_70_code (4 : Nat) (Option.some Jvm.ClassFile.FieldType.long), Jvm.Cond.code ({ cls := "java/lang/Math", name := "max", desc := "(JJ)J" } : Jvm.MethodName) jdk_29_method_66_code (4 : Nat) (Option.some Jvm.ClassFile.FieldType.long)]
set_option maxRecDepth 65536 in
theorem codes_eq : words1.filter isCode = codes1 := rfl
theorem w_codes : ∀ c ∈ words1.filter isCode, c.before args0 about1 = true := by
  rw [codes_eq]
  intro c hc
  simp only [codes1, List.mem_cons, List.not_mem_nil, or_false] at hc
  rcases hc with rfl | rfl | rfl | rfl | rfl | rfl | rfl
  · exact w_c0
  · exact w_c1
  · exact w_c2
  · exact w_c3
  · exact w_c4
  · exact w_c5
  · exact w_c6
set_option maxRecDepth 65536 in
theorem w_t1 : (words1.take 24).all (fun c => isCode c || c.before args0 about1) = true := by decide +kernel
set_option maxRecDepth 65536 in
theorem w_t2 : (words1.drop 24).all (fun c => isCode c || c.before args0 about1) = true := by decide +kernel
theorem w_tables : (allAtoms (Jvm.Cond.code x code maxLocals ret :: tables_1)).before args0 about1 = true := by
  rw [allAtoms_all]
  show words1.all (fun c => c.before args0 about1) = true
  refine all_split ?_ w_codes
  rw [← List.take_append_drop 24 words1, List.all_append, w_t1, w_t2]
  rfl
set_option maxRecDepth 65536 in
theorem w_case : (Jvm.Cond.and given_1 narrow_1).before args0 about1 = true := by decide +kernel
theorem w_applies : (headSpec (Jvm.Cond.code x code maxLocals ret :: tables_1) room_1).applies x e0.platform about1 = true :=
  (Spec.applies_iff w_frames).mpr ⟨w_running, w_runnable, w_alone, w_named, w_hears, w_ripe, w_room, w_tables⟩
theorem atStart : AtStart classFile x code maxLocals ret World_1 tables_1 room_1 Calls_1 rest_1 Pre_1 launch0 p0 e0 about1 theMethod args0 below0 :=
  ⟨lists_1, trivial, launch0.admits_env _ _ _, launch0.least_env, fairChoices_fair.cas, fairChoices_fair.clock, w_frames, w_args, w_heap, w_applies, trivial, trivial, w_case⟩
end start1
theorem witness_1 : WitnessClaimed_1 := ⟨start1.p0, start1.e0, start1.about1, start1.theMethod, start1.args0, start1.below0, start1.atStart⟩
end Jvm.Pilot.@@N@@
