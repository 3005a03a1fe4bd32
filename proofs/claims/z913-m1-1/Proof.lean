import JvmDerived
import JvmDerived.Pilot.@@N@@Statement
import JvmDerived.Pilot.@@N@@Code
set_option linter.unusedVariables false
set_option linter.unusedSimpArgs false
namespace Jvm.RoadKit
open Sem ClassFile Op Lib Jvm.Stand Jvm.Free Jvm.LawKit
section New
variable {p : Program} {l : Launch} {e : Env} {R : Room} {s : State} {m : MethodId} {args : Array Value} {below : List Frame} {meth : Method} {c : Code} {T : State} {locs : List Loc} {cells slots : Nat}
theorem retI (X : Stand p l e R s m args below meth c T locs cells slots) (hx : p.tables.exec = Jvm.exec) {pc : Nat} {Ls : Array Slot} {z : Int32} {rest : List Value} (hret : meth.sig.returnType = some .int) (hd : decode c.code pc = .ok (.ireturn, 1)) {fs : List Frame}
    (hl : ∀ (f : JFrame) (acts : List Action), f.method = m → f.locked = none → f.entered = [] → (doReturn e (T.setTop f) acts (some (.int z))).1 = T.setFrames fs) : Steps p.tables e below (T.setTop (mkF m pc Ls (.int z :: rest))) (T.setFrames fs) := by
  have hm' : T.vm.method? m = some meth := X.method'
  have hn : narrow .int (.int z) = .int z := rfl
  show Steps p.tables e below (T.setTop { method := m, pc := pc, locals := Ls, stack := _ :: rest, locked := none }) _
  jvm_step X.here [X.here.top, hx, hd, hm', hret, hn]
  first | (intro acts; rw [hl _ acts rfl rfl rfl]) | rw [hl _ _ rfl rfl rfl]
  exact Steps.refl _
theorem retD (X : Stand p l e R s m args below meth c T locs cells slots) (hx : p.tables.exec = Jvm.exec) {pc : Nat} {Ls : Array Slot} {z : UInt64} {rest : List Value} (hret : meth.sig.returnType = some .double) (hd : decode c.code pc = .ok (.dreturn, 1)) {fs : List Frame}
    (hl : ∀ (f : JFrame) (acts : List Action), f.method = m → f.locked = none → f.entered = [] → (doReturn e (T.setTop f) acts (some (.double z))).1 = T.setFrames fs) : Steps p.tables e below (T.setTop (mkF m pc Ls (.double z :: rest))) (T.setFrames fs) := by
  have hm' : T.vm.method? m = some meth := X.method'
  have hn : narrow .double (.double z) = .double z := rfl
  show Steps p.tables e below (T.setTop { method := m, pc := pc, locals := Ls, stack := _ :: rest, locked := none }) _
  jvm_step X.here [X.here.top, hx, hd, hm', hret, hn]
  first | (intro acts; rw [hl _ acts rfl rfl rfl]) | rw [hl _ _ rfl rfl rfl]
  exact Steps.refl _
theorem retJ (X : Stand p l e R s m args below meth c T locs cells slots) (hx : p.tables.exec = Jvm.exec) {pc : Nat} {Ls : Array Slot} {z : Int64} {rest : List Value} (hret : meth.sig.returnType = some .long) (hd : decode c.code pc = .ok (.lreturn, 1)) {fs : List Frame}
    (hl : ∀ (f : JFrame) (acts : List Action), f.method = m → f.locked = none → f.entered = [] → (doReturn e (T.setTop f) acts (some (.long z))).1 = T.setFrames fs) : Steps p.tables e below (T.setTop (mkF m pc Ls (.long z :: rest))) (T.setFrames fs) := by
  have hm' : T.vm.method? m = some meth := X.method'
  have hn : narrow .long (.long z) = .long z := rfl
  show Steps p.tables e below (T.setTop { method := m, pc := pc, locals := Ls, stack := _ :: rest, locked := none }) _
  jvm_step X.here [X.here.top, hx, hd, hm', hret, hn]
  first | (intro acts; rw [hl _ acts rfl rfl rfl]) | rw [hl _ _ rfl rfl rfl]
  exact Steps.refl _
end New
end Jvm.RoadKit
namespace Jvm.Pilot.@@N@@
open Jvm Jvm.ClassFile Sem Op Lib Jvm.Free Jvm.Stand Jvm.LawKit Jvm.RoadKit Bundle Jvm.Pilot.@@N@@.Jvm.D Jvm.Free.Fl
open Jvm.Free.XT (n32 succ32 add32n lt32 nlt32)

theorem own_cl (r : Option Ordering) : cmpValue r .l = 0 ↔ r = some .eq := by rcases r with _ | (_ | _ | _) <;> decide
theorem own_cl_pos (r : Option Ordering) : 0 < cmpValue r .l ↔ r = some .gt := by rcases r with _ | (_ | _ | _) <;> decide
theorem own_dconst0 : FP.Core.DInt 0 FP.dconst0 := FP.Core.i2d_int 0
theorem own_i2d_pos (a : Int32) : 0 < cmpValue (FP.dcmp (FP.i2d a) FP.dconst0) .l ↔ 0 < a := by
  rw [own_cl_pos, show FP.dcmp (FP.i2d a) FP.dconst0 = _ from FP.Core.dcmp_int (FP.Core.i2d_int a) own_dconst0, Option.some.injEq, FP.Core.compare_gt_iff, Int32.lt_iff_toInt_lt]
  rfl
theorem own_div_fin {a b : UInt64} {s : Bool} {c : Nat} {q : Int} (k : Nat) (ha : FP.Core.val64 a = .fin s c q) (hb : FP.Core.val64 b = .fin false (2 ^ 52) ((k : Int) - 52)) (hq : FP.Core.b64.qmin + k ≤ q) (hc : FP.Core.b64.tails ≤ c) :
    FP.Core.val64 (FP.ddiv a b) = .fin s c (q - k) := by
  have hf := FP.Core.val64_fits a
  rw [ha] at hf
  obtain ⟨f1, f2, f3, f4⟩ := hf
  show FP.Core.val64 (FP.Core.ddiv a b) = _
  rw [FP.Core.val64_ddiv, ha, hb]
  show (if (2 : Nat) ^ 52 = 0 then (if c = 0 then FP.Core.Datum.nan else FP.Core.Datum.inf (s != false)) else FP.Core.roundRatio FP.Core.b64 (s != false) c (2 ^ 52) (q - ((k : Int) - 52))) = _
  rw [if_neg (by decide), Bool.bne_false]
  rw [FP.Core.roundRatio_congr (B := 2 ^ 52) (A' := c) (B' := 1) (e' := q - k) (by decide) (by decide) (by
    have e1 : (q - ((k : Int) - 52) - (q - k)).toNat = 52 := by omega
    have e2 : (q - k - (q - ((k : Int) - 52))).toNat = 0 := by omega
    rw [e1, e2, Nat.mul_one, Nat.pow_zero, Nat.mul_one])]
  exact FP.Core.round_of_fits FP.Core.good_b64 (d := .fin s c (q - k)) ⟨f1, by omega, by omega, Or.inr hc⟩
theorem own_pow_lt {c E B : Nat} (hc : c < 2 ^ FP.Core.b64.p) (hE : E + 53 ≤ B) : c * 2 ^ E < 2 ^ B := by
  have h1 : c * 2 ^ E < 2 ^ FP.Core.b64.p * 2 ^ E := Nat.mul_lt_mul_of_pos_right hc (Nat.two_pow_pos _)
  rw [← Nat.pow_add] at h1
  exact Nat.lt_of_lt_of_le h1 (Nat.pow_le_pow_right (by decide) (by show 53 + E ≤ B; omega))
theorem own_dint_fin {n : Int} {a : UInt64} (h : FP.Core.DInt n a) (hn : n ≠ 0) : ∃ s c q, FP.Core.val64 a = .fin s c q ∧ FP.Core.b64.tails ≤ c ∧ -53 ≤ q := by
  have hz := FP.Core.DInt_zval h
  have hf := FP.Core.val64_fits a
  unfold FP.Core.DInt at h
  cases hv : FP.Core.val64 a with
  | nan => rw [hv] at h; exact h.elim
  | inf s => rw [hv] at h; exact h.elim
  | fin s c q =>
    rw [hv] at hf hz
    obtain ⟨f1, f2, f3, f4⟩ := hf
    refine ⟨s, c, q, rfl, ?_⟩
    have hu : c * 2 ^ (q - FP.Core.b64.qmin).toNat = n.natAbs * FP.Core.one64 := by
      have := congrArg Int.natAbs hz
      rw [Int.natAbs_mul, Int.natAbs_natCast] at this
      rw [← this]
      show _ = (FP.Core.signed s (FP.Core.inUnits c q FP.Core.b64.qmin)).natAbs
      rw [FP.Core.natAbs_signed]; rfl
    have h1 : FP.Core.one64 ≤ n.natAbs * FP.Core.one64 := Nat.le_mul_of_pos_left _ (by omega)
    have hp : (2 : Nat) ^ (-FP.Core.b64.qmin).toNat = FP.Core.one64 := FP.Core.pow_qmin64
    have e0 : FP.Core.b64.qmin = -1074 := FP.Core.qmin_b64
    have hq : -53 ≤ q := by
      refine Int.not_lt.mp fun hlt => ?_
      have h2 := own_pow_lt (c := c) (E := (q - FP.Core.b64.qmin).toNat) (B := (-FP.Core.b64.qmin).toNat) f1 (by omega)
      rw [hp, hu] at h2
      exact Nat.lt_irrefl _ (Nat.lt_of_lt_of_le h2 h1)
    refine ⟨?_, hq⟩
    rcases f4 with f4 | f4
    · omega
    · exact f4

open Jvm.FP.Core in
def own_N (a : UInt64) : Prop := ∃ c q, val64 a = .fin false c q
section Mono
open Jvm.FP.Core
theorem own_rmono {c c' : Nat} {q q' e0 : Int} (h0 : e0 ≤ b64.qmin) (h1 : e0 ≤ q) (h2 : e0 ≤ q') (h : inUnits c q e0 ≤ inUnits c' q' e0) {a b : UInt64} (ha : val64 a = round b64 (.fin false c q)) (hb : val64 b = round b64 (.fin false c' q')) (fa : Fin64 a) (fb : Fin64 b) :
    own_N a ∧ own_N b ∧ zmag b64 (val64 a) ≤ zmag b64 (val64 b) := by
  have A : val64 a = roundRatio b64 false c 1 q := ha
  have B : val64 b = roundRatio b64 false c' 1 q' := hb
  obtain ⟨sa, ca, qa, va⟩ := fin64_core.mp fa
  obtain ⟨sb, cb, qb, vb⟩ := fin64_core.mp fb
  have ea : sa = false := by
    rcases roundRatio_cases b64 false c 1 q with ⟨x, y, hh⟩ | hh <;> rw [← A, va] at hh <;> cases hh
    rfl
  have eb : sb = false := by
    rcases roundRatio_cases b64 false c' 1 q' with ⟨x, y, hh⟩ | hh <;> rw [← B, vb] at hh <;> cases hh
    rfl
  subst ea eb
  refine ⟨⟨_, _, va⟩, ⟨_, _, vb⟩, ?_⟩
  have fta := val64_fits a
  have ftb := val64_fits b
  rw [va] at fta A
  rw [vb] at ftb B
  refine Nat.not_lt.mp fun hlt => ?_
  have d1 := roundRatio_nearest good_b64 (by decide) A.symm ftb.1 ftb.2.1 h0 h1
  have d2 := roundRatio_nearest good_b64 (by decide) B.symm fta.1 fta.2.1 h0 h2
  rw [va, vb] at hlt
  unfold distance at d1 d2
  rw [units_fin fta h0, units_fin ftb h0] at d1 d2
  have hp := Nat.two_pow_pos (b64.qmin - e0).toNat
  have hlt' := Nat.mul_lt_mul_of_pos_right hlt hp
  have heq : inUnits c q e0 = inUnits c' q' e0 := by
    generalize zmag b64 (Datum.fin false ca qa) * 2 ^ (b64.qmin - e0).toNat = u at *
    generalize zmag b64 (Datum.fin false cb qb) * 2 ^ (b64.qmin - e0).toNat = w at *
    omega
  have hcg : roundRatio b64 false c 1 q = roundRatio b64 false c' 1 q' := by
    refine roundRatio_congr (by decide) (by decide) ?_
    unfold inUnits at heq
    have hp' : 0 < 2 ^ (min q q' - e0).toNat := Nat.two_pow_pos _
    refine Nat.eq_of_mul_eq_mul_right hp' ?_
    rw [Nat.mul_one, Nat.mul_one, Nat.mul_assoc, Nat.mul_assoc, ← Nat.pow_add, ← Nat.pow_add, show (q - q').toNat + (min q q' - e0).toNat = (q - e0).toNat by omega, show (q' - q).toNat + (min q q' - e0).toNat = (q' - e0).toNat by omega]
    exact heq
  rw [← A, ← B] at hcg
  rw [hcg] at hlt
  exact Nat.lt_irrefl _ hlt
theorem own_l2d_r (b : Int64) (h : 0 ≤ b.toInt) : val64 (FP.l2d b) = round b64 (.fin false b.toInt.natAbs 0) := by
  have e := val64_l2d b
  rw [show ofInt b.toInt = .fin false b.toInt.natAbs 0 by unfold ofInt; simp; omega] at e
  exact e
theorem own_sum_r {a b : UInt64} (ha : own_N a) (hb : own_N b) : ∃ n e, val64 (FP.dadd a b) = round b64 (.fin false n e) ∧ b64.qmin ≤ e ∧ inUnits n e b64.qmin = zmag b64 (val64 a) + zmag b64 (val64 b) := by
  obtain ⟨c, q, va⟩ := ha
  obtain ⟨d, r, vb⟩ := hb
  have fa := val64_fits a
  have fb := val64_fits b
  rw [va] at fa
  rw [vb] at fb
  have h1 := fa.2.1
  have h2 := fb.2.1
  refine ⟨inUnits c q (min q r) + inUnits d r (min q r), min q r, ?_, by omega, ?_⟩
  · have e := val64_dadd a b
    rw [va, vb] at e
    rw [show FP.dadd a b = dadd a b from rfl, e]
    congr 1
    show Datum.fin (sumSign false false (((inUnits c q (min q r) : Nat) : Int) + ((inUnits d r (min q r) : Nat) : Int))) (((inUnits c q (min q r) : Nat) : Int) + ((inUnits d r (min q r) : Nat) : Int)).natAbs (min q r) = _
    congr 1
    · unfold sumSign
      split
      · rfl
      · simp; omega
  · rw [va, vb]
    show inUnits (inUnits c q (min q r) + inUnits d r (min q r)) (min q r) b64.qmin = inUnits c q b64.qmin + inUnits d r b64.qmin
    rw [inUnits_move c (q := q) (e := b64.qmin) (r := min q r) (by omega) (by omega), inUnits_move d (q := r) (e := b64.qmin) (r := min q r) (by omega) (by omega)]
    exact Nat.add_mul _ _ _
theorem own_prod_r {a b : UInt64} (ha : own_N a) (hb : own_N b) : ∃ n e, val64 (FP.dmul a b) = round b64 (.fin false n e) ∧ 2 * b64.qmin ≤ e ∧ inUnits n e (2 * b64.qmin) = zmag b64 (val64 a) * zmag b64 (val64 b) := by
  obtain ⟨c, q, va⟩ := ha
  obtain ⟨d, r, vb⟩ := hb
  have fa := val64_fits a
  have fb := val64_fits b
  rw [va] at fa
  rw [vb] at fb
  obtain ⟨h1, h2, h3⟩ := product_units fa fb
  refine ⟨c * d, q + r, ?_, h2, ?_⟩
  · have e := val64_dmul a b
    rw [va, vb, h1] at e
    exact e
  · rw [va, vb]; exact h3
theorem own_half_r {a : UInt64} (ha : own_N a) : ∃ n e, val64 (FP.ddiv a (4611686018427387904 : UInt64)) = round b64 (.fin false n e) ∧ b64.qmin - 1 ≤ e ∧ inUnits n e (b64.qmin - 1) = zmag b64 (val64 a) := by
  obtain ⟨c, q, va⟩ := ha
  have fa := val64_fits a
  rw [va] at fa
  have h1 := fa.2.1
  have two : val64 4611686018427387904 = .fin false (2 ^ 52) (-51) := by decide +kernel
  refine ⟨c, q - 1, ?_, by omega, ?_⟩
  · have e := val64_ddiv a 4611686018427387904
    rw [va, two] at e
    rw [show FP.ddiv a (4611686018427387904 : UInt64) = ddiv a 4611686018427387904 from rfl, e]
    show (if (2 : Nat) ^ 52 = 0 then (if c = 0 then Datum.nan else Datum.inf (false != false)) else roundRatio b64 (false != false) c (2 ^ 52) (q - (-51))) = roundRatio b64 false c 1 (q - 1)
    rw [if_neg (by decide)]
    refine roundRatio_congr (by decide) (by decide) ?_
    rw [show (q - -51 - (q - 1)).toNat = 52 by omega, show (q - 1 - (q - -51)).toNat = 0 by omega, Nat.mul_one, Nat.pow_zero, Nat.mul_one]
  · rw [va]
    show c * 2 ^ (q - 1 - (b64.qmin - 1)).toNat = c * 2 ^ (q - b64.qmin).toNat
    rw [show q - 1 - (b64.qmin - 1) = q - b64.qmin by omega]
end Mono
theorem own_m1 : Mag64 1088 FP.dconst1 := by unfold Mag64; decide
theorem own_m2 : Mag64 1088 (4611686018427387904 : UInt64) := by unfold Mag64; decide
theorem own_big2 : Big64 1024 (4611686018427387904 : UInt64) := by unfold Big64; decide
theorem own_N1 : own_N FP.dconst1 := ⟨_, _, FP.Core.val64_dconst1⟩
theorem own_N2 : own_N (4611686018427387904 : UInt64) := ⟨2 ^ 52, -51, by decide +kernel⟩
def own_A (b : Int64) : UInt64 := FP.dadd (FP.l2d b) FP.dconst1
def own_B (b : Int64) : UInt64 := FP.dadd (FP.l2d b) (4611686018427387904 : UInt64)
def own_C (b : Int64) : UInt64 := FP.dmul (own_A b) (own_B b)
def own_X (b : Int64) : UInt64 := FP.ddiv (own_C b) (4611686018427387904 : UInt64)
theorem own_mA (b : Int64) : Mag64 1090 (own_A b) := dadd_mag (l2d_mag b) own_m1 (by decide)
theorem own_mB (b : Int64) : Mag64 1090 (own_B b) := dadd_mag (l2d_mag b) own_m2 (by decide)
theorem own_mC (b : Int64) : Mag64 1158 (own_C b) := (dmul_mag (own_mA b) (own_mB b) (by decide) (by decide)).mono (by decide)
theorem own_mX (b : Int64) : Mag64 1158 (own_X b) := (Jvm.RoadKit.ddiv_mag (own_mC b) own_big2 (by decide) (by decide)).mono (by decide)
theorem own_Xmono {a b : Int64} (h0 : 0 ≤ a.toInt) (h : a.toInt ≤ b.toInt) : own_N (own_X a) ∧ own_N (own_X b) ∧ FP.Core.zmag FP.Core.b64 (FP.Core.val64 (own_X a)) ≤ FP.Core.zmag FP.Core.b64 (FP.Core.val64 (own_X b)) := by
  have e0 : FP.Core.b64.qmin = -1074 := FP.Core.qmin_b64
  obtain ⟨La, Lb, Lle⟩ := own_rmono (e0 := FP.Core.b64.qmin) (by omega) (by omega) (by omega) (Nat.mul_le_mul_right _ (by omega)) (own_l2d_r a h0) (own_l2d_r b (by omega)) (l2d_fin a) (l2d_fin b)
  obtain ⟨n1, e1, v1, q1, u1⟩ := own_sum_r La own_N1
  obtain ⟨n2, e2, v2, q2, u2⟩ := own_sum_r Lb own_N1
  obtain ⟨Aa, Ab, Ale⟩ := own_rmono (e0 := FP.Core.b64.qmin) (by omega) q1 q2 (by rw [u1, u2]; omega) v1 v2 ((own_mA a).fin (by decide)) ((own_mA b).fin (by decide))
  obtain ⟨n3, e3, v3, q3, u3⟩ := own_sum_r La own_N2
  obtain ⟨n4, e4, v4, q4, u4⟩ := own_sum_r Lb own_N2
  obtain ⟨Ba, Bb, Ble⟩ := own_rmono (e0 := FP.Core.b64.qmin) (by omega) q3 q4 (by rw [u3, u4]; omega) v3 v4 ((own_mB a).fin (by decide)) ((own_mB b).fin (by decide))
  obtain ⟨n5, e5, v5, q5, u5⟩ := own_prod_r Aa Ba
  obtain ⟨n6, e6, v6, q6, u6⟩ := own_prod_r Ab Bb
  obtain ⟨Ca, Cb, Cle⟩ := own_rmono (e0 := 2 * FP.Core.b64.qmin) (by omega) q5 q6 (by rw [u5, u6]; exact Nat.mul_le_mul Ale Ble) v5 v6 ((own_mC a).fin (by decide)) ((own_mC b).fin (by decide))
  obtain ⟨n7, e7, v7, q7, u7⟩ := own_half_r Ca
  obtain ⟨n8, e8, v8, q8, u8⟩ := own_half_r Cb
  exact own_rmono (e0 := FP.Core.b64.qmin - 1) (by omega) q7 q8 (by rw [u7, u8]; exact Cle) v7 v8 ((own_mX a).fin (by decide)) ((own_mX b).fin (by decide))
theorem own_zN {a : UInt64} (h : own_N a) : FP.Core.zval FP.Core.b64 (FP.Core.val64 a) = (FP.Core.zmag FP.Core.b64 (FP.Core.val64 a) : Int) ∧ FP.Core.val64 a ≠ .nan := by
  obtain ⟨c, q, h⟩ := h
  rw [h]; exact ⟨rfl, by simp⟩
theorem own_cg_pos (r : Option Ordering) : 0 < cmpValue r .g ↔ r = some .gt ∨ r = none := by rcases r with _ | (_ | _ | _) <;> decide
theorem own_cl_neg (r : Option Ordering) : cmpValue r .l < 0 ↔ r = some .lt ∨ r = none := by rcases r with _ | (_ | _ | _) <;> decide
theorem own_Xle {a b : Int64} (h0 : 0 ≤ a.toInt) (h : a.toInt ≤ b.toInt) : ¬ 0 < cmpValue (FP.dcmp (own_X a) (own_X b)) .g := by
  obtain ⟨na, nb, hle⟩ := own_Xmono h0 h
  obtain ⟨za, ka⟩ := own_zN na
  obtain ⟨zb, kb⟩ := own_zN nb
  rw [own_cg_pos, show FP.dcmp (own_X a) (own_X b) = _ from FP.Core.dcmp_zval ka kb, za, zb]
  rintro (q | q)
  · rw [Option.some.injEq, FP.Core.compare_gt_iff] at q; omega
  · cases q
theorem own_X0 : own_X 0 = FP.dconst1 := by decide +kernel
theorem own_X1 {b : Int64} (h0 : 0 ≤ b.toInt) : ¬ cmpValue (FP.dcmp (own_X b) FP.dconst1) .l < 0 := by
  obtain ⟨na, nb, hle⟩ := own_Xmono (a := 0) (b := b) (by decide) (by have : (0 : Int64).toInt = 0 := by decide
                                                                      omega)
  rw [own_X0] at na hle
  obtain ⟨za, ka⟩ := own_zN na
  obtain ⟨zb, kb⟩ := own_zN nb
  rw [own_cl_neg, show FP.dcmp (own_X b) FP.dconst1 = _ from FP.Core.dcmp_zval kb ka, za, zb]
  rintro (q | q)
  · rw [Option.some.injEq, FP.Core.compare_lt_iff] at q; omega
  · cases q
theorem own_one (b : Int64) : FP.dmul FP.dconst1 (own_X b) = own_X b := FP.Core.one_dmul (noNaN64_no.mp ((own_mX b).fin (by decide)).noNaN)
theorem own_two : FP.Core.val64 4611686018427387904 = .fin false (2 ^ 52) (((1 : Nat) : Int) - 52) := by decide +kernel
theorem own_D1 : FP.Core.DInt 1 FP.dconst1 := FP.Core.i2d_int 1
theorem own_D2 : FP.Core.DInt 2 (4611686018427387904 : UInt64) := FP.Core.i2d_int 2
theorem own_half_zval {n : Int} {a : UInt64} (h : FP.Core.DInt n a) (hn : n ≠ 0) : 2 * FP.Core.zval FP.Core.b64 (FP.Core.val64 (FP.ddiv a (4611686018427387904 : UInt64))) = n * (FP.Core.one64 : Int) ∧ FP.Core.val64 (FP.ddiv a (4611686018427387904 : UInt64)) ≠ .nan := by
  have hz := FP.Core.DInt_zval h
  obtain ⟨s, c, q, h1, h2, h3⟩ := own_dint_fin h hn
  have e0 : FP.Core.b64.qmin = -1074 := FP.Core.qmin_b64
  rw [own_div_fin 1 h1 own_two (by omega) h2, ← hz, h1]
  refine ⟨?_, by simp⟩
  show 2 * FP.Core.signed s (FP.Core.inUnits c (q - 1) FP.Core.b64.qmin) = FP.Core.signed s (FP.Core.inUnits c q FP.Core.b64.qmin)
  unfold FP.Core.inUnits
  have e1 : (q - FP.Core.b64.qmin).toNat = (q - 1 - FP.Core.b64.qmin).toNat + 1 := by omega
  rw [e1, Nat.pow_succ, ← Nat.mul_assoc, FP.Core.signed_mul s (c * 2 ^ (q - 1 - FP.Core.b64.qmin).toNat) 2]
  exact Int.mul_comm _ _
theorem own_Xs {s : Int64} (h0 : 0 ≤ s.toInt) (h1 : s.toInt < 67108864) : cmpValue (FP.dcmp (own_X s) (FP.l2d (((s + (1 : Int64)) * (s + (2 : Int64))) / (2 : Int64)))) .l = 0 := by
  have ds : FP.Core.DInt s.toInt (FP.l2d s) := FP.Core.l2d_int (by omega)
  have dA : FP.Core.DInt (s.toInt + 1) (own_A s) := FP.Core.dadd_int ds own_D1 (by omega)
  have dB : FP.Core.DInt (s.toInt + 2) (own_B s) := FP.Core.dadd_int ds own_D2 (by omega)
  have b1 : 0 < (s.toInt + 1) * (s.toInt + 2) := Int.mul_pos (by omega) (by omega)
  have b2 : (s.toInt + 1) * (s.toInt + 2) ≤ 67108864 * 67108865 := Int.mul_le_mul (by omega) (by omega) (by omega) (by omega)
  have dC : FP.Core.DInt ((s.toInt + 1) * (s.toInt + 2)) (own_C s) := FP.Core.dmul_int dA dB (by omega)
  obtain ⟨hX, nX⟩ := own_half_zval dC (by omega)
  have a1 : (s + (1 : Int64)).toInt = s.toInt + 1 := by
    have := c_ladd s 1; have := rng64 (s + 1); have e : (1 : Int64).toInt = 1 := by decide
    omega
  have a2 : (s + (2 : Int64)).toInt = s.toInt + 2 := by
    have := c_ladd s 2; have := rng64 (s + 2); have e : (2 : Int64).toInt = 2 := by decide
    omega
  have a3 : ((s + (1 : Int64)) * (s + (2 : Int64))).toInt = (s.toInt + 1) * (s.toInt + 2) := by
    have h := c_lmul (s + 1) (s + 2); have := rng64 ((s + 1) * (s + 2))
    rw [a1, a2] at h; omega
  have a4 := (c_ldiv ((s + (1 : Int64)) * (s + (2 : Int64))) 2 2 (by decide) (by decide)).1 (by omega)
  rw [a3] at a4
  have par : ((s.toInt + 1) * (s.toInt + 2)) % 2 = 0 := by
    rw [Int.mul_emod]
    rcases Int.emod_two_eq s.toInt with q | q
    · have : (s.toInt + 2) % 2 = 0 := by omega
      rw [this]; simp
    · have : (s.toInt + 1) % 2 = 0 := by omega
      rw [this]; simp
  have dR : FP.Core.DInt (((s + (1 : Int64)) * (s + (2 : Int64))) / (2 : Int64)).toInt (FP.l2d (((s + (1 : Int64)) * (s + (2 : Int64))) / (2 : Int64))) := FP.Core.l2d_int (by rw [a4]; omega)
  rw [own_cl]
  show FP.dcmp (FP.ddiv (own_C s) (4611686018427387904 : UInt64)) _ = _
  rw [show FP.dcmp (FP.ddiv (own_C s) (4611686018427387904 : UInt64)) (FP.l2d (((s + (1 : Int64)) * (s + (2 : Int64))) / (2 : Int64))) = _ from FP.Core.dcmp_zval nX (FP.Core.DInt_ne_nan dR), Option.some.injEq, FP.Core.compare_eq_iff, FP.Core.DInt_zval dR, a4]
  have hh : 2 * (((s.toInt + 1) * (s.toInt + 2)) / 2) = (s.toInt + 1) * (s.toInt + 2) := by omega
  rw [← hh, Int.mul_assoc] at hX
  omega
def own_fold (w : UInt64) : List Int64 → UInt64
  | [] => w
  | b :: r => own_fold (FP.dmul w (own_X b)) r
theorem d1_0 : decode prog_48_method_2_code 0 = .ok (.dconst 1, 1) := by decide +kernel
theorem d1_1 : decode prog_48_method_2_code 1 = .ok (.dstore_n 1, 1) := by decide +kernel
theorem d1_2 : decode prog_48_method_2_code 2 = .ok (.aload_n 0, 1) := by decide +kernel
theorem d1_3 : decode prog_48_method_2_code 3 = .ok (.astore_n 3, 1) := by decide +kernel
theorem d1_4 : decode prog_48_method_2_code 4 = .ok (.aload_n 3, 1) := by decide +kernel
theorem d1_5 : decode prog_48_method_2_code 5 = .ok (.arraylength, 1) := by decide +kernel
theorem d1_6 : decode prog_48_method_2_code 6 = .ok (.istore 4, 2) := by decide +kernel
theorem d1_8 : decode prog_48_method_2_code 8 = .ok (.iconst 0, 1) := by decide +kernel
theorem d1_9 : decode prog_48_method_2_code 9 = .ok (.istore 5, 2) := by decide +kernel
theorem d1_11 : decode prog_48_method_2_code 11 = .ok (.iload 5, 2) := by decide +kernel
theorem d1_13 : decode prog_48_method_2_code 13 = .ok (.iload 4, 2) := by decide +kernel
theorem d1_15 : decode prog_48_method_2_code 15 = .ok (.if_icmp .ge 35, 3) := by decide +kernel
theorem d1_18 : decode prog_48_method_2_code 18 = .ok (.aload_n 3, 1) := by decide +kernel
theorem d1_19 : decode prog_48_method_2_code 19 = .ok (.iload 5, 2) := by decide +kernel
theorem d1_21 : decode prog_48_method_2_code 21 = .ok (.laload, 1) := by decide +kernel
theorem d1_22 : decode prog_48_method_2_code 22 = .ok (.lstore 6, 2) := by decide +kernel
theorem d1_24 : decode prog_48_method_2_code 24 = .ok (.dload_n 1, 1) := by decide +kernel
theorem d1_25 : decode prog_48_method_2_code 25 = .ok (.lload 6, 2) := by decide +kernel
theorem d1_27 : decode prog_48_method_2_code 27 = .ok (.l2d, 1) := by decide +kernel
theorem d1_28 : decode prog_48_method_2_code 28 = .ok (.dconst 1, 1) := by decide +kernel
theorem d1_29 : decode prog_48_method_2_code 29 = .ok (.dadd, 1) := by decide +kernel
theorem d1_30 : decode prog_48_method_2_code 30 = .ok (.lload 6, 2) := by decide +kernel
theorem d1_32 : decode prog_48_method_2_code 32 = .ok (.l2d, 1) := by decide +kernel
theorem d1_33 : decode prog_48_method_2_code 33 = .ok (.ldc2_w 110, 3) := by decide +kernel
theorem d1_36 : decode prog_48_method_2_code 36 = .ok (.dadd, 1) := by decide +kernel
theorem d1_37 : decode prog_48_method_2_code 37 = .ok (.dmul, 1) := by decide +kernel
theorem d1_38 : decode prog_48_method_2_code 38 = .ok (.ldc2_w 110, 3) := by decide +kernel
theorem d1_41 : decode prog_48_method_2_code 41 = .ok (.ddiv, 1) := by decide +kernel
theorem d1_42 : decode prog_48_method_2_code 42 = .ok (.dmul, 1) := by decide +kernel
theorem d1_43 : decode prog_48_method_2_code 43 = .ok (.dstore_n 1, 1) := by decide +kernel
theorem d1_44 : decode prog_48_method_2_code 44 = .ok (.iinc 5 1, 3) := by decide +kernel
theorem d1_47 : decode prog_48_method_2_code 47 = .ok (.goto (-36), 3) := by decide +kernel
theorem d1_50 : decode prog_48_method_2_code 50 = .ok (.dload_n 1, 1) := by decide +kernel
theorem d1_51 : decode prog_48_method_2_code 51 = .ok (.dreturn, 1) := by decide +kernel
theorem pn_1 : plainName "com/example/wildebeest/wildebeest/inference/Spreads" = true := by first | (simp [plainName, overriddenIn]; done) | decide +kernel
theorem ef_1 (m : MethodId) (x0 : Addr) : entryFrame m #[(.ref x0)] 8 = mkF m 0 #[.val (.ref x0), .unset, .unset, .unset, .unset, .unset, .unset, .unset] [] := by first | (simp [entryFrame, mkF, argsToLocals, Value.category]; done) | rfl
set_option maxRecDepth 65536 in
set_option maxHeartbeats 40000000 in
theorem own_loop {p : Program} {l : Launch} {e : Env} {R : Room} {s : State} {m : MethodId} {args : Array Value} {below : List Frame} {meth : Method} {c : Code} {T0 : State} {locs : List Loc} {cells slots : Nat} {Z : State} {h0 : Heap} {a0 : Array Value} (a1 : Addr) (cl : Cell) (N : Nat) (hN : N ≤ 3) (X0 : Stand p l e R s m args below meth c T0 locs cells slots) (hx : p.tables.exec = Jvm.exec) (hZ : Z.Warmed39 s.vm) (hw : ∀ d ∈ tables_1, d.before a0 Z = true) (hby : c.code = prog_48_method_2_code) (hown : s.vm.findClass "com/example/wildebeest/wildebeest/inference/Spreads" = some m.cls) (e0 : T0.heap = h0) (Ar : Arr Z h0 a1 cl .long) (S1 : cl.slots.size = N) : ∀ (r : List Int64) (i : Nat) (ww : UInt64) (s6 s7 : Slot), i + r.length = N → Mag64 (1088 + 136 * i) ww → (∀ j, j < r.length → cl.slots[i + j]? = some (.long (r.getD j 0))) → ((s6 = .unset ∧ s7 = .unset) ∨ ∃ d6, s6 = .val (.long d6) ∧ s7 = .second) →
    ∃ Ls, ∀ t, Steps p.tables e below (T0.setTop (mkF m 51 Ls [(.double (own_fold ww r))])) t → Steps p.tables e below (T0.setTop (mkF m 11 #[.val (.ref a1), .val (.double ww), .second, .val (.ref a1), .val (.int (Int32.ofNat N)), .val (.int (Int32.ofNat i)), s6, s7] [])) t := by
  intro r
  induction r with
  | nil =>
    intro i ww s6 s7 hi hm ha hs
    have hi4 : i = N := by simpa using hi
    subst hi4
    have hge : ¬ (Int32.ofNat i < Int32.ofNat i) := nlt32 (by omega) (Nat.le_refl _)
    refine ⟨#[.val (.ref a1), .val (.double ww), .second, .val (.ref a1), .val (.int (Int32.ofNat i)), .val (.int (Int32.ofNat i)), s6, s7], fun t kt => ?_⟩
    refine XS.iload X0.here hx rfl (hb hby d1_11) rfl ?_
    show Steps p.tables e below (T0.setTop (mkF m 13 #[.val (.ref a1), .val (.double ww), .second, .val (.ref a1), .val (.int (Int32.ofNat i)), .val (.int (Int32.ofNat i)), s6, s7] [(.int (Int32.ofNat i))])) _
    refine XS.iload X0.here hx rfl (hb hby d1_13) rfl ?_
    show Steps p.tables e below (T0.setTop (mkF m 15 #[.val (.ref a1), .val (.double ww), .second, .val (.ref a1), .val (.int (Int32.ofNat i)), .val (.int (Int32.ofNat i)), s6, s7] [(.int (Int32.ofNat i)), (.int (Int32.ofNat i))])) _
    refine XS.icmpYes X0.here hx rfl (pc0 := 15) (pc' := 50) rfl (hb hby d1_15) rfl (flt (hge : ¬ ((Int32.ofNat i) < (Int32.ofNat i)))).2.1 (by decide) (by decide) ?_
    show Steps p.tables e below (T0.setTop (mkF m 50 #[.val (.ref a1), .val (.double ww), .second, .val (.ref a1), .val (.int (Int32.ofNat i)), .val (.int (Int32.ofNat i)), s6, s7] [])) _
    refine XS.dloadN X0.here hx rfl (hb hby d1_50) rfl ?_
    exact kt
  | cons b r ih =>
    intro i ww s6 s7 hi hm ha hs
    have hi' : i + 1 + r.length = N := by simp only [List.length_cons] at hi; omega
    have hlt : Int32.ofNat i < Int32.ofNat N := lt32 (by omega) (by omega)
    have hn : (Int32.ofNat i).toNatClampNeg = i := n32 (by omega)
    have hin : ¬ (Int32.ofNat i < 0 ∨ cl.slots.size ≤ (Int32.ofNat i).toNatClampNeg) := by
      rw [hn, S1]
      rintro (q | q)
      · exact nlt32 (a := i) (b := 0) (by omega) (by omega) q
      · omega
    have hat : cl.slots[(Int32.ofNat i).toNatClampNeg]? = some (.long b) := by
      rw [hn]; have := ha 0 (by simp); simpa using this
    have ha' : ∀ j, j < r.length → cl.slots[i + 1 + j]? = some (.long (r.getD j 0)) := by
      intro j hj
      have := ha (j + 1) (by simp; omega)
      rw [show i + 1 + j = i + (j + 1) by omega]; simpa using this
    have hm' : Mag64 (1088 + 136 * (i + 1)) (FP.dmul ww (own_X b)) := by
      have := dmul_mag hm (own_mX b) (by omega) (by omega)
      exact this.mono (by omega)
    have nA : NoNaN64 (FP.dadd (FP.l2d b) FP.dconst1) := ((own_mA b).fin (by decide)).noNaN
    have nB : NoNaN64 (FP.dadd (FP.l2d b) (4611686018427387904 : UInt64)) := ((own_mB b).fin (by decide)).noNaN
    have nC : NoNaN64 (FP.dmul (own_A b) (own_B b)) := ((own_mC b).fin (by decide)).noNaN
    have nX : NoNaN64 (FP.ddiv (own_C b) (4611686018427387904 : UInt64)) := ((own_mX b).fin (by decide)).noNaN
    have nW : NoNaN64 (FP.dmul ww (own_X b)) := (hm'.fin (by omega)).noNaN
    obtain ⟨Ls, hk⟩ := ih (i + 1) (FP.dmul ww (own_X b)) (.val (.long b)) .second hi' hm' ha' (Or.inr ⟨_, rfl, rfl⟩)
    refine ⟨Ls, fun t kt => ?_⟩
    have kt2 := hk t kt
    rw [← succ32 i] at kt2
    rcases hs with ⟨rfl, rfl⟩ | ⟨d6, rfl, rfl⟩
    · refine XS.iload X0.here hx rfl (hb hby d1_11) rfl ?_
      show Steps p.tables e below (T0.setTop (mkF m 13 #[.val (.ref a1), .val (.double ww), .second, .val (.ref a1), .val (.int (Int32.ofNat N)), .val (.int (Int32.ofNat i)), .unset, .unset] [(.int (Int32.ofNat i))])) _
      refine XS.iload X0.here hx rfl (hb hby d1_13) rfl ?_
      show Steps p.tables e below (T0.setTop (mkF m 15 #[.val (.ref a1), .val (.double ww), .second, .val (.ref a1), .val (.int (Int32.ofNat N)), .val (.int (Int32.ofNat i)), .unset, .unset] [(.int (Int32.ofNat N)), (.int (Int32.ofNat i))])) _
      refine XS.icmpNo X0.here hx rfl (hb hby d1_15) rfl (tlt (hlt : (Int32.ofNat i) < (Int32.ofNat N))).2.1 ?_
      show Steps p.tables e below (T0.setTop (mkF m 18 #[.val (.ref a1), .val (.double ww), .second, .val (.ref a1), .val (.int (Int32.ofNat N)), .val (.int (Int32.ofNat i)), .unset, .unset] [])) _
      refine XS.aloadN X0.here hx rfl (hb hby d1_18) rfl rfl ?_
      show Steps p.tables e below (T0.setTop (mkF m 19 #[.val (.ref a1), .val (.double ww), .second, .val (.ref a1), .val (.int (Int32.ofNat N)), .val (.int (Int32.ofNat i)), .unset, .unset] [(.ref a1)])) _
      refine XS.iload X0.here hx rfl (hb hby d1_19) rfl ?_
      show Steps p.tables e below (T0.setTop (mkF m 21 #[.val (.ref a1), .val (.double ww), .second, .val (.ref a1), .val (.int (Int32.ofNat N)), .val (.int (Int32.ofNat i)), .unset, .unset] [(.int (Int32.ofNat i)), (.ref a1)])) _
      refine X0.laload hx (j := (Int32.ofNat i)) (v := (.long b)) (by rw [e0]; exact Ar.1) (State.isArrayOf_alike hZ.alike Ar.2.1) Ar.2.2 hin hat (g := (mkF m 21 #[.val (.ref a1), .val (.double ww), .second, .val (.ref a1), .val (.int (Int32.ofNat N)), .val (.int (Int32.ofNat i)), .unset, .unset] [(.int (Int32.ofNat i)), (.ref a1)])) rfl rfl (hb hby d1_21) _ ?_
      show Steps p.tables e below (T0.setTop (mkF m 22 #[.val (.ref a1), .val (.double ww), .second, .val (.ref a1), .val (.int (Int32.ofNat N)), .val (.int (Int32.ofNat i)), .unset, .unset] [(.long b)])) _
      refine XS.lstore X0.here hx rfl (hb hby d1_22) rfl (l' := #[.val (.ref a1), .val (.double ww), .second, .val (.ref a1), .val (.int (Int32.ofNat N)), .val (.int (Int32.ofNat i)), .val (.long b), .second]) rfl ?_
      show Steps p.tables e below (T0.setTop (mkF m 24 #[.val (.ref a1), .val (.double ww), .second, .val (.ref a1), .val (.int (Int32.ofNat N)), .val (.int (Int32.ofNat i)), .val (.long b), .second] [])) _
      refine XS.dloadN X0.here hx rfl (hb hby d1_24) rfl ?_
      show Steps p.tables e below (T0.setTop (mkF m 25 #[.val (.ref a1), .val (.double ww), .second, .val (.ref a1), .val (.int (Int32.ofNat N)), .val (.int (Int32.ofNat i)), .val (.long b), .second] [(.double ww)])) _
      refine XS.lload X0.here hx rfl (hb hby d1_25) rfl ?_
      show Steps p.tables e below (T0.setTop (mkF m 27 #[.val (.ref a1), .val (.double ww), .second, .val (.ref a1), .val (.int (Int32.ofNat N)), .val (.int (Int32.ofNat i)), .val (.long b), .second] [(.long b), (.double ww)])) _
      refine XS.l2dS X0.here hx rfl (hb hby d1_27) rfl (v := (FP.l2d b)) rfl ?_
      show Steps p.tables e below (T0.setTop (mkF m 28 #[.val (.ref a1), .val (.double ww), .second, .val (.ref a1), .val (.int (Int32.ofNat N)), .val (.int (Int32.ofNat i)), .val (.long b), .second] [(.double (FP.l2d b)), (.double ww)])) _
      refine XS.dconst1 X0.here hx rfl (hb hby d1_28) (v := (FP.dconst1)) rfl ?_
      show Steps p.tables e below (T0.setTop (mkF m 29 #[.val (.ref a1), .val (.double ww), .second, .val (.ref a1), .val (.int (Int32.ofNat N)), .val (.int (Int32.ofNat i)), .val (.long b), .second] [(.double (FP.dconst1)), (.double (FP.l2d b)), (.double ww)])) _
      refine XS.daddS X0.here hx rfl (hb hby d1_29) rfl nA (v := (own_A b)) rfl ?_
      show Steps p.tables e below (T0.setTop (mkF m 30 #[.val (.ref a1), .val (.double ww), .second, .val (.ref a1), .val (.int (Int32.ofNat N)), .val (.int (Int32.ofNat i)), .val (.long b), .second] [(.double (own_A b)), (.double ww)])) _
      refine XS.lload X0.here hx rfl (hb hby d1_30) rfl ?_
      show Steps p.tables e below (T0.setTop (mkF m 32 #[.val (.ref a1), .val (.double ww), .second, .val (.ref a1), .val (.int (Int32.ofNat N)), .val (.int (Int32.ofNat i)), .val (.long b), .second] [(.long b), (.double (own_A b)), (.double ww)])) _
      refine XS.l2dS X0.here hx rfl (hb hby d1_32) rfl (v := (FP.l2d b)) rfl ?_
      show Steps p.tables e below (T0.setTop (mkF m 33 #[.val (.ref a1), .val (.double ww), .second, .val (.ref a1), .val (.int (Int32.ofNat N)), .val (.int (Int32.ofNat i)), .val (.long b), .second] [(.double (FP.l2d b)), (.double (own_A b)), (.double ww)])) _
      refine X0.ldc2DoubleC hx hown (mvT hZ (hw _ (List.mem_of_getElem? (i := 7) rfl))) (g := (mkF m 33 #[.val (.ref a1), .val (.double ww), .second, .val (.ref a1), .val (.int (Int32.ofNat N)), .val (.int (Int32.ofNat i)), .val (.long b), .second] [(.double (FP.l2d b)), (.double (own_A b)), (.double ww)])) rfl (hb hby d1_33) _ ?_
      show Steps p.tables e below (T0.setTop (mkF m 36 #[.val (.ref a1), .val (.double ww), .second, .val (.ref a1), .val (.int (Int32.ofNat N)), .val (.int (Int32.ofNat i)), .val (.long b), .second] [(.double (4611686018427387904 : UInt64)), (.double (FP.l2d b)), (.double (own_A b)), (.double ww)])) _
      refine XS.daddS X0.here hx rfl (hb hby d1_36) rfl nB (v := (own_B b)) rfl ?_
      show Steps p.tables e below (T0.setTop (mkF m 37 #[.val (.ref a1), .val (.double ww), .second, .val (.ref a1), .val (.int (Int32.ofNat N)), .val (.int (Int32.ofNat i)), .val (.long b), .second] [(.double (own_B b)), (.double (own_A b)), (.double ww)])) _
      refine XS.dmulS X0.here hx rfl (hb hby d1_37) rfl nC (v := (own_C b)) rfl ?_
      show Steps p.tables e below (T0.setTop (mkF m 38 #[.val (.ref a1), .val (.double ww), .second, .val (.ref a1), .val (.int (Int32.ofNat N)), .val (.int (Int32.ofNat i)), .val (.long b), .second] [(.double (own_C b)), (.double ww)])) _
      refine X0.ldc2DoubleC hx hown (mvT hZ (hw _ (List.mem_of_getElem? (i := 7) rfl))) (g := (mkF m 38 #[.val (.ref a1), .val (.double ww), .second, .val (.ref a1), .val (.int (Int32.ofNat N)), .val (.int (Int32.ofNat i)), .val (.long b), .second] [(.double (own_C b)), (.double ww)])) rfl (hb hby d1_38) _ ?_
      show Steps p.tables e below (T0.setTop (mkF m 41 #[.val (.ref a1), .val (.double ww), .second, .val (.ref a1), .val (.int (Int32.ofNat N)), .val (.int (Int32.ofNat i)), .val (.long b), .second] [(.double (4611686018427387904 : UInt64)), (.double (own_C b)), (.double ww)])) _
      refine XS.ddivS X0.here hx rfl (hb hby d1_41) rfl nX (v := (own_X b)) rfl ?_
      show Steps p.tables e below (T0.setTop (mkF m 42 #[.val (.ref a1), .val (.double ww), .second, .val (.ref a1), .val (.int (Int32.ofNat N)), .val (.int (Int32.ofNat i)), .val (.long b), .second] [(.double (own_X b)), (.double ww)])) _
      refine XS.dmulS X0.here hx rfl (hb hby d1_42) rfl nW (v := (FP.dmul ww (own_X b))) rfl ?_
      show Steps p.tables e below (T0.setTop (mkF m 43 #[.val (.ref a1), .val (.double ww), .second, .val (.ref a1), .val (.int (Int32.ofNat N)), .val (.int (Int32.ofNat i)), .val (.long b), .second] [(.double (FP.dmul ww (own_X b)))])) _
      refine XS.dstoreN X0.here hx rfl (hb hby d1_43) rfl (l' := #[.val (.ref a1), .val (.double (FP.dmul ww (own_X b))), .second, .val (.ref a1), .val (.int (Int32.ofNat N)), .val (.int (Int32.ofNat i)), .val (.long b), .second]) rfl ?_
      show Steps p.tables e below (T0.setTop (mkF m 44 #[.val (.ref a1), .val (.double (FP.dmul ww (own_X b))), .second, .val (.ref a1), .val (.int (Int32.ofNat N)), .val (.int (Int32.ofNat i)), .val (.long b), .second] [])) _
      refine XS.iinc X0.here hx rfl (hb hby d1_44) rfl (l' := #[.val (.ref a1), .val (.double (FP.dmul ww (own_X b))), .second, .val (.ref a1), .val (.int (Int32.ofNat N)), .val (.int ((Int32.ofNat i) + (1 : Int32))), .val (.long b), .second]) rfl ?_
      show Steps p.tables e below (T0.setTop (mkF m 47 #[.val (.ref a1), .val (.double (FP.dmul ww (own_X b))), .second, .val (.ref a1), .val (.int (Int32.ofNat N)), .val (.int ((Int32.ofNat i) + (1 : Int32))), .val (.long b), .second] [])) _
      refine XS.goto X0.here hx rfl (pc0 := 47) (pc' := 11) rfl (hb hby d1_47) (by decide) (by decide) ?_
      exact kt2
    · refine XS.iload X0.here hx rfl (hb hby d1_11) rfl ?_
      show Steps p.tables e below (T0.setTop (mkF m 13 #[.val (.ref a1), .val (.double ww), .second, .val (.ref a1), .val (.int (Int32.ofNat N)), .val (.int (Int32.ofNat i)), .val (.long d6), .second] [(.int (Int32.ofNat i))])) _
      refine XS.iload X0.here hx rfl (hb hby d1_13) rfl ?_
      show Steps p.tables e below (T0.setTop (mkF m 15 #[.val (.ref a1), .val (.double ww), .second, .val (.ref a1), .val (.int (Int32.ofNat N)), .val (.int (Int32.ofNat i)), .val (.long d6), .second] [(.int (Int32.ofNat N)), (.int (Int32.ofNat i))])) _
      refine XS.icmpNo X0.here hx rfl (hb hby d1_15) rfl (tlt (hlt : (Int32.ofNat i) < (Int32.ofNat N))).2.1 ?_
      show Steps p.tables e below (T0.setTop (mkF m 18 #[.val (.ref a1), .val (.double ww), .second, .val (.ref a1), .val (.int (Int32.ofNat N)), .val (.int (Int32.ofNat i)), .val (.long d6), .second] [])) _
      refine XS.aloadN X0.here hx rfl (hb hby d1_18) rfl rfl ?_
      show Steps p.tables e below (T0.setTop (mkF m 19 #[.val (.ref a1), .val (.double ww), .second, .val (.ref a1), .val (.int (Int32.ofNat N)), .val (.int (Int32.ofNat i)), .val (.long d6), .second] [(.ref a1)])) _
      refine XS.iload X0.here hx rfl (hb hby d1_19) rfl ?_
      show Steps p.tables e below (T0.setTop (mkF m 21 #[.val (.ref a1), .val (.double ww), .second, .val (.ref a1), .val (.int (Int32.ofNat N)), .val (.int (Int32.ofNat i)), .val (.long d6), .second] [(.int (Int32.ofNat i)), (.ref a1)])) _
      refine X0.laload hx (j := (Int32.ofNat i)) (v := (.long b)) (by rw [e0]; exact Ar.1) (State.isArrayOf_alike hZ.alike Ar.2.1) Ar.2.2 hin hat (g := (mkF m 21 #[.val (.ref a1), .val (.double ww), .second, .val (.ref a1), .val (.int (Int32.ofNat N)), .val (.int (Int32.ofNat i)), .val (.long d6), .second] [(.int (Int32.ofNat i)), (.ref a1)])) rfl rfl (hb hby d1_21) _ ?_
      show Steps p.tables e below (T0.setTop (mkF m 22 #[.val (.ref a1), .val (.double ww), .second, .val (.ref a1), .val (.int (Int32.ofNat N)), .val (.int (Int32.ofNat i)), .val (.long d6), .second] [(.long b)])) _
      refine XS.lstore X0.here hx rfl (hb hby d1_22) rfl (l' := #[.val (.ref a1), .val (.double ww), .second, .val (.ref a1), .val (.int (Int32.ofNat N)), .val (.int (Int32.ofNat i)), .val (.long b), .second]) rfl ?_
      show Steps p.tables e below (T0.setTop (mkF m 24 #[.val (.ref a1), .val (.double ww), .second, .val (.ref a1), .val (.int (Int32.ofNat N)), .val (.int (Int32.ofNat i)), .val (.long b), .second] [])) _
      refine XS.dloadN X0.here hx rfl (hb hby d1_24) rfl ?_
      show Steps p.tables e below (T0.setTop (mkF m 25 #[.val (.ref a1), .val (.double ww), .second, .val (.ref a1), .val (.int (Int32.ofNat N)), .val (.int (Int32.ofNat i)), .val (.long b), .second] [(.double ww)])) _
      refine XS.lload X0.here hx rfl (hb hby d1_25) rfl ?_
      show Steps p.tables e below (T0.setTop (mkF m 27 #[.val (.ref a1), .val (.double ww), .second, .val (.ref a1), .val (.int (Int32.ofNat N)), .val (.int (Int32.ofNat i)), .val (.long b), .second] [(.long b), (.double ww)])) _
      refine XS.l2dS X0.here hx rfl (hb hby d1_27) rfl (v := (FP.l2d b)) rfl ?_
      show Steps p.tables e below (T0.setTop (mkF m 28 #[.val (.ref a1), .val (.double ww), .second, .val (.ref a1), .val (.int (Int32.ofNat N)), .val (.int (Int32.ofNat i)), .val (.long b), .second] [(.double (FP.l2d b)), (.double ww)])) _
      refine XS.dconst1 X0.here hx rfl (hb hby d1_28) (v := (FP.dconst1)) rfl ?_
      show Steps p.tables e below (T0.setTop (mkF m 29 #[.val (.ref a1), .val (.double ww), .second, .val (.ref a1), .val (.int (Int32.ofNat N)), .val (.int (Int32.ofNat i)), .val (.long b), .second] [(.double (FP.dconst1)), (.double (FP.l2d b)), (.double ww)])) _
      refine XS.daddS X0.here hx rfl (hb hby d1_29) rfl nA (v := (own_A b)) rfl ?_
      show Steps p.tables e below (T0.setTop (mkF m 30 #[.val (.ref a1), .val (.double ww), .second, .val (.ref a1), .val (.int (Int32.ofNat N)), .val (.int (Int32.ofNat i)), .val (.long b), .second] [(.double (own_A b)), (.double ww)])) _
      refine XS.lload X0.here hx rfl (hb hby d1_30) rfl ?_
      show Steps p.tables e below (T0.setTop (mkF m 32 #[.val (.ref a1), .val (.double ww), .second, .val (.ref a1), .val (.int (Int32.ofNat N)), .val (.int (Int32.ofNat i)), .val (.long b), .second] [(.long b), (.double (own_A b)), (.double ww)])) _
      refine XS.l2dS X0.here hx rfl (hb hby d1_32) rfl (v := (FP.l2d b)) rfl ?_
      show Steps p.tables e below (T0.setTop (mkF m 33 #[.val (.ref a1), .val (.double ww), .second, .val (.ref a1), .val (.int (Int32.ofNat N)), .val (.int (Int32.ofNat i)), .val (.long b), .second] [(.double (FP.l2d b)), (.double (own_A b)), (.double ww)])) _
      refine X0.ldc2DoubleC hx hown (mvT hZ (hw _ (List.mem_of_getElem? (i := 7) rfl))) (g := (mkF m 33 #[.val (.ref a1), .val (.double ww), .second, .val (.ref a1), .val (.int (Int32.ofNat N)), .val (.int (Int32.ofNat i)), .val (.long b), .second] [(.double (FP.l2d b)), (.double (own_A b)), (.double ww)])) rfl (hb hby d1_33) _ ?_
      show Steps p.tables e below (T0.setTop (mkF m 36 #[.val (.ref a1), .val (.double ww), .second, .val (.ref a1), .val (.int (Int32.ofNat N)), .val (.int (Int32.ofNat i)), .val (.long b), .second] [(.double (4611686018427387904 : UInt64)), (.double (FP.l2d b)), (.double (own_A b)), (.double ww)])) _
      refine XS.daddS X0.here hx rfl (hb hby d1_36) rfl nB (v := (own_B b)) rfl ?_
      show Steps p.tables e below (T0.setTop (mkF m 37 #[.val (.ref a1), .val (.double ww), .second, .val (.ref a1), .val (.int (Int32.ofNat N)), .val (.int (Int32.ofNat i)), .val (.long b), .second] [(.double (own_B b)), (.double (own_A b)), (.double ww)])) _
      refine XS.dmulS X0.here hx rfl (hb hby d1_37) rfl nC (v := (own_C b)) rfl ?_
      show Steps p.tables e below (T0.setTop (mkF m 38 #[.val (.ref a1), .val (.double ww), .second, .val (.ref a1), .val (.int (Int32.ofNat N)), .val (.int (Int32.ofNat i)), .val (.long b), .second] [(.double (own_C b)), (.double ww)])) _
      refine X0.ldc2DoubleC hx hown (mvT hZ (hw _ (List.mem_of_getElem? (i := 7) rfl))) (g := (mkF m 38 #[.val (.ref a1), .val (.double ww), .second, .val (.ref a1), .val (.int (Int32.ofNat N)), .val (.int (Int32.ofNat i)), .val (.long b), .second] [(.double (own_C b)), (.double ww)])) rfl (hb hby d1_38) _ ?_
      show Steps p.tables e below (T0.setTop (mkF m 41 #[.val (.ref a1), .val (.double ww), .second, .val (.ref a1), .val (.int (Int32.ofNat N)), .val (.int (Int32.ofNat i)), .val (.long b), .second] [(.double (4611686018427387904 : UInt64)), (.double (own_C b)), (.double ww)])) _
      refine XS.ddivS X0.here hx rfl (hb hby d1_41) rfl nX (v := (own_X b)) rfl ?_
      show Steps p.tables e below (T0.setTop (mkF m 42 #[.val (.ref a1), .val (.double ww), .second, .val (.ref a1), .val (.int (Int32.ofNat N)), .val (.int (Int32.ofNat i)), .val (.long b), .second] [(.double (own_X b)), (.double ww)])) _
      refine XS.dmulS X0.here hx rfl (hb hby d1_42) rfl nW (v := (FP.dmul ww (own_X b))) rfl ?_
      show Steps p.tables e below (T0.setTop (mkF m 43 #[.val (.ref a1), .val (.double ww), .second, .val (.ref a1), .val (.int (Int32.ofNat N)), .val (.int (Int32.ofNat i)), .val (.long b), .second] [(.double (FP.dmul ww (own_X b)))])) _
      refine XS.dstoreN X0.here hx rfl (hb hby d1_43) rfl (l' := #[.val (.ref a1), .val (.double (FP.dmul ww (own_X b))), .second, .val (.ref a1), .val (.int (Int32.ofNat N)), .val (.int (Int32.ofNat i)), .val (.long b), .second]) rfl ?_
      show Steps p.tables e below (T0.setTop (mkF m 44 #[.val (.ref a1), .val (.double (FP.dmul ww (own_X b))), .second, .val (.ref a1), .val (.int (Int32.ofNat N)), .val (.int (Int32.ofNat i)), .val (.long b), .second] [])) _
      refine XS.iinc X0.here hx rfl (hb hby d1_44) rfl (l' := #[.val (.ref a1), .val (.double (FP.dmul ww (own_X b))), .second, .val (.ref a1), .val (.int (Int32.ofNat N)), .val (.int ((Int32.ofNat i) + (1 : Int32))), .val (.long b), .second]) rfl ?_
      show Steps p.tables e below (T0.setTop (mkF m 47 #[.val (.ref a1), .val (.double (FP.dmul ww (own_X b))), .second, .val (.ref a1), .val (.int (Int32.ofNat N)), .val (.int ((Int32.ofNat i) + (1 : Int32))), .val (.long b), .second] [])) _
      refine XS.goto X0.here hx rfl (pc0 := 47) (pc' := 11) rfl (hb hby d1_47) (by decide) (by decide) ?_
      exact kt2
def Q1 (Z : State) (a1 : Addr) (nn : Int32) (r : List Int64) (kk : ClassId) (h0 : Heap) (n0 : Nat) (v : Option Value) (h : Heap) (L : List Loc) : Prop := v = some (.double (own_fold FP.dconst1 r)) ∧ Fr n0 L ∧ h = h0
set_option maxRecDepth 65536 in
set_option maxHeartbeats 40000000 in
theorem rm1 (l : Launch) (Z : State) (a0 : Array Value) (hw : ∀ d ∈ tables_1, d.before a0 Z = true) (ws : List Jvm.Cond) (a1 : Addr) (nn : Int32) (r : List Int64) (kk : ClassId) (h0 : Heap) (n0 : Nat) (Z0 : n0 ≤ h0.size) (hL : r.length ≤ 3) (hN : nn = Int32.ofNat r.length) (V1 : Arv Z h0 a1 kk .long nn (r.map Value.long) (.long (0 : Int64))) :
    MetFree l (⟨"com/example/wildebeest/wildebeest/inference/Spreads", "work", "([J)D"⟩ : MethodName) (head1 (Jvm.Cond.code (⟨"com/example/wildebeest/wildebeest/inference/Spreads", "work", "([J)D"⟩ : MethodName) prog_48_method_2_code 8 (some .double) :: ws) ({ frames := 0, cells := 0, slots := 0, locals := 0 } : Room)) (fun a U => a = #[(.ref a1)] ∧ Z.Warmed39 U.vm ∧ U.heap = h0) (fun _ _ _ _ _ => True) (fun _ U o U' => ∃ v L, o = .returned v ∧ Q1 Z a1 nn r kk h0 n0 v U'.heap L ∧ FrameEnd U o U' L ({ frames := 0, cells := 0, slots := 0, locals := 0 } : Room).cells ({ frames := 0, cells := 0, slots := 0, locals := 0 } : Room).slots) := by
  refine MetFree.of_bodySF (plainFor_of_name pn_1) hisR ?_
  intro p e s m args below meth c s₁ Bd hml0 hP hK
  obtain ⟨rfl, hZ, hh⟩ := hP
  have hx := Bd.exec
  have hby := Bd.bytes
  have hml : c.maxLocals = 8 := hml0
  have hown : s.vm.findClass "com/example/wildebeest/wildebeest/inference/Spreads" = some m.cls := findClass_of_methodNamed Bd.named
  have hnm := (name_of_methodNamed Bd.named Bd.method).1
  have X0 : Stand p l e ({ frames := 0, cells := 0, slots := 0, locals := 0 } : Room) s m #[(.ref a1)] below meth c s₁ [] 0 0 := Stand.of_body Bd
  have e0 : s₁.heap = h0 := by rw [← hh, Bd.state]; rfl
  have N0 := Fr.nil n0
  have pre0 : ∀ t, Steps p.tables e below (s₁.setTop (mkF m 0 #[.val (.ref a1), .unset, .unset, .unset, .unset, .unset, .unset, .unset] [])) t → Steps p.tables e below (s₁.setTop (entryFrame m #[(.ref a1)] 8)) t := fun t k => castTop (ef_1 m a1) k
  obtain ⟨cl, Ar, -, S1, Ng, H1, -⟩ := V1
  have z1 : cl.slots.size = r.length := by rw [S1, hN]; exact n32 (by omega)
  have sg1 : ∀ t, Steps p.tables e below (s₁.setTop (mkF m 11 #[.val (.ref a1), .val (.double (FP.dconst1)), .second, .val (.ref a1), .val (.int nn), .val (.int (0 : Int32)), .unset, .unset] [])) t → Steps p.tables e below (s₁.setTop (mkF m 0 #[.val (.ref a1), .unset, .unset, .unset, .unset, .unset, .unset, .unset] [])) t := by
    intro t kt
    refine XS.dconst1 X0.here hx rfl (hb hby d1_0) (v := (FP.dconst1)) rfl ?_
    show Steps p.tables e below (s₁.setTop (mkF m 1 #[.val (.ref a1), .unset, .unset, .unset, .unset, .unset, .unset, .unset] [(.double (FP.dconst1))])) _
    refine XS.dstoreN X0.here hx rfl (hb hby d1_1) rfl (l' := #[.val (.ref a1), .val (.double (FP.dconst1)), .second, .unset, .unset, .unset, .unset, .unset]) rfl ?_
    show Steps p.tables e below (s₁.setTop (mkF m 2 #[.val (.ref a1), .val (.double (FP.dconst1)), .second, .unset, .unset, .unset, .unset, .unset] [])) _
    refine XS.aloadN X0.here hx rfl (hb hby d1_2) rfl rfl ?_
    show Steps p.tables e below (s₁.setTop (mkF m 3 #[.val (.ref a1), .val (.double (FP.dconst1)), .second, .unset, .unset, .unset, .unset, .unset] [(.ref a1)])) _
    refine XS.astoreN X0.here hx rfl (hb hby d1_3) rfl rfl (l' := #[.val (.ref a1), .val (.double (FP.dconst1)), .second, .val (.ref a1), .unset, .unset, .unset, .unset]) rfl ?_
    show Steps p.tables e below (s₁.setTop (mkF m 4 #[.val (.ref a1), .val (.double (FP.dconst1)), .second, .val (.ref a1), .unset, .unset, .unset, .unset] [])) _
    refine XS.aloadN X0.here hx rfl (hb hby d1_4) rfl rfl ?_
    show Steps p.tables e below (s₁.setTop (mkF m 5 #[.val (.ref a1), .val (.double (FP.dconst1)), .second, .val (.ref a1), .unset, .unset, .unset, .unset] [(.ref a1)])) _
    refine X0.arraylength hx (by rw [e0]; exact Ar.1) (State.isArrayOf_alike hZ.alike Ar.2.1) (g := (mkF m 5 #[.val (.ref a1), .val (.double (FP.dconst1)), .second, .val (.ref a1), .unset, .unset, .unset, .unset] [(.ref a1)])) rfl rfl (hb hby d1_5) _ ?_
    rw [len_of S1 Ng]
    show Steps p.tables e below (s₁.setTop (mkF m 6 #[.val (.ref a1), .val (.double (FP.dconst1)), .second, .val (.ref a1), .unset, .unset, .unset, .unset] [(.int nn)])) _
    refine XS.istore X0.here hx rfl (hb hby d1_6) rfl (l' := #[.val (.ref a1), .val (.double (FP.dconst1)), .second, .val (.ref a1), .val (.int nn), .unset, .unset, .unset]) rfl ?_
    show Steps p.tables e below (s₁.setTop (mkF m 8 #[.val (.ref a1), .val (.double (FP.dconst1)), .second, .val (.ref a1), .val (.int nn), .unset, .unset, .unset] [])) _
    refine XS.iconst X0.here hx rfl (hb hby d1_8) ?_
    show Steps p.tables e below (s₁.setTop (mkF m 9 #[.val (.ref a1), .val (.double (FP.dconst1)), .second, .val (.ref a1), .val (.int nn), .unset, .unset, .unset] [(.int (0 : Int32))])) _
    refine XS.istore X0.here hx rfl (hb hby d1_9) rfl (l' := #[.val (.ref a1), .val (.double (FP.dconst1)), .second, .val (.ref a1), .val (.int nn), .val (.int (0 : Int32)), .unset, .unset]) rfl ?_
    exact kt
  rw [hN] at sg1
  obtain ⟨Ls, hk⟩ := own_loop (a0 := a0) a1 cl r.length hL X0 hx hZ hw hby hown e0 Ar z1 r 0 FP.dconst1 .unset .unset (by omega) own_m1 (fun j hj => by rw [Nat.zero_add, H1 j (by rw [z1]; exact hj)]; simp [List.getD_eq_getElem?_getD, List.getElem?_map, List.getElem?_eq_getElem hj]) (Or.inl ⟨rfl, rfl⟩)
  obtain ⟨fs, hr, hrun, hended, hW, hsame⟩ := X0.leave (v := some (.double (own_fold FP.dconst1 r))) (fun h => by rw [Bd.returns] at h; cases h)
  refine ⟨_, _, pre0 _ ?_, hrun, hended, _, _, rfl, ?_, ⟨_, rfl⟩, hW, hsame.mono (by decide) (by decide)⟩
  · refine sg1 _ ?_
    refine hk _ ?_
    exact retD X0 hx Bd.returns (hb hby d1_51) hr
  · show Q1 Z a1 nn r kk h0 n0 _ s₁.heap _
    rw [e0]; exact ⟨rfl, N0, rfl⟩
theorem pn_0 : plainName "com/example/wildebeest/wildebeest/inference/SpreadsWorkPinLaw" = true := by first | (simp [plainName, overriddenIn]; done) | decide +kernel
theorem ef_0 (m : MethodId) (x0 : Int64) (x1 : Int64) (x2 : Int64) (x3 : Int32) : entryFrame m #[(.long x0), (.long x1), (.long x2), (.int x3)] maxLocals = mkF m 0 #[.val (.long x0), .second, .val (.long x1), .second, .val (.long x2), .second, .val (.int x3), .unset, .unset, .unset, .unset, .unset, .unset, .unset, .unset, .unset, .unset, .unset, .unset, .unset, .unset, .unset, .unset, .unset, .unset, .unset, .unset, .unset, .unset, .unset, .unset, .unset, .unset, .unset] [] := by first | (simp [entryFrame, mkF, argsToLocals, Value.category, maxLocals]; done) | rfl
theorem pd_0 : parseMethodDescriptor "([J)D" = some ⟨[(.array .long)], some .double⟩ := by decide +kernel
def Q0 (Z : State) (i0 i1 i2 : Int64) (i3 : Int32) (h0 : Heap) (n0 : Nat) (v : Option Value) (h : Heap) (L : List Loc) : Prop := v = some (.int 1) ∧ Fr n0 L
set_option maxRecDepth 65536 in
set_option maxHeartbeats 40000000 in
theorem rm0 (l : Launch) (Z : State) (a0 : Array Value) (hw : ∀ d ∈ tables_1, d.before a0 Z = true) (ws : List Jvm.Cond) (i0 i1 i2 : Int64) (i3 : Int32) (h0 : Heap) (n0 : Nat) (Z0 : n0 ≤ h0.size)  :
    MetFree l x (head1 (Jvm.Cond.code x code maxLocals ret :: ws) room_1) (fun a U => a = #[(.long i0), (.long i1), (.long i2), (.int i3)] ∧ Z.Warmed39 U.vm ∧ U.heap = h0) (fun _ _ _ _ _ => True) (fun _ U o U' => ∃ v L, o = .returned v ∧ Q0 Z i0 i1 i2 i3 h0 n0 v U'.heap L ∧ FrameEnd U o U' L 8 11) := by
  refine MetFree.of_bodySF (plainFor_of_name pn_0) hisR ?_
  intro p e s m args below meth c s₁ Bd hml0 hP hK
  obtain ⟨rfl, hZ, hh⟩ := hP
  have hx := Bd.exec
  have hby := Bd.bytes
  have hml : c.maxLocals = 34 := hml0
  have hown : s.vm.findClass "com/example/wildebeest/wildebeest/inference/SpreadsWorkPinLaw" = some m.cls := findClass_of_methodNamed Bd.named
  have hnm := (name_of_methodNamed Bd.named Bd.method).1
  have X0 : Stand p l e room_1 s m #[(.long i0), (.long i1), (.long i2), (.int i3)] below meth c s₁ [] 0 0 := Stand.of_body Bd
  have e0 : s₁.heap = h0 := by rw [← hh, Bd.state]; rfl
  have N0 := Fr.nil n0
  have pre0 : ∀ t, Steps p.tables e below (s₁.setTop (mkF m 0 #[.val (.long i0), .second, .val (.long i1), .second, .val (.long i2), .second, .val (.int i3), .unset, .unset, .unset, .unset, .unset, .unset, .unset, .unset, .unset, .unset, .unset, .unset, .unset, .unset, .unset, .unset, .unset, .unset, .unset, .unset, .unset, .unset, .unset, .unset, .unset, .unset, .unset] [])) t → Steps p.tables e below (s₁.setTop (entryFrame m #[(.long i0), (.long i1), (.long i2), (.int i3)] maxLocals)) t := fun t k => castTop (ef_0 m i0 i1 i2 i3) k
  have sg1 : ∀ t, Steps p.tables e below (s₁.setTop (mkF m 31 #[.val (.long i0), .second, .val (.long i1), .second, .val (.long i2), .second, .val (.int i3), .val (.long (i0 &&& (9223372036854775807 : Int64))), .second, .val (.long (i1 &&& (9223372036854775807 : Int64))), .second, .val (.long (i2 &&& (9223372036854775807 : Int64))), .second, .val (.long ((i3.toInt64) &&& (67108863 : Int64))), .second, .unset, .unset, .unset, .unset, .unset, .unset, .unset, .unset, .unset, .unset, .unset, .unset, .unset, .unset, .unset, .unset, .unset, .unset, .unset] [])) t → Steps p.tables e below (s₁.setTop (mkF m 0 #[.val (.long i0), .second, .val (.long i1), .second, .val (.long i2), .second, .val (.int i3), .unset, .unset, .unset, .unset, .unset, .unset, .unset, .unset, .unset, .unset, .unset, .unset, .unset, .unset, .unset, .unset, .unset, .unset, .unset, .unset, .unset, .unset, .unset, .unset, .unset, .unset, .unset] [])) t := by
    intro t kt
    refine XS.lloadN X0.here hx rfl (hb hby at_0) rfl ?_
    show Steps p.tables e below (s₁.setTop (mkF m 1 #[.val (.long i0), .second, .val (.long i1), .second, .val (.long i2), .second, .val (.int i3), .unset, .unset, .unset, .unset, .unset, .unset, .unset, .unset, .unset, .unset, .unset, .unset, .unset, .unset, .unset, .unset, .unset, .unset, .unset, .unset, .unset, .unset, .unset, .unset, .unset, .unset, .unset] [(.long i0)])) _
    refine X0.ldc2Long hx hown (mvT hZ (hw _ (List.mem_of_getElem? (i := 0) rfl))) (g := (mkF m 1 #[.val (.long i0), .second, .val (.long i1), .second, .val (.long i2), .second, .val (.int i3), .unset, .unset, .unset, .unset, .unset, .unset, .unset, .unset, .unset, .unset, .unset, .unset, .unset, .unset, .unset, .unset, .unset, .unset, .unset, .unset, .unset, .unset, .unset, .unset, .unset, .unset, .unset] [(.long i0)])) rfl (hb hby at_1) _ ?_
    show Steps p.tables e below (s₁.setTop (mkF m 4 #[.val (.long i0), .second, .val (.long i1), .second, .val (.long i2), .second, .val (.int i3), .unset, .unset, .unset, .unset, .unset, .unset, .unset, .unset, .unset, .unset, .unset, .unset, .unset, .unset, .unset, .unset, .unset, .unset, .unset, .unset, .unset, .unset, .unset, .unset, .unset, .unset, .unset] [(.long (9223372036854775807 : Int64)), (.long i0)])) _
    refine XS.land X0.here hx rfl (hb hby at_4) rfl ?_
    show Steps p.tables e below (s₁.setTop (mkF m 5 #[.val (.long i0), .second, .val (.long i1), .second, .val (.long i2), .second, .val (.int i3), .unset, .unset, .unset, .unset, .unset, .unset, .unset, .unset, .unset, .unset, .unset, .unset, .unset, .unset, .unset, .unset, .unset, .unset, .unset, .unset, .unset, .unset, .unset, .unset, .unset, .unset, .unset] [(.long (i0 &&& (9223372036854775807 : Int64)))])) _
    refine XS.lstore X0.here hx rfl (hb hby at_5) rfl (l' := #[.val (.long i0), .second, .val (.long i1), .second, .val (.long i2), .second, .val (.int i3), .val (.long (i0 &&& (9223372036854775807 : Int64))), .second, .unset, .unset, .unset, .unset, .unset, .unset, .unset, .unset, .unset, .unset, .unset, .unset, .unset, .unset, .unset, .unset, .unset, .unset, .unset, .unset, .unset, .unset, .unset, .unset, .unset]) rfl ?_
    show Steps p.tables e below (s₁.setTop (mkF m 7 #[.val (.long i0), .second, .val (.long i1), .second, .val (.long i2), .second, .val (.int i3), .val (.long (i0 &&& (9223372036854775807 : Int64))), .second, .unset, .unset, .unset, .unset, .unset, .unset, .unset, .unset, .unset, .unset, .unset, .unset, .unset, .unset, .unset, .unset, .unset, .unset, .unset, .unset, .unset, .unset, .unset, .unset, .unset] [])) _
    refine XS.lloadN X0.here hx rfl (hb hby at_7) rfl ?_
    show Steps p.tables e below (s₁.setTop (mkF m 8 #[.val (.long i0), .second, .val (.long i1), .second, .val (.long i2), .second, .val (.int i3), .val (.long (i0 &&& (9223372036854775807 : Int64))), .second, .unset, .unset, .unset, .unset, .unset, .unset, .unset, .unset, .unset, .unset, .unset, .unset, .unset, .unset, .unset, .unset, .unset, .unset, .unset, .unset, .unset, .unset, .unset, .unset, .unset] [(.long i1)])) _
    refine X0.ldc2Long hx hown (mvT hZ (hw _ (List.mem_of_getElem? (i := 0) rfl))) (g := (mkF m 8 #[.val (.long i0), .second, .val (.long i1), .second, .val (.long i2), .second, .val (.int i3), .val (.long (i0 &&& (9223372036854775807 : Int64))), .second, .unset, .unset, .unset, .unset, .unset, .unset, .unset, .unset, .unset, .unset, .unset, .unset, .unset, .unset, .unset, .unset, .unset, .unset, .unset, .unset, .unset, .unset, .unset, .unset, .unset] [(.long i1)])) rfl (hb hby at_8) _ ?_
    show Steps p.tables e below (s₁.setTop (mkF m 11 #[.val (.long i0), .second, .val (.long i1), .second, .val (.long i2), .second, .val (.int i3), .val (.long (i0 &&& (9223372036854775807 : Int64))), .second, .unset, .unset, .unset, .unset, .unset, .unset, .unset, .unset, .unset, .unset, .unset, .unset, .unset, .unset, .unset, .unset, .unset, .unset, .unset, .unset, .unset, .unset, .unset, .unset, .unset] [(.long (9223372036854775807 : Int64)), (.long i1)])) _
    refine XS.land X0.here hx rfl (hb hby at_11) rfl ?_
    show Steps p.tables e below (s₁.setTop (mkF m 12 #[.val (.long i0), .second, .val (.long i1), .second, .val (.long i2), .second, .val (.int i3), .val (.long (i0 &&& (9223372036854775807 : Int64))), .second, .unset, .unset, .unset, .unset, .unset, .unset, .unset, .unset, .unset, .unset, .unset, .unset, .unset, .unset, .unset, .unset, .unset, .unset, .unset, .unset, .unset, .unset, .unset, .unset, .unset] [(.long (i1 &&& (9223372036854775807 : Int64)))])) _
    refine XS.lstore X0.here hx rfl (hb hby at_12) rfl (l' := #[.val (.long i0), .second, .val (.long i1), .second, .val (.long i2), .second, .val (.int i3), .val (.long (i0 &&& (9223372036854775807 : Int64))), .second, .val (.long (i1 &&& (9223372036854775807 : Int64))), .second, .unset, .unset, .unset, .unset, .unset, .unset, .unset, .unset, .unset, .unset, .unset, .unset, .unset, .unset, .unset, .unset, .unset, .unset, .unset, .unset, .unset, .unset, .unset]) rfl ?_
    show Steps p.tables e below (s₁.setTop (mkF m 14 #[.val (.long i0), .second, .val (.long i1), .second, .val (.long i2), .second, .val (.int i3), .val (.long (i0 &&& (9223372036854775807 : Int64))), .second, .val (.long (i1 &&& (9223372036854775807 : Int64))), .second, .unset, .unset, .unset, .unset, .unset, .unset, .unset, .unset, .unset, .unset, .unset, .unset, .unset, .unset, .unset, .unset, .unset, .unset, .unset, .unset, .unset, .unset, .unset] [])) _
    refine XS.lload X0.here hx rfl (hb hby at_14) rfl ?_
    show Steps p.tables e below (s₁.setTop (mkF m 16 #[.val (.long i0), .second, .val (.long i1), .second, .val (.long i2), .second, .val (.int i3), .val (.long (i0 &&& (9223372036854775807 : Int64))), .second, .val (.long (i1 &&& (9223372036854775807 : Int64))), .second, .unset, .unset, .unset, .unset, .unset, .unset, .unset, .unset, .unset, .unset, .unset, .unset, .unset, .unset, .unset, .unset, .unset, .unset, .unset, .unset, .unset, .unset, .unset] [(.long i2)])) _
    refine X0.ldc2Long hx hown (mvT hZ (hw _ (List.mem_of_getElem? (i := 0) rfl))) (g := (mkF m 16 #[.val (.long i0), .second, .val (.long i1), .second, .val (.long i2), .second, .val (.int i3), .val (.long (i0 &&& (9223372036854775807 : Int64))), .second, .val (.long (i1 &&& (9223372036854775807 : Int64))), .second, .unset, .unset, .unset, .unset, .unset, .unset, .unset, .unset, .unset, .unset, .unset, .unset, .unset, .unset, .unset, .unset, .unset, .unset, .unset, .unset, .unset, .unset, .unset] [(.long i2)])) rfl (hb hby at_16) _ ?_
    show Steps p.tables e below (s₁.setTop (mkF m 19 #[.val (.long i0), .second, .val (.long i1), .second, .val (.long i2), .second, .val (.int i3), .val (.long (i0 &&& (9223372036854775807 : Int64))), .second, .val (.long (i1 &&& (9223372036854775807 : Int64))), .second, .unset, .unset, .unset, .unset, .unset, .unset, .unset, .unset, .unset, .unset, .unset, .unset, .unset, .unset, .unset, .unset, .unset, .unset, .unset, .unset, .unset, .unset, .unset] [(.long (9223372036854775807 : Int64)), (.long i2)])) _
    refine XS.land X0.here hx rfl (hb hby at_19) rfl ?_
    show Steps p.tables e below (s₁.setTop (mkF m 20 #[.val (.long i0), .second, .val (.long i1), .second, .val (.long i2), .second, .val (.int i3), .val (.long (i0 &&& (9223372036854775807 : Int64))), .second, .val (.long (i1 &&& (9223372036854775807 : Int64))), .second, .unset, .unset, .unset, .unset, .unset, .unset, .unset, .unset, .unset, .unset, .unset, .unset, .unset, .unset, .unset, .unset, .unset, .unset, .unset, .unset, .unset, .unset, .unset] [(.long (i2 &&& (9223372036854775807 : Int64)))])) _
    refine XS.lstore X0.here hx rfl (hb hby at_20) rfl (l' := #[.val (.long i0), .second, .val (.long i1), .second, .val (.long i2), .second, .val (.int i3), .val (.long (i0 &&& (9223372036854775807 : Int64))), .second, .val (.long (i1 &&& (9223372036854775807 : Int64))), .second, .val (.long (i2 &&& (9223372036854775807 : Int64))), .second, .unset, .unset, .unset, .unset, .unset, .unset, .unset, .unset, .unset, .unset, .unset, .unset, .unset, .unset, .unset, .unset, .unset, .unset, .unset, .unset, .unset]) rfl ?_
    show Steps p.tables e below (s₁.setTop (mkF m 22 #[.val (.long i0), .second, .val (.long i1), .second, .val (.long i2), .second, .val (.int i3), .val (.long (i0 &&& (9223372036854775807 : Int64))), .second, .val (.long (i1 &&& (9223372036854775807 : Int64))), .second, .val (.long (i2 &&& (9223372036854775807 : Int64))), .second, .unset, .unset, .unset, .unset, .unset, .unset, .unset, .unset, .unset, .unset, .unset, .unset, .unset, .unset, .unset, .unset, .unset, .unset, .unset, .unset, .unset] [])) _
    refine XS.iload X0.here hx rfl (hb hby at_22) rfl ?_
    show Steps p.tables e below (s₁.setTop (mkF m 24 #[.val (.long i0), .second, .val (.long i1), .second, .val (.long i2), .second, .val (.int i3), .val (.long (i0 &&& (9223372036854775807 : Int64))), .second, .val (.long (i1 &&& (9223372036854775807 : Int64))), .second, .val (.long (i2 &&& (9223372036854775807 : Int64))), .second, .unset, .unset, .unset, .unset, .unset, .unset, .unset, .unset, .unset, .unset, .unset, .unset, .unset, .unset, .unset, .unset, .unset, .unset, .unset, .unset, .unset] [(.int i3)])) _
    refine XS.i2l X0.here hx rfl (hb hby at_24) rfl ?_
    show Steps p.tables e below (s₁.setTop (mkF m 25 #[.val (.long i0), .second, .val (.long i1), .second, .val (.long i2), .second, .val (.int i3), .val (.long (i0 &&& (9223372036854775807 : Int64))), .second, .val (.long (i1 &&& (9223372036854775807 : Int64))), .second, .val (.long (i2 &&& (9223372036854775807 : Int64))), .second, .unset, .unset, .unset, .unset, .unset, .unset, .unset, .unset, .unset, .unset, .unset, .unset, .unset, .unset, .unset, .unset, .unset, .unset, .unset, .unset, .unset] [(.long (i3.toInt64))])) _
    refine X0.ldc2Long hx hown (mvT hZ (hw _ (List.mem_of_getElem? (i := 1) rfl))) (g := (mkF m 25 #[.val (.long i0), .second, .val (.long i1), .second, .val (.long i2), .second, .val (.int i3), .val (.long (i0 &&& (9223372036854775807 : Int64))), .second, .val (.long (i1 &&& (9223372036854775807 : Int64))), .second, .val (.long (i2 &&& (9223372036854775807 : Int64))), .second, .unset, .unset, .unset, .unset, .unset, .unset, .unset, .unset, .unset, .unset, .unset, .unset, .unset, .unset, .unset, .unset, .unset, .unset, .unset, .unset, .unset] [(.long (i3.toInt64))])) rfl (hb hby at_25) _ ?_
    show Steps p.tables e below (s₁.setTop (mkF m 28 #[.val (.long i0), .second, .val (.long i1), .second, .val (.long i2), .second, .val (.int i3), .val (.long (i0 &&& (9223372036854775807 : Int64))), .second, .val (.long (i1 &&& (9223372036854775807 : Int64))), .second, .val (.long (i2 &&& (9223372036854775807 : Int64))), .second, .unset, .unset, .unset, .unset, .unset, .unset, .unset, .unset, .unset, .unset, .unset, .unset, .unset, .unset, .unset, .unset, .unset, .unset, .unset, .unset, .unset] [(.long (67108863 : Int64)), (.long (i3.toInt64))])) _
    refine XS.land X0.here hx rfl (hb hby at_28) rfl ?_
    show Steps p.tables e below (s₁.setTop (mkF m 29 #[.val (.long i0), .second, .val (.long i1), .second, .val (.long i2), .second, .val (.int i3), .val (.long (i0 &&& (9223372036854775807 : Int64))), .second, .val (.long (i1 &&& (9223372036854775807 : Int64))), .second, .val (.long (i2 &&& (9223372036854775807 : Int64))), .second, .unset, .unset, .unset, .unset, .unset, .unset, .unset, .unset, .unset, .unset, .unset, .unset, .unset, .unset, .unset, .unset, .unset, .unset, .unset, .unset, .unset] [(.long ((i3.toInt64) &&& (67108863 : Int64)))])) _
    refine XS.lstore X0.here hx rfl (hb hby at_29) rfl (l' := #[.val (.long i0), .second, .val (.long i1), .second, .val (.long i2), .second, .val (.int i3), .val (.long (i0 &&& (9223372036854775807 : Int64))), .second, .val (.long (i1 &&& (9223372036854775807 : Int64))), .second, .val (.long (i2 &&& (9223372036854775807 : Int64))), .second, .val (.long ((i3.toInt64) &&& (67108863 : Int64))), .second, .unset, .unset, .unset, .unset, .unset, .unset, .unset, .unset, .unset, .unset, .unset, .unset, .unset, .unset, .unset, .unset, .unset, .unset, .unset]) rfl ?_
    exact kt
  obtain ⟨va, hva⟩ : ∃ z, z = (i0 &&& (9223372036854775807 : Int64)) := ⟨_, rfl⟩
  obtain ⟨vb, hvb⟩ : ∃ z, z = (i1 &&& (9223372036854775807 : Int64)) := ⟨_, rfl⟩
  obtain ⟨vc, hvc⟩ : ∃ z, z = (i2 &&& (9223372036854775807 : Int64)) := ⟨_, rfl⟩
  obtain ⟨vs, hvs⟩ : ∃ z, z = ((i3.toInt64) &&& (67108863 : Int64)) := ⟨_, rfl⟩
  rw [← hva, ← hvb, ← hvc, ← hvs] at sg1
  have gva : 0 ≤ va.toInt := by rw [hva, c_maskL i0 9223372036854775807 63 (by decide) (by decide)]; exact Int.emod_nonneg _ (by decide)
  have gvb : 0 ≤ vb.toInt := by rw [hvb, c_maskL i1 9223372036854775807 63 (by decide) (by decide)]; exact Int.emod_nonneg _ (by decide)
  have gvc : 0 ≤ vc.toInt := by rw [hvc, c_maskL i2 9223372036854775807 63 (by decide) (by decide)]; exact Int.emod_nonneg _ (by decide)
  have gs0 : 0 ≤ vs.toInt := by rw [hvs, c_maskL _ 67108863 26 (by decide) (by decide)]; exact Int.emod_nonneg _ (by decide)
  have gs1 : vs.toInt < 67108864 := by rw [hvs, c_maskL _ 67108863 26 (by decide) (by decide)]; exact Int.emod_lt_of_pos _ (by decide)
  have sg2 : ∀ t, Steps p.tables e below (s₁.setTop (mkF m 32 #[.val (.long i0), .second, .val (.long i1), .second, .val (.long i2), .second, .val (.int i3), .val (.long va), .second, .val (.long vb), .second, .val (.long vc), .second, .val (.long vs), .second, .unset, .unset, .unset, .unset, .unset, .unset, .unset, .unset, .unset, .unset, .unset, .unset, .unset, .unset, .unset, .unset, .unset, .unset, .unset] [(.int (0 : Int32))])) t → Steps p.tables e below (s₁.setTop (mkF m 31 #[.val (.long i0), .second, .val (.long i1), .second, .val (.long i2), .second, .val (.int i3), .val (.long va), .second, .val (.long vb), .second, .val (.long vc), .second, .val (.long vs), .second, .unset, .unset, .unset, .unset, .unset, .unset, .unset, .unset, .unset, .unset, .unset, .unset, .unset, .unset, .unset, .unset, .unset, .unset, .unset] [])) t := by
    intro t kt
    refine XS.iconst X0.here hx rfl (hb hby at_31) ?_
    exact kt
  obtain ⟨T3, h3, k3, X3, e3, E3, A3, st3⟩ := newP X0 hx hZ (hw _ (List.mem_of_getElem? (i := 2) rfl)) e0 (g := (mkF m 32 #[.val (.long i0), .second, .val (.long i1), .second, .val (.long i2), .second, .val (.int i3), .val (.long va), .second, .val (.long vb), .second, .val (.long vc), .second, .val (.long vs), .second, .unset, .unset, .unset, .unset, .unset, .unset, .unset, .unset, .unset, .unset, .unset, .unset, .unset, .unset, .unset, .unset, .unset, .unset, .unset] [(.int (0 : Int32))])) rfl (hb hby at_32) rfl (by decide) (cap := 0) (by decide) (by decide) (by decide) (by decide)
  obtain ⟨b4, g3⟩ : ∃ z, z = h0.size := ⟨_, rfl⟩
  rw [← g3] at A3 st3
  have g_b4 : n0 ≤ b4 := Nat.le_trans Z0 (Nat.le_of_eq g3.symm)
  have Zs5 : n0 ≤ h3.size := Nat.le_trans Z0 E3.1
  have f6 : Arv Z h3 b4 k3 .long (0 : Int32) [] (.long (0 : Int64)) := (Arv.new A3 (by decide)).pad (pad_rep [] (.long (0 : Int64)) 0)
  obtain ⟨_, _, ⟨T7, L7, k7, n7⟩, -, X7, ⟨Lc7, hQ7, l7, y7, z7⟩, st7⟩ := Jvm.LawKit.callS X3 hx (y := (⟨"com/example/wildebeest/wildebeest/inference/Spreads", "work", "([J)D"⟩ : MethodName)) hown (mvT hZ (hw _ (List.mem_of_getElem? (i := 3) rfl))) (mvT hZ (hw _ (List.mem_of_getElem? (i := 4) rfl))) (mvT hZ (hw _ (List.mem_of_getElem? (i := 5) rfl))) (mvT hZ (hw _ (List.mem_of_getElem? (i := 6) rfl))) (by decide) (backOf (W := 0) (rm1 l Z a0 hw [] b4 (0 : Int32) [] k3 h3 n0 Zs5 (Nat.le_of_ble_eq_true rfl) rfl f6) hZ (hw _ (List.mem_of_getElem? (i := 6) rfl)) (hw _ (List.mem_of_getElem? (i := 5) rfl)) (by decide) (by decide)) (g := (mkF m 34 #[.val (.long i0), .second, .val (.long i1), .second, .val (.long i2), .second, .val (.int i3), .val (.long va), .second, .val (.long vb), .second, .val (.long vc), .second, .val (.long vs), .second, .unset, .unset, .unset, .unset, .unset, .unset, .unset, .unset, .unset, .unset, .unset, .unset, .unset, .unset, .unset, .unset, .unset, .unset, .unset] [(.ref b4)])) rfl (by rw [hml]; rfl) (argsL := [(.ref b4)]) (rest := []) (lenOf pd_0 rfl) rfl (by show 2 * 0 + _ ≤ _; exact Nat.le_of_eq rfl) (hb hby at_34) (fun _ _ => ⟨rfl, e3, (by decide : 1 + 0 ≤ _), (by decide : 0 + 0 ≤ _)⟩)
  dsimp only [Pt.U, Pt.locs, Pt.cells, Pt.slots] at X7 l7 y7 z7 st7 hQ7
  subst l7 y7 z7
  obtain ⟨rfl, Nq7, eq7⟩ := hQ7
  have N7 := Fr.app N0 Nq7
  have sg8 : ∀ t, Steps p.tables e below (T7.setTop (mkF m 40 #[.val (.long i0), .second, .val (.long i1), .second, .val (.long i2), .second, .val (.int i3), .val (.long va), .second, .val (.long vb), .second, .val (.long vc), .second, .val (.long vs), .second, .val (.double (own_fold FP.dconst1 [])), .second, .unset, .unset, .unset, .unset, .unset, .unset, .unset, .unset, .unset, .unset, .unset, .unset, .unset, .unset, .unset, .unset, .unset] [(.int (1 : Int32))])) t → Steps p.tables e below (T7.setTop (mkF m 37 #[.val (.long i0), .second, .val (.long i1), .second, .val (.long i2), .second, .val (.int i3), .val (.long va), .second, .val (.long vb), .second, .val (.long vc), .second, .val (.long vs), .second, .unset, .unset, .unset, .unset, .unset, .unset, .unset, .unset, .unset, .unset, .unset, .unset, .unset, .unset, .unset, .unset, .unset, .unset, .unset] [(.double (own_fold FP.dconst1 []))])) t := by
    intro t kt
    refine XS.dstore X7.here hx rfl (hb hby at_37) rfl (l' := #[.val (.long i0), .second, .val (.long i1), .second, .val (.long i2), .second, .val (.int i3), .val (.long va), .second, .val (.long vb), .second, .val (.long vc), .second, .val (.long vs), .second, .val (.double (own_fold FP.dconst1 [])), .second, .unset, .unset, .unset, .unset, .unset, .unset, .unset, .unset, .unset, .unset, .unset, .unset, .unset, .unset, .unset, .unset, .unset]) rfl ?_
    show Steps p.tables e below (T7.setTop (mkF m 39 #[.val (.long i0), .second, .val (.long i1), .second, .val (.long i2), .second, .val (.int i3), .val (.long va), .second, .val (.long vb), .second, .val (.long vc), .second, .val (.long vs), .second, .val (.double (own_fold FP.dconst1 [])), .second, .unset, .unset, .unset, .unset, .unset, .unset, .unset, .unset, .unset, .unset, .unset, .unset, .unset, .unset, .unset, .unset, .unset] [])) _
    refine XS.iconst X7.here hx rfl (hb hby at_39) ?_
    exact kt
  obtain ⟨T9, h9, k9, X9, e9, E9, A9, st9⟩ := newP X7 hx hZ (hw _ (List.mem_of_getElem? (i := 2) rfl)) eq7 (g := (mkF m 40 #[.val (.long i0), .second, .val (.long i1), .second, .val (.long i2), .second, .val (.int i3), .val (.long va), .second, .val (.long vb), .second, .val (.long vc), .second, .val (.long vs), .second, .val (.double (own_fold FP.dconst1 [])), .second, .unset, .unset, .unset, .unset, .unset, .unset, .unset, .unset, .unset, .unset, .unset, .unset, .unset, .unset, .unset, .unset, .unset] [(.int (1 : Int32))])) rfl (hb hby at_40) rfl (by decide) (cap := 1) (by decide) (by decide) (by decide) (by decide)
  obtain ⟨b10, g9⟩ : ∃ z, z = h3.size := ⟨_, rfl⟩
  rw [← g9] at A9 st9
  have g_b10 : n0 ≤ b10 := Nat.le_trans Zs5 (Nat.le_of_eq g9.symm)
  have Zs11 : n0 ≤ h9.size := Nat.le_trans Zs5 E9.1
  have f12 : Arv Z h9 b10 k9 .long (1 : Int32) [(.long (0 : Int64))] (.long (0 : Int64)) := (Arv.new A9 (by decide)).pad (pad_rep [] (.long (0 : Int64)) 1)
  have sg13 : ∀ t, Steps p.tables e below (T9.setTop (mkF m 46 #[.val (.long i0), .second, .val (.long i1), .second, .val (.long i2), .second, .val (.int i3), .val (.long va), .second, .val (.long vb), .second, .val (.long vc), .second, .val (.long vs), .second, .val (.double (own_fold FP.dconst1 [])), .second, .unset, .unset, .unset, .unset, .unset, .unset, .unset, .unset, .unset, .unset, .unset, .unset, .unset, .unset, .unset, .unset, .unset] [(.long va), (.int (0 : Int32)), (.ref b10), (.ref b10)])) t → Steps p.tables e below (T9.setTop (mkF m 42 #[.val (.long i0), .second, .val (.long i1), .second, .val (.long i2), .second, .val (.int i3), .val (.long va), .second, .val (.long vb), .second, .val (.long vc), .second, .val (.long vs), .second, .val (.double (own_fold FP.dconst1 [])), .second, .unset, .unset, .unset, .unset, .unset, .unset, .unset, .unset, .unset, .unset, .unset, .unset, .unset, .unset, .unset, .unset, .unset] [(.ref b10)])) t := by
    intro t kt
    refine XS.dup X9.here hx rfl (hb hby at_42) rfl rfl ?_
    show Steps p.tables e below (T9.setTop (mkF m 43 #[.val (.long i0), .second, .val (.long i1), .second, .val (.long i2), .second, .val (.int i3), .val (.long va), .second, .val (.long vb), .second, .val (.long vc), .second, .val (.long vs), .second, .val (.double (own_fold FP.dconst1 [])), .second, .unset, .unset, .unset, .unset, .unset, .unset, .unset, .unset, .unset, .unset, .unset, .unset, .unset, .unset, .unset, .unset, .unset] [(.ref b10), (.ref b10)])) _
    refine XS.iconst X9.here hx rfl (hb hby at_43) ?_
    show Steps p.tables e below (T9.setTop (mkF m 44 #[.val (.long i0), .second, .val (.long i1), .second, .val (.long i2), .second, .val (.int i3), .val (.long va), .second, .val (.long vb), .second, .val (.long vc), .second, .val (.long vs), .second, .val (.double (own_fold FP.dconst1 [])), .second, .unset, .unset, .unset, .unset, .unset, .unset, .unset, .unset, .unset, .unset, .unset, .unset, .unset, .unset, .unset, .unset, .unset] [(.int (0 : Int32)), (.ref b10), (.ref b10)])) _
    refine XS.lload X9.here hx rfl (hb hby at_44) rfl ?_
    exact kt
  obtain ⟨clu14, Aru14, qu14, Su14, Ngu14, Hu14, Gu14⟩ := f12
  have hinu14 : ¬ ((0 : Int32) < 0 ∨ clu14.slots.size ≤ ((0 : Int32)).toNatClampNeg) := inb_of Su14 ⟨by decide, by decide⟩
  obtain ⟨T15, h15, X15, e15, W15, st15⟩ := stJ X9 hx hZ e9 Aru14 (j := (0 : Int32)) hinu14 (g := (mkF m 46 #[.val (.long i0), .second, .val (.long i1), .second, .val (.long i2), .second, .val (.int i3), .val (.long va), .second, .val (.long vb), .second, .val (.long vc), .second, .val (.long vs), .second, .val (.double (own_fold FP.dconst1 [])), .second, .unset, .unset, .unset, .unset, .unset, .unset, .unset, .unset, .unset, .unset, .unset, .unset, .unset, .unset, .unset, .unset, .unset] [(.long va), (.int (0 : Int32)), (.ref b10), (.ref b10)])) rfl rfl (hb hby at_46)
  have f16 := Arv.set Aru14 qu14 Su14 Ngu14 Hu14 Gu14 rfl W15 0 rfl (Nat.le_of_ble_eq_true rfl)
  have Zs17 : n0 ≤ h15.size := by rw [W15.size]; exact Zs11
  have N15 := Fr.snoc X15 N7 g_b10
  obtain ⟨_, _, ⟨T18, L18, k18, n18⟩, -, X18, ⟨Lc18, hQ18, l18, y18, z18⟩, st18⟩ := Jvm.LawKit.callS X15 hx (y := (⟨"com/example/wildebeest/wildebeest/inference/Spreads", "work", "([J)D"⟩ : MethodName)) hown (mvT hZ (hw _ (List.mem_of_getElem? (i := 3) rfl))) (mvT hZ (hw _ (List.mem_of_getElem? (i := 4) rfl))) (mvT hZ (hw _ (List.mem_of_getElem? (i := 5) rfl))) (mvT hZ (hw _ (List.mem_of_getElem? (i := 6) rfl))) (by decide) (backOf (W := 0) (rm1 l Z a0 hw [] b10 (1 : Int32) [va] k9 h15 n0 Zs17 (Nat.le_of_ble_eq_true rfl) rfl f16) hZ (hw _ (List.mem_of_getElem? (i := 6) rfl)) (hw _ (List.mem_of_getElem? (i := 5) rfl)) (by decide) (by decide)) (g := (mkF m 47 #[.val (.long i0), .second, .val (.long i1), .second, .val (.long i2), .second, .val (.int i3), .val (.long va), .second, .val (.long vb), .second, .val (.long vc), .second, .val (.long vs), .second, .val (.double (own_fold FP.dconst1 [])), .second, .unset, .unset, .unset, .unset, .unset, .unset, .unset, .unset, .unset, .unset, .unset, .unset, .unset, .unset, .unset, .unset, .unset] [(.ref b10)])) rfl (by rw [hml]; rfl) (argsL := [(.ref b10)]) (rest := []) (lenOf pd_0 rfl) rfl (by show 2 * 0 + _ ≤ _; exact Nat.le_of_eq rfl) (hb hby at_47) (fun _ _ => ⟨rfl, e15, (by decide : 2 + 0 ≤ _), (by decide : 1 + 0 ≤ _)⟩)
  dsimp only [Pt.U, Pt.locs, Pt.cells, Pt.slots] at X18 l18 y18 z18 st18 hQ18
  subst l18 y18 z18
  obtain ⟨rfl, Nq18, eq18⟩ := hQ18
  have N18 := Fr.app N15 Nq18
  have sg19 : ∀ t, Steps p.tables e below (T18.setTop (mkF m 53 #[.val (.long i0), .second, .val (.long i1), .second, .val (.long i2), .second, .val (.int i3), .val (.long va), .second, .val (.long vb), .second, .val (.long vc), .second, .val (.long vs), .second, .val (.double (own_fold FP.dconst1 [])), .second, .val (.double (own_fold FP.dconst1 [va])), .second, .unset, .unset, .unset, .unset, .unset, .unset, .unset, .unset, .unset, .unset, .unset, .unset, .unset, .unset, .unset] [(.int (1 : Int32))])) t → Steps p.tables e below (T18.setTop (mkF m 50 #[.val (.long i0), .second, .val (.long i1), .second, .val (.long i2), .second, .val (.int i3), .val (.long va), .second, .val (.long vb), .second, .val (.long vc), .second, .val (.long vs), .second, .val (.double (own_fold FP.dconst1 [])), .second, .unset, .unset, .unset, .unset, .unset, .unset, .unset, .unset, .unset, .unset, .unset, .unset, .unset, .unset, .unset, .unset, .unset] [(.double (own_fold FP.dconst1 [va]))])) t := by
    intro t kt
    refine XS.dstore X18.here hx rfl (hb hby at_50) rfl (l' := #[.val (.long i0), .second, .val (.long i1), .second, .val (.long i2), .second, .val (.int i3), .val (.long va), .second, .val (.long vb), .second, .val (.long vc), .second, .val (.long vs), .second, .val (.double (own_fold FP.dconst1 [])), .second, .val (.double (own_fold FP.dconst1 [va])), .second, .unset, .unset, .unset, .unset, .unset, .unset, .unset, .unset, .unset, .unset, .unset, .unset, .unset, .unset, .unset]) rfl ?_
    show Steps p.tables e below (T18.setTop (mkF m 52 #[.val (.long i0), .second, .val (.long i1), .second, .val (.long i2), .second, .val (.int i3), .val (.long va), .second, .val (.long vb), .second, .val (.long vc), .second, .val (.long vs), .second, .val (.double (own_fold FP.dconst1 [])), .second, .val (.double (own_fold FP.dconst1 [va])), .second, .unset, .unset, .unset, .unset, .unset, .unset, .unset, .unset, .unset, .unset, .unset, .unset, .unset, .unset, .unset] [])) _
    refine XS.iconst X18.here hx rfl (hb hby at_52) ?_
    exact kt
  obtain ⟨T20, h20, k20, X20, e20, E20, A20, st20⟩ := newP X18 hx hZ (hw _ (List.mem_of_getElem? (i := 2) rfl)) eq18 (g := (mkF m 53 #[.val (.long i0), .second, .val (.long i1), .second, .val (.long i2), .second, .val (.int i3), .val (.long va), .second, .val (.long vb), .second, .val (.long vc), .second, .val (.long vs), .second, .val (.double (own_fold FP.dconst1 [])), .second, .val (.double (own_fold FP.dconst1 [va])), .second, .unset, .unset, .unset, .unset, .unset, .unset, .unset, .unset, .unset, .unset, .unset, .unset, .unset, .unset, .unset] [(.int (1 : Int32))])) rfl (hb hby at_53) rfl (by decide) (cap := 1) (by decide) (by decide) (by decide) (by decide)
  obtain ⟨b21, g20⟩ : ∃ z, z = h15.size := ⟨_, rfl⟩
  rw [← g20] at A20 st20
  have g_b21 : n0 ≤ b21 := Nat.le_trans Zs17 (Nat.le_of_eq g20.symm)
  have Zs22 : n0 ≤ h20.size := Nat.le_trans Zs17 E20.1
  have f23 : Arv Z h20 b21 k20 .long (1 : Int32) [(.long (0 : Int64))] (.long (0 : Int64)) := (Arv.new A20 (by decide)).pad (pad_rep [] (.long (0 : Int64)) 1)
  have sg24 : ∀ t, Steps p.tables e below (T20.setTop (mkF m 59 #[.val (.long i0), .second, .val (.long i1), .second, .val (.long i2), .second, .val (.int i3), .val (.long va), .second, .val (.long vb), .second, .val (.long vc), .second, .val (.long vs), .second, .val (.double (own_fold FP.dconst1 [])), .second, .val (.double (own_fold FP.dconst1 [va])), .second, .unset, .unset, .unset, .unset, .unset, .unset, .unset, .unset, .unset, .unset, .unset, .unset, .unset, .unset, .unset] [(.long vb), (.int (0 : Int32)), (.ref b21), (.ref b21)])) t → Steps p.tables e below (T20.setTop (mkF m 55 #[.val (.long i0), .second, .val (.long i1), .second, .val (.long i2), .second, .val (.int i3), .val (.long va), .second, .val (.long vb), .second, .val (.long vc), .second, .val (.long vs), .second, .val (.double (own_fold FP.dconst1 [])), .second, .val (.double (own_fold FP.dconst1 [va])), .second, .unset, .unset, .unset, .unset, .unset, .unset, .unset, .unset, .unset, .unset, .unset, .unset, .unset, .unset, .unset] [(.ref b21)])) t := by
    intro t kt
    refine XS.dup X20.here hx rfl (hb hby at_55) rfl rfl ?_
    show Steps p.tables e below (T20.setTop (mkF m 56 #[.val (.long i0), .second, .val (.long i1), .second, .val (.long i2), .second, .val (.int i3), .val (.long va), .second, .val (.long vb), .second, .val (.long vc), .second, .val (.long vs), .second, .val (.double (own_fold FP.dconst1 [])), .second, .val (.double (own_fold FP.dconst1 [va])), .second, .unset, .unset, .unset, .unset, .unset, .unset, .unset, .unset, .unset, .unset, .unset, .unset, .unset, .unset, .unset] [(.ref b21), (.ref b21)])) _
    refine XS.iconst X20.here hx rfl (hb hby at_56) ?_
    show Steps p.tables e below (T20.setTop (mkF m 57 #[.val (.long i0), .second, .val (.long i1), .second, .val (.long i2), .second, .val (.int i3), .val (.long va), .second, .val (.long vb), .second, .val (.long vc), .second, .val (.long vs), .second, .val (.double (own_fold FP.dconst1 [])), .second, .val (.double (own_fold FP.dconst1 [va])), .second, .unset, .unset, .unset, .unset, .unset, .unset, .unset, .unset, .unset, .unset, .unset, .unset, .unset, .unset, .unset] [(.int (0 : Int32)), (.ref b21), (.ref b21)])) _
    refine XS.lload X20.here hx rfl (hb hby at_57) rfl ?_
    exact kt
  obtain ⟨clu25, Aru25, qu25, Su25, Ngu25, Hu25, Gu25⟩ := f23
  have hinu25 : ¬ ((0 : Int32) < 0 ∨ clu25.slots.size ≤ ((0 : Int32)).toNatClampNeg) := inb_of Su25 ⟨by decide, by decide⟩
  obtain ⟨T26, h26, X26, e26, W26, st26⟩ := stJ X20 hx hZ e20 Aru25 (j := (0 : Int32)) hinu25 (g := (mkF m 59 #[.val (.long i0), .second, .val (.long i1), .second, .val (.long i2), .second, .val (.int i3), .val (.long va), .second, .val (.long vb), .second, .val (.long vc), .second, .val (.long vs), .second, .val (.double (own_fold FP.dconst1 [])), .second, .val (.double (own_fold FP.dconst1 [va])), .second, .unset, .unset, .unset, .unset, .unset, .unset, .unset, .unset, .unset, .unset, .unset, .unset, .unset, .unset, .unset] [(.long vb), (.int (0 : Int32)), (.ref b21), (.ref b21)])) rfl rfl (hb hby at_59)
  have f27 := Arv.set Aru25 qu25 Su25 Ngu25 Hu25 Gu25 rfl W26 0 rfl (Nat.le_of_ble_eq_true rfl)
  have Zs28 : n0 ≤ h26.size := by rw [W26.size]; exact Zs22
  have N26 := Fr.snoc X26 N18 g_b21
  obtain ⟨_, _, ⟨T29, L29, k29, n29⟩, -, X29, ⟨Lc29, hQ29, l29, y29, z29⟩, st29⟩ := Jvm.LawKit.callS X26 hx (y := (⟨"com/example/wildebeest/wildebeest/inference/Spreads", "work", "([J)D"⟩ : MethodName)) hown (mvT hZ (hw _ (List.mem_of_getElem? (i := 3) rfl))) (mvT hZ (hw _ (List.mem_of_getElem? (i := 4) rfl))) (mvT hZ (hw _ (List.mem_of_getElem? (i := 5) rfl))) (mvT hZ (hw _ (List.mem_of_getElem? (i := 6) rfl))) (by decide) (backOf (W := 0) (rm1 l Z a0 hw [] b21 (1 : Int32) [vb] k20 h26 n0 Zs28 (Nat.le_of_ble_eq_true rfl) rfl f27) hZ (hw _ (List.mem_of_getElem? (i := 6) rfl)) (hw _ (List.mem_of_getElem? (i := 5) rfl)) (by decide) (by decide)) (g := (mkF m 60 #[.val (.long i0), .second, .val (.long i1), .second, .val (.long i2), .second, .val (.int i3), .val (.long va), .second, .val (.long vb), .second, .val (.long vc), .second, .val (.long vs), .second, .val (.double (own_fold FP.dconst1 [])), .second, .val (.double (own_fold FP.dconst1 [va])), .second, .unset, .unset, .unset, .unset, .unset, .unset, .unset, .unset, .unset, .unset, .unset, .unset, .unset, .unset, .unset] [(.ref b21)])) rfl (by rw [hml]; rfl) (argsL := [(.ref b21)]) (rest := []) (lenOf pd_0 rfl) rfl (by show 2 * 0 + _ ≤ _; exact Nat.le_of_eq rfl) (hb hby at_60) (fun _ _ => ⟨rfl, e26, (by decide : 3 + 0 ≤ _), (by decide : 2 + 0 ≤ _)⟩)
  dsimp only [Pt.U, Pt.locs, Pt.cells, Pt.slots] at X29 l29 y29 z29 st29 hQ29
  subst l29 y29 z29
  obtain ⟨rfl, Nq29, eq29⟩ := hQ29
  have N29 := Fr.app N26 Nq29
  have sg30 : ∀ t, Steps p.tables e below (T29.setTop (mkF m 66 #[.val (.long i0), .second, .val (.long i1), .second, .val (.long i2), .second, .val (.int i3), .val (.long va), .second, .val (.long vb), .second, .val (.long vc), .second, .val (.long vs), .second, .val (.double (own_fold FP.dconst1 [])), .second, .val (.double (own_fold FP.dconst1 [va])), .second, .val (.double (own_fold FP.dconst1 [vb])), .second, .unset, .unset, .unset, .unset, .unset, .unset, .unset, .unset, .unset, .unset, .unset, .unset, .unset] [(.int (1 : Int32))])) t → Steps p.tables e below (T29.setTop (mkF m 63 #[.val (.long i0), .second, .val (.long i1), .second, .val (.long i2), .second, .val (.int i3), .val (.long va), .second, .val (.long vb), .second, .val (.long vc), .second, .val (.long vs), .second, .val (.double (own_fold FP.dconst1 [])), .second, .val (.double (own_fold FP.dconst1 [va])), .second, .unset, .unset, .unset, .unset, .unset, .unset, .unset, .unset, .unset, .unset, .unset, .unset, .unset, .unset, .unset] [(.double (own_fold FP.dconst1 [vb]))])) t := by
    intro t kt
    refine XS.dstore X29.here hx rfl (hb hby at_63) rfl (l' := #[.val (.long i0), .second, .val (.long i1), .second, .val (.long i2), .second, .val (.int i3), .val (.long va), .second, .val (.long vb), .second, .val (.long vc), .second, .val (.long vs), .second, .val (.double (own_fold FP.dconst1 [])), .second, .val (.double (own_fold FP.dconst1 [va])), .second, .val (.double (own_fold FP.dconst1 [vb])), .second, .unset, .unset, .unset, .unset, .unset, .unset, .unset, .unset, .unset, .unset, .unset, .unset, .unset]) rfl ?_
    show Steps p.tables e below (T29.setTop (mkF m 65 #[.val (.long i0), .second, .val (.long i1), .second, .val (.long i2), .second, .val (.int i3), .val (.long va), .second, .val (.long vb), .second, .val (.long vc), .second, .val (.long vs), .second, .val (.double (own_fold FP.dconst1 [])), .second, .val (.double (own_fold FP.dconst1 [va])), .second, .val (.double (own_fold FP.dconst1 [vb])), .second, .unset, .unset, .unset, .unset, .unset, .unset, .unset, .unset, .unset, .unset, .unset, .unset, .unset] [])) _
    refine XS.iconst X29.here hx rfl (hb hby at_65) ?_
    exact kt
  obtain ⟨T31, h31, k31, X31, e31, E31, A31, st31⟩ := newP X29 hx hZ (hw _ (List.mem_of_getElem? (i := 2) rfl)) eq29 (g := (mkF m 66 #[.val (.long i0), .second, .val (.long i1), .second, .val (.long i2), .second, .val (.int i3), .val (.long va), .second, .val (.long vb), .second, .val (.long vc), .second, .val (.long vs), .second, .val (.double (own_fold FP.dconst1 [])), .second, .val (.double (own_fold FP.dconst1 [va])), .second, .val (.double (own_fold FP.dconst1 [vb])), .second, .unset, .unset, .unset, .unset, .unset, .unset, .unset, .unset, .unset, .unset, .unset, .unset, .unset] [(.int (1 : Int32))])) rfl (hb hby at_66) rfl (by decide) (cap := 1) (by decide) (by decide) (by decide) (by decide)
  obtain ⟨b32, g31⟩ : ∃ z, z = h26.size := ⟨_, rfl⟩
  rw [← g31] at A31 st31
  have g_b32 : n0 ≤ b32 := Nat.le_trans Zs28 (Nat.le_of_eq g31.symm)
  have Zs33 : n0 ≤ h31.size := Nat.le_trans Zs28 E31.1
  have f34 : Arv Z h31 b32 k31 .long (1 : Int32) [(.long (0 : Int64))] (.long (0 : Int64)) := (Arv.new A31 (by decide)).pad (pad_rep [] (.long (0 : Int64)) 1)
  have sg35 : ∀ t, Steps p.tables e below (T31.setTop (mkF m 72 #[.val (.long i0), .second, .val (.long i1), .second, .val (.long i2), .second, .val (.int i3), .val (.long va), .second, .val (.long vb), .second, .val (.long vc), .second, .val (.long vs), .second, .val (.double (own_fold FP.dconst1 [])), .second, .val (.double (own_fold FP.dconst1 [va])), .second, .val (.double (own_fold FP.dconst1 [vb])), .second, .unset, .unset, .unset, .unset, .unset, .unset, .unset, .unset, .unset, .unset, .unset, .unset, .unset] [(.long vc), (.int (0 : Int32)), (.ref b32), (.ref b32)])) t → Steps p.tables e below (T31.setTop (mkF m 68 #[.val (.long i0), .second, .val (.long i1), .second, .val (.long i2), .second, .val (.int i3), .val (.long va), .second, .val (.long vb), .second, .val (.long vc), .second, .val (.long vs), .second, .val (.double (own_fold FP.dconst1 [])), .second, .val (.double (own_fold FP.dconst1 [va])), .second, .val (.double (own_fold FP.dconst1 [vb])), .second, .unset, .unset, .unset, .unset, .unset, .unset, .unset, .unset, .unset, .unset, .unset, .unset, .unset] [(.ref b32)])) t := by
    intro t kt
    refine XS.dup X31.here hx rfl (hb hby at_68) rfl rfl ?_
    show Steps p.tables e below (T31.setTop (mkF m 69 #[.val (.long i0), .second, .val (.long i1), .second, .val (.long i2), .second, .val (.int i3), .val (.long va), .second, .val (.long vb), .second, .val (.long vc), .second, .val (.long vs), .second, .val (.double (own_fold FP.dconst1 [])), .second, .val (.double (own_fold FP.dconst1 [va])), .second, .val (.double (own_fold FP.dconst1 [vb])), .second, .unset, .unset, .unset, .unset, .unset, .unset, .unset, .unset, .unset, .unset, .unset, .unset, .unset] [(.ref b32), (.ref b32)])) _
    refine XS.iconst X31.here hx rfl (hb hby at_69) ?_
    show Steps p.tables e below (T31.setTop (mkF m 70 #[.val (.long i0), .second, .val (.long i1), .second, .val (.long i2), .second, .val (.int i3), .val (.long va), .second, .val (.long vb), .second, .val (.long vc), .second, .val (.long vs), .second, .val (.double (own_fold FP.dconst1 [])), .second, .val (.double (own_fold FP.dconst1 [va])), .second, .val (.double (own_fold FP.dconst1 [vb])), .second, .unset, .unset, .unset, .unset, .unset, .unset, .unset, .unset, .unset, .unset, .unset, .unset, .unset] [(.int (0 : Int32)), (.ref b32), (.ref b32)])) _
    refine XS.lload X31.here hx rfl (hb hby at_70) rfl ?_
    exact kt
  obtain ⟨clu36, Aru36, qu36, Su36, Ngu36, Hu36, Gu36⟩ := f34
  have hinu36 : ¬ ((0 : Int32) < 0 ∨ clu36.slots.size ≤ ((0 : Int32)).toNatClampNeg) := inb_of Su36 ⟨by decide, by decide⟩
  obtain ⟨T37, h37, X37, e37, W37, st37⟩ := stJ X31 hx hZ e31 Aru36 (j := (0 : Int32)) hinu36 (g := (mkF m 72 #[.val (.long i0), .second, .val (.long i1), .second, .val (.long i2), .second, .val (.int i3), .val (.long va), .second, .val (.long vb), .second, .val (.long vc), .second, .val (.long vs), .second, .val (.double (own_fold FP.dconst1 [])), .second, .val (.double (own_fold FP.dconst1 [va])), .second, .val (.double (own_fold FP.dconst1 [vb])), .second, .unset, .unset, .unset, .unset, .unset, .unset, .unset, .unset, .unset, .unset, .unset, .unset, .unset] [(.long vc), (.int (0 : Int32)), (.ref b32), (.ref b32)])) rfl rfl (hb hby at_72)
  have f38 := Arv.set Aru36 qu36 Su36 Ngu36 Hu36 Gu36 rfl W37 0 rfl (Nat.le_of_ble_eq_true rfl)
  have Zs39 : n0 ≤ h37.size := by rw [W37.size]; exact Zs33
  have N37 := Fr.snoc X37 N29 g_b32
  obtain ⟨_, _, ⟨T40, L40, k40, n40⟩, -, X40, ⟨Lc40, hQ40, l40, y40, z40⟩, st40⟩ := Jvm.LawKit.callS X37 hx (y := (⟨"com/example/wildebeest/wildebeest/inference/Spreads", "work", "([J)D"⟩ : MethodName)) hown (mvT hZ (hw _ (List.mem_of_getElem? (i := 3) rfl))) (mvT hZ (hw _ (List.mem_of_getElem? (i := 4) rfl))) (mvT hZ (hw _ (List.mem_of_getElem? (i := 5) rfl))) (mvT hZ (hw _ (List.mem_of_getElem? (i := 6) rfl))) (by decide) (backOf (W := 0) (rm1 l Z a0 hw [] b32 (1 : Int32) [vc] k31 h37 n0 Zs39 (Nat.le_of_ble_eq_true rfl) rfl f38) hZ (hw _ (List.mem_of_getElem? (i := 6) rfl)) (hw _ (List.mem_of_getElem? (i := 5) rfl)) (by decide) (by decide)) (g := (mkF m 73 #[.val (.long i0), .second, .val (.long i1), .second, .val (.long i2), .second, .val (.int i3), .val (.long va), .second, .val (.long vb), .second, .val (.long vc), .second, .val (.long vs), .second, .val (.double (own_fold FP.dconst1 [])), .second, .val (.double (own_fold FP.dconst1 [va])), .second, .val (.double (own_fold FP.dconst1 [vb])), .second, .unset, .unset, .unset, .unset, .unset, .unset, .unset, .unset, .unset, .unset, .unset, .unset, .unset] [(.ref b32)])) rfl (by rw [hml]; rfl) (argsL := [(.ref b32)]) (rest := []) (lenOf pd_0 rfl) rfl (by show 2 * 0 + _ ≤ _; exact Nat.le_of_eq rfl) (hb hby at_73) (fun _ _ => ⟨rfl, e37, (by decide : 4 + 0 ≤ _), (by decide : 3 + 0 ≤ _)⟩)
  dsimp only [Pt.U, Pt.locs, Pt.cells, Pt.slots] at X40 l40 y40 z40 st40 hQ40
  subst l40 y40 z40
  obtain ⟨rfl, Nq40, eq40⟩ := hQ40
  have N40 := Fr.app N37 Nq40
  have sg41 : ∀ t, Steps p.tables e below (T40.setTop (mkF m 79 #[.val (.long i0), .second, .val (.long i1), .second, .val (.long i2), .second, .val (.int i3), .val (.long va), .second, .val (.long vb), .second, .val (.long vc), .second, .val (.long vs), .second, .val (.double (own_fold FP.dconst1 [])), .second, .val (.double (own_fold FP.dconst1 [va])), .second, .val (.double (own_fold FP.dconst1 [vb])), .second, .val (.double (own_fold FP.dconst1 [vc])), .second, .unset, .unset, .unset, .unset, .unset, .unset, .unset, .unset, .unset, .unset, .unset] [(.int (2 : Int32))])) t → Steps p.tables e below (T40.setTop (mkF m 76 #[.val (.long i0), .second, .val (.long i1), .second, .val (.long i2), .second, .val (.int i3), .val (.long va), .second, .val (.long vb), .second, .val (.long vc), .second, .val (.long vs), .second, .val (.double (own_fold FP.dconst1 [])), .second, .val (.double (own_fold FP.dconst1 [va])), .second, .val (.double (own_fold FP.dconst1 [vb])), .second, .unset, .unset, .unset, .unset, .unset, .unset, .unset, .unset, .unset, .unset, .unset, .unset, .unset] [(.double (own_fold FP.dconst1 [vc]))])) t := by
    intro t kt
    refine XS.dstore X40.here hx rfl (hb hby at_76) rfl (l' := #[.val (.long i0), .second, .val (.long i1), .second, .val (.long i2), .second, .val (.int i3), .val (.long va), .second, .val (.long vb), .second, .val (.long vc), .second, .val (.long vs), .second, .val (.double (own_fold FP.dconst1 [])), .second, .val (.double (own_fold FP.dconst1 [va])), .second, .val (.double (own_fold FP.dconst1 [vb])), .second, .val (.double (own_fold FP.dconst1 [vc])), .second, .unset, .unset, .unset, .unset, .unset, .unset, .unset, .unset, .unset, .unset, .unset]) rfl ?_
    show Steps p.tables e below (T40.setTop (mkF m 78 #[.val (.long i0), .second, .val (.long i1), .second, .val (.long i2), .second, .val (.int i3), .val (.long va), .second, .val (.long vb), .second, .val (.long vc), .second, .val (.long vs), .second, .val (.double (own_fold FP.dconst1 [])), .second, .val (.double (own_fold FP.dconst1 [va])), .second, .val (.double (own_fold FP.dconst1 [vb])), .second, .val (.double (own_fold FP.dconst1 [vc])), .second, .unset, .unset, .unset, .unset, .unset, .unset, .unset, .unset, .unset, .unset, .unset] [])) _
    refine XS.iconst X40.here hx rfl (hb hby at_78) ?_
    exact kt
  obtain ⟨T42, h42, k42, X42, e42, E42, A42, st42⟩ := newP X40 hx hZ (hw _ (List.mem_of_getElem? (i := 2) rfl)) eq40 (g := (mkF m 79 #[.val (.long i0), .second, .val (.long i1), .second, .val (.long i2), .second, .val (.int i3), .val (.long va), .second, .val (.long vb), .second, .val (.long vc), .second, .val (.long vs), .second, .val (.double (own_fold FP.dconst1 [])), .second, .val (.double (own_fold FP.dconst1 [va])), .second, .val (.double (own_fold FP.dconst1 [vb])), .second, .val (.double (own_fold FP.dconst1 [vc])), .second, .unset, .unset, .unset, .unset, .unset, .unset, .unset, .unset, .unset, .unset, .unset] [(.int (2 : Int32))])) rfl (hb hby at_79) rfl (by decide) (cap := 2) (by decide) (by decide) (by decide) (by decide)
  obtain ⟨b43, g42⟩ : ∃ z, z = h37.size := ⟨_, rfl⟩
  rw [← g42] at A42 st42
  have g_b43 : n0 ≤ b43 := Nat.le_trans Zs39 (Nat.le_of_eq g42.symm)
  have Zs44 : n0 ≤ h42.size := Nat.le_trans Zs39 E42.1
  have f45 : Arv Z h42 b43 k42 .long (2 : Int32) [(.long (0 : Int64)), (.long (0 : Int64))] (.long (0 : Int64)) := (Arv.new A42 (by decide)).pad (pad_rep [] (.long (0 : Int64)) 2)
  have sg46 : ∀ t, Steps p.tables e below (T42.setTop (mkF m 85 #[.val (.long i0), .second, .val (.long i1), .second, .val (.long i2), .second, .val (.int i3), .val (.long va), .second, .val (.long vb), .second, .val (.long vc), .second, .val (.long vs), .second, .val (.double (own_fold FP.dconst1 [])), .second, .val (.double (own_fold FP.dconst1 [va])), .second, .val (.double (own_fold FP.dconst1 [vb])), .second, .val (.double (own_fold FP.dconst1 [vc])), .second, .unset, .unset, .unset, .unset, .unset, .unset, .unset, .unset, .unset, .unset, .unset] [(.long va), (.int (0 : Int32)), (.ref b43), (.ref b43)])) t → Steps p.tables e below (T42.setTop (mkF m 81 #[.val (.long i0), .second, .val (.long i1), .second, .val (.long i2), .second, .val (.int i3), .val (.long va), .second, .val (.long vb), .second, .val (.long vc), .second, .val (.long vs), .second, .val (.double (own_fold FP.dconst1 [])), .second, .val (.double (own_fold FP.dconst1 [va])), .second, .val (.double (own_fold FP.dconst1 [vb])), .second, .val (.double (own_fold FP.dconst1 [vc])), .second, .unset, .unset, .unset, .unset, .unset, .unset, .unset, .unset, .unset, .unset, .unset] [(.ref b43)])) t := by
    intro t kt
    refine XS.dup X42.here hx rfl (hb hby at_81) rfl rfl ?_
    show Steps p.tables e below (T42.setTop (mkF m 82 #[.val (.long i0), .second, .val (.long i1), .second, .val (.long i2), .second, .val (.int i3), .val (.long va), .second, .val (.long vb), .second, .val (.long vc), .second, .val (.long vs), .second, .val (.double (own_fold FP.dconst1 [])), .second, .val (.double (own_fold FP.dconst1 [va])), .second, .val (.double (own_fold FP.dconst1 [vb])), .second, .val (.double (own_fold FP.dconst1 [vc])), .second, .unset, .unset, .unset, .unset, .unset, .unset, .unset, .unset, .unset, .unset, .unset] [(.ref b43), (.ref b43)])) _
    refine XS.iconst X42.here hx rfl (hb hby at_82) ?_
    show Steps p.tables e below (T42.setTop (mkF m 83 #[.val (.long i0), .second, .val (.long i1), .second, .val (.long i2), .second, .val (.int i3), .val (.long va), .second, .val (.long vb), .second, .val (.long vc), .second, .val (.long vs), .second, .val (.double (own_fold FP.dconst1 [])), .second, .val (.double (own_fold FP.dconst1 [va])), .second, .val (.double (own_fold FP.dconst1 [vb])), .second, .val (.double (own_fold FP.dconst1 [vc])), .second, .unset, .unset, .unset, .unset, .unset, .unset, .unset, .unset, .unset, .unset, .unset] [(.int (0 : Int32)), (.ref b43), (.ref b43)])) _
    refine XS.lload X42.here hx rfl (hb hby at_83) rfl ?_
    exact kt
  obtain ⟨clu47, Aru47, qu47, Su47, Ngu47, Hu47, Gu47⟩ := f45
  have hinu47 : ¬ ((0 : Int32) < 0 ∨ clu47.slots.size ≤ ((0 : Int32)).toNatClampNeg) := inb_of Su47 ⟨by decide, by decide⟩
  obtain ⟨T48, h48, X48, e48, W48, st48⟩ := stJ X42 hx hZ e42 Aru47 (j := (0 : Int32)) hinu47 (g := (mkF m 85 #[.val (.long i0), .second, .val (.long i1), .second, .val (.long i2), .second, .val (.int i3), .val (.long va), .second, .val (.long vb), .second, .val (.long vc), .second, .val (.long vs), .second, .val (.double (own_fold FP.dconst1 [])), .second, .val (.double (own_fold FP.dconst1 [va])), .second, .val (.double (own_fold FP.dconst1 [vb])), .second, .val (.double (own_fold FP.dconst1 [vc])), .second, .unset, .unset, .unset, .unset, .unset, .unset, .unset, .unset, .unset, .unset, .unset] [(.long va), (.int (0 : Int32)), (.ref b43), (.ref b43)])) rfl rfl (hb hby at_85)
  have f49 := Arv.set Aru47 qu47 Su47 Ngu47 Hu47 Gu47 rfl W48 0 rfl (Nat.le_of_ble_eq_true rfl)
  have Zs50 : n0 ≤ h48.size := by rw [W48.size]; exact Zs44
  have N48 := Fr.snoc X48 N40 g_b43
  have sg51 : ∀ t, Steps p.tables e below (T48.setTop (mkF m 90 #[.val (.long i0), .second, .val (.long i1), .second, .val (.long i2), .second, .val (.int i3), .val (.long va), .second, .val (.long vb), .second, .val (.long vc), .second, .val (.long vs), .second, .val (.double (own_fold FP.dconst1 [])), .second, .val (.double (own_fold FP.dconst1 [va])), .second, .val (.double (own_fold FP.dconst1 [vb])), .second, .val (.double (own_fold FP.dconst1 [vc])), .second, .unset, .unset, .unset, .unset, .unset, .unset, .unset, .unset, .unset, .unset, .unset] [(.long vb), (.int (1 : Int32)), (.ref b43), (.ref b43)])) t → Steps p.tables e below (T48.setTop (mkF m 86 #[.val (.long i0), .second, .val (.long i1), .second, .val (.long i2), .second, .val (.int i3), .val (.long va), .second, .val (.long vb), .second, .val (.long vc), .second, .val (.long vs), .second, .val (.double (own_fold FP.dconst1 [])), .second, .val (.double (own_fold FP.dconst1 [va])), .second, .val (.double (own_fold FP.dconst1 [vb])), .second, .val (.double (own_fold FP.dconst1 [vc])), .second, .unset, .unset, .unset, .unset, .unset, .unset, .unset, .unset, .unset, .unset, .unset] [(.ref b43)])) t := by
    intro t kt
    refine XS.dup X48.here hx rfl (hb hby at_86) rfl rfl ?_
    show Steps p.tables e below (T48.setTop (mkF m 87 #[.val (.long i0), .second, .val (.long i1), .second, .val (.long i2), .second, .val (.int i3), .val (.long va), .second, .val (.long vb), .second, .val (.long vc), .second, .val (.long vs), .second, .val (.double (own_fold FP.dconst1 [])), .second, .val (.double (own_fold FP.dconst1 [va])), .second, .val (.double (own_fold FP.dconst1 [vb])), .second, .val (.double (own_fold FP.dconst1 [vc])), .second, .unset, .unset, .unset, .unset, .unset, .unset, .unset, .unset, .unset, .unset, .unset] [(.ref b43), (.ref b43)])) _
    refine XS.iconst X48.here hx rfl (hb hby at_87) ?_
    show Steps p.tables e below (T48.setTop (mkF m 88 #[.val (.long i0), .second, .val (.long i1), .second, .val (.long i2), .second, .val (.int i3), .val (.long va), .second, .val (.long vb), .second, .val (.long vc), .second, .val (.long vs), .second, .val (.double (own_fold FP.dconst1 [])), .second, .val (.double (own_fold FP.dconst1 [va])), .second, .val (.double (own_fold FP.dconst1 [vb])), .second, .val (.double (own_fold FP.dconst1 [vc])), .second, .unset, .unset, .unset, .unset, .unset, .unset, .unset, .unset, .unset, .unset, .unset] [(.int (1 : Int32)), (.ref b43), (.ref b43)])) _
    refine XS.lload X48.here hx rfl (hb hby at_88) rfl ?_
    exact kt
  obtain ⟨clu52, Aru52, qu52, Su52, Ngu52, Hu52, Gu52⟩ := f49
  have hinu52 : ¬ ((1 : Int32) < 0 ∨ clu52.slots.size ≤ ((1 : Int32)).toNatClampNeg) := inb_of Su52 ⟨by decide, by decide⟩
  obtain ⟨T53, h53, X53, e53, W53, st53⟩ := stJ X48 hx hZ e48 Aru52 (j := (1 : Int32)) hinu52 (g := (mkF m 90 #[.val (.long i0), .second, .val (.long i1), .second, .val (.long i2), .second, .val (.int i3), .val (.long va), .second, .val (.long vb), .second, .val (.long vc), .second, .val (.long vs), .second, .val (.double (own_fold FP.dconst1 [])), .second, .val (.double (own_fold FP.dconst1 [va])), .second, .val (.double (own_fold FP.dconst1 [vb])), .second, .val (.double (own_fold FP.dconst1 [vc])), .second, .unset, .unset, .unset, .unset, .unset, .unset, .unset, .unset, .unset, .unset, .unset] [(.long vb), (.int (1 : Int32)), (.ref b43), (.ref b43)])) rfl rfl (hb hby at_90)
  have f54 := Arv.set Aru52 qu52 Su52 Ngu52 Hu52 Gu52 rfl W53 1 rfl (Nat.le_of_ble_eq_true rfl)
  have Zs55 : n0 ≤ h53.size := by rw [W53.size]; exact Zs50
  have N53 := Fr.snoc X53 N48 g_b43
  obtain ⟨_, _, ⟨T56, L56, k56, n56⟩, -, X56, ⟨Lc56, hQ56, l56, y56, z56⟩, st56⟩ := Jvm.LawKit.callS X53 hx (y := (⟨"com/example/wildebeest/wildebeest/inference/Spreads", "work", "([J)D"⟩ : MethodName)) hown (mvT hZ (hw _ (List.mem_of_getElem? (i := 3) rfl))) (mvT hZ (hw _ (List.mem_of_getElem? (i := 4) rfl))) (mvT hZ (hw _ (List.mem_of_getElem? (i := 5) rfl))) (mvT hZ (hw _ (List.mem_of_getElem? (i := 6) rfl))) (by decide) (backOf (W := 0) (rm1 l Z a0 hw [] b43 (2 : Int32) [va, vb] k42 h53 n0 Zs55 (Nat.le_of_ble_eq_true rfl) rfl f54) hZ (hw _ (List.mem_of_getElem? (i := 6) rfl)) (hw _ (List.mem_of_getElem? (i := 5) rfl)) (by decide) (by decide)) (g := (mkF m 91 #[.val (.long i0), .second, .val (.long i1), .second, .val (.long i2), .second, .val (.int i3), .val (.long va), .second, .val (.long vb), .second, .val (.long vc), .second, .val (.long vs), .second, .val (.double (own_fold FP.dconst1 [])), .second, .val (.double (own_fold FP.dconst1 [va])), .second, .val (.double (own_fold FP.dconst1 [vb])), .second, .val (.double (own_fold FP.dconst1 [vc])), .second, .unset, .unset, .unset, .unset, .unset, .unset, .unset, .unset, .unset, .unset, .unset] [(.ref b43)])) rfl (by rw [hml]; rfl) (argsL := [(.ref b43)]) (rest := []) (lenOf pd_0 rfl) rfl (by show 2 * 0 + _ ≤ _; exact Nat.le_of_eq rfl) (hb hby at_91) (fun _ _ => ⟨rfl, e53, (by decide : 5 + 0 ≤ _), (by decide : 5 + 0 ≤ _)⟩)
  dsimp only [Pt.U, Pt.locs, Pt.cells, Pt.slots] at X56 l56 y56 z56 st56 hQ56
  subst l56 y56 z56
  obtain ⟨rfl, Nq56, eq56⟩ := hQ56
  have N56 := Fr.app N53 Nq56
  have sg57 : ∀ t, Steps p.tables e below (T56.setTop (mkF m 97 #[.val (.long i0), .second, .val (.long i1), .second, .val (.long i2), .second, .val (.int i3), .val (.long va), .second, .val (.long vb), .second, .val (.long vc), .second, .val (.long vs), .second, .val (.double (own_fold FP.dconst1 [])), .second, .val (.double (own_fold FP.dconst1 [va])), .second, .val (.double (own_fold FP.dconst1 [vb])), .second, .val (.double (own_fold FP.dconst1 [vc])), .second, .val (.double (own_fold FP.dconst1 [va, vb])), .second, .unset, .unset, .unset, .unset, .unset, .unset, .unset, .unset, .unset] [(.int (2 : Int32))])) t → Steps p.tables e below (T56.setTop (mkF m 94 #[.val (.long i0), .second, .val (.long i1), .second, .val (.long i2), .second, .val (.int i3), .val (.long va), .second, .val (.long vb), .second, .val (.long vc), .second, .val (.long vs), .second, .val (.double (own_fold FP.dconst1 [])), .second, .val (.double (own_fold FP.dconst1 [va])), .second, .val (.double (own_fold FP.dconst1 [vb])), .second, .val (.double (own_fold FP.dconst1 [vc])), .second, .unset, .unset, .unset, .unset, .unset, .unset, .unset, .unset, .unset, .unset, .unset] [(.double (own_fold FP.dconst1 [va, vb]))])) t := by
    intro t kt
    refine XS.dstore X56.here hx rfl (hb hby at_94) rfl (l' := #[.val (.long i0), .second, .val (.long i1), .second, .val (.long i2), .second, .val (.int i3), .val (.long va), .second, .val (.long vb), .second, .val (.long vc), .second, .val (.long vs), .second, .val (.double (own_fold FP.dconst1 [])), .second, .val (.double (own_fold FP.dconst1 [va])), .second, .val (.double (own_fold FP.dconst1 [vb])), .second, .val (.double (own_fold FP.dconst1 [vc])), .second, .val (.double (own_fold FP.dconst1 [va, vb])), .second, .unset, .unset, .unset, .unset, .unset, .unset, .unset, .unset, .unset]) rfl ?_
    show Steps p.tables e below (T56.setTop (mkF m 96 #[.val (.long i0), .second, .val (.long i1), .second, .val (.long i2), .second, .val (.int i3), .val (.long va), .second, .val (.long vb), .second, .val (.long vc), .second, .val (.long vs), .second, .val (.double (own_fold FP.dconst1 [])), .second, .val (.double (own_fold FP.dconst1 [va])), .second, .val (.double (own_fold FP.dconst1 [vb])), .second, .val (.double (own_fold FP.dconst1 [vc])), .second, .val (.double (own_fold FP.dconst1 [va, vb])), .second, .unset, .unset, .unset, .unset, .unset, .unset, .unset, .unset, .unset] [])) _
    refine XS.iconst X56.here hx rfl (hb hby at_96) ?_
    exact kt
  obtain ⟨T58, h58, k58, X58, e58, E58, A58, st58⟩ := newP X56 hx hZ (hw _ (List.mem_of_getElem? (i := 2) rfl)) eq56 (g := (mkF m 97 #[.val (.long i0), .second, .val (.long i1), .second, .val (.long i2), .second, .val (.int i3), .val (.long va), .second, .val (.long vb), .second, .val (.long vc), .second, .val (.long vs), .second, .val (.double (own_fold FP.dconst1 [])), .second, .val (.double (own_fold FP.dconst1 [va])), .second, .val (.double (own_fold FP.dconst1 [vb])), .second, .val (.double (own_fold FP.dconst1 [vc])), .second, .val (.double (own_fold FP.dconst1 [va, vb])), .second, .unset, .unset, .unset, .unset, .unset, .unset, .unset, .unset, .unset] [(.int (2 : Int32))])) rfl (hb hby at_97) rfl (by decide) (cap := 2) (by decide) (by decide) (by decide) (by decide)
  obtain ⟨b59, g58⟩ : ∃ z, z = h53.size := ⟨_, rfl⟩
  rw [← g58] at A58 st58
  have g_b59 : n0 ≤ b59 := Nat.le_trans Zs55 (Nat.le_of_eq g58.symm)
  have Zs60 : n0 ≤ h58.size := Nat.le_trans Zs55 E58.1
  have f61 : Arv Z h58 b59 k58 .long (2 : Int32) [(.long (0 : Int64)), (.long (0 : Int64))] (.long (0 : Int64)) := (Arv.new A58 (by decide)).pad (pad_rep [] (.long (0 : Int64)) 2)
  have sg62 : ∀ t, Steps p.tables e below (T58.setTop (mkF m 103 #[.val (.long i0), .second, .val (.long i1), .second, .val (.long i2), .second, .val (.int i3), .val (.long va), .second, .val (.long vb), .second, .val (.long vc), .second, .val (.long vs), .second, .val (.double (own_fold FP.dconst1 [])), .second, .val (.double (own_fold FP.dconst1 [va])), .second, .val (.double (own_fold FP.dconst1 [vb])), .second, .val (.double (own_fold FP.dconst1 [vc])), .second, .val (.double (own_fold FP.dconst1 [va, vb])), .second, .unset, .unset, .unset, .unset, .unset, .unset, .unset, .unset, .unset] [(.long vb), (.int (0 : Int32)), (.ref b59), (.ref b59)])) t → Steps p.tables e below (T58.setTop (mkF m 99 #[.val (.long i0), .second, .val (.long i1), .second, .val (.long i2), .second, .val (.int i3), .val (.long va), .second, .val (.long vb), .second, .val (.long vc), .second, .val (.long vs), .second, .val (.double (own_fold FP.dconst1 [])), .second, .val (.double (own_fold FP.dconst1 [va])), .second, .val (.double (own_fold FP.dconst1 [vb])), .second, .val (.double (own_fold FP.dconst1 [vc])), .second, .val (.double (own_fold FP.dconst1 [va, vb])), .second, .unset, .unset, .unset, .unset, .unset, .unset, .unset, .unset, .unset] [(.ref b59)])) t := by
    intro t kt
    refine XS.dup X58.here hx rfl (hb hby at_99) rfl rfl ?_
    show Steps p.tables e below (T58.setTop (mkF m 100 #[.val (.long i0), .second, .val (.long i1), .second, .val (.long i2), .second, .val (.int i3), .val (.long va), .second, .val (.long vb), .second, .val (.long vc), .second, .val (.long vs), .second, .val (.double (own_fold FP.dconst1 [])), .second, .val (.double (own_fold FP.dconst1 [va])), .second, .val (.double (own_fold FP.dconst1 [vb])), .second, .val (.double (own_fold FP.dconst1 [vc])), .second, .val (.double (own_fold FP.dconst1 [va, vb])), .second, .unset, .unset, .unset, .unset, .unset, .unset, .unset, .unset, .unset] [(.ref b59), (.ref b59)])) _
    refine XS.iconst X58.here hx rfl (hb hby at_100) ?_
    show Steps p.tables e below (T58.setTop (mkF m 101 #[.val (.long i0), .second, .val (.long i1), .second, .val (.long i2), .second, .val (.int i3), .val (.long va), .second, .val (.long vb), .second, .val (.long vc), .second, .val (.long vs), .second, .val (.double (own_fold FP.dconst1 [])), .second, .val (.double (own_fold FP.dconst1 [va])), .second, .val (.double (own_fold FP.dconst1 [vb])), .second, .val (.double (own_fold FP.dconst1 [vc])), .second, .val (.double (own_fold FP.dconst1 [va, vb])), .second, .unset, .unset, .unset, .unset, .unset, .unset, .unset, .unset, .unset] [(.int (0 : Int32)), (.ref b59), (.ref b59)])) _
    refine XS.lload X58.here hx rfl (hb hby at_101) rfl ?_
    exact kt
  obtain ⟨clu63, Aru63, qu63, Su63, Ngu63, Hu63, Gu63⟩ := f61
  have hinu63 : ¬ ((0 : Int32) < 0 ∨ clu63.slots.size ≤ ((0 : Int32)).toNatClampNeg) := inb_of Su63 ⟨by decide, by decide⟩
  obtain ⟨T64, h64, X64, e64, W64, st64⟩ := stJ X58 hx hZ e58 Aru63 (j := (0 : Int32)) hinu63 (g := (mkF m 103 #[.val (.long i0), .second, .val (.long i1), .second, .val (.long i2), .second, .val (.int i3), .val (.long va), .second, .val (.long vb), .second, .val (.long vc), .second, .val (.long vs), .second, .val (.double (own_fold FP.dconst1 [])), .second, .val (.double (own_fold FP.dconst1 [va])), .second, .val (.double (own_fold FP.dconst1 [vb])), .second, .val (.double (own_fold FP.dconst1 [vc])), .second, .val (.double (own_fold FP.dconst1 [va, vb])), .second, .unset, .unset, .unset, .unset, .unset, .unset, .unset, .unset, .unset] [(.long vb), (.int (0 : Int32)), (.ref b59), (.ref b59)])) rfl rfl (hb hby at_103)
  have f65 := Arv.set Aru63 qu63 Su63 Ngu63 Hu63 Gu63 rfl W64 0 rfl (Nat.le_of_ble_eq_true rfl)
  have Zs66 : n0 ≤ h64.size := by rw [W64.size]; exact Zs60
  have N64 := Fr.snoc X64 N56 g_b59
  have sg67 : ∀ t, Steps p.tables e below (T64.setTop (mkF m 108 #[.val (.long i0), .second, .val (.long i1), .second, .val (.long i2), .second, .val (.int i3), .val (.long va), .second, .val (.long vb), .second, .val (.long vc), .second, .val (.long vs), .second, .val (.double (own_fold FP.dconst1 [])), .second, .val (.double (own_fold FP.dconst1 [va])), .second, .val (.double (own_fold FP.dconst1 [vb])), .second, .val (.double (own_fold FP.dconst1 [vc])), .second, .val (.double (own_fold FP.dconst1 [va, vb])), .second, .unset, .unset, .unset, .unset, .unset, .unset, .unset, .unset, .unset] [(.long va), (.int (1 : Int32)), (.ref b59), (.ref b59)])) t → Steps p.tables e below (T64.setTop (mkF m 104 #[.val (.long i0), .second, .val (.long i1), .second, .val (.long i2), .second, .val (.int i3), .val (.long va), .second, .val (.long vb), .second, .val (.long vc), .second, .val (.long vs), .second, .val (.double (own_fold FP.dconst1 [])), .second, .val (.double (own_fold FP.dconst1 [va])), .second, .val (.double (own_fold FP.dconst1 [vb])), .second, .val (.double (own_fold FP.dconst1 [vc])), .second, .val (.double (own_fold FP.dconst1 [va, vb])), .second, .unset, .unset, .unset, .unset, .unset, .unset, .unset, .unset, .unset] [(.ref b59)])) t := by
    intro t kt
    refine XS.dup X64.here hx rfl (hb hby at_104) rfl rfl ?_
    show Steps p.tables e below (T64.setTop (mkF m 105 #[.val (.long i0), .second, .val (.long i1), .second, .val (.long i2), .second, .val (.int i3), .val (.long va), .second, .val (.long vb), .second, .val (.long vc), .second, .val (.long vs), .second, .val (.double (own_fold FP.dconst1 [])), .second, .val (.double (own_fold FP.dconst1 [va])), .second, .val (.double (own_fold FP.dconst1 [vb])), .second, .val (.double (own_fold FP.dconst1 [vc])), .second, .val (.double (own_fold FP.dconst1 [va, vb])), .second, .unset, .unset, .unset, .unset, .unset, .unset, .unset, .unset, .unset] [(.ref b59), (.ref b59)])) _
    refine XS.iconst X64.here hx rfl (hb hby at_105) ?_
    show Steps p.tables e below (T64.setTop (mkF m 106 #[.val (.long i0), .second, .val (.long i1), .second, .val (.long i2), .second, .val (.int i3), .val (.long va), .second, .val (.long vb), .second, .val (.long vc), .second, .val (.long vs), .second, .val (.double (own_fold FP.dconst1 [])), .second, .val (.double (own_fold FP.dconst1 [va])), .second, .val (.double (own_fold FP.dconst1 [vb])), .second, .val (.double (own_fold FP.dconst1 [vc])), .second, .val (.double (own_fold FP.dconst1 [va, vb])), .second, .unset, .unset, .unset, .unset, .unset, .unset, .unset, .unset, .unset] [(.int (1 : Int32)), (.ref b59), (.ref b59)])) _
    refine XS.lload X64.here hx rfl (hb hby at_106) rfl ?_
    exact kt
  obtain ⟨clu68, Aru68, qu68, Su68, Ngu68, Hu68, Gu68⟩ := f65
  have hinu68 : ¬ ((1 : Int32) < 0 ∨ clu68.slots.size ≤ ((1 : Int32)).toNatClampNeg) := inb_of Su68 ⟨by decide, by decide⟩
  obtain ⟨T69, h69, X69, e69, W69, st69⟩ := stJ X64 hx hZ e64 Aru68 (j := (1 : Int32)) hinu68 (g := (mkF m 108 #[.val (.long i0), .second, .val (.long i1), .second, .val (.long i2), .second, .val (.int i3), .val (.long va), .second, .val (.long vb), .second, .val (.long vc), .second, .val (.long vs), .second, .val (.double (own_fold FP.dconst1 [])), .second, .val (.double (own_fold FP.dconst1 [va])), .second, .val (.double (own_fold FP.dconst1 [vb])), .second, .val (.double (own_fold FP.dconst1 [vc])), .second, .val (.double (own_fold FP.dconst1 [va, vb])), .second, .unset, .unset, .unset, .unset, .unset, .unset, .unset, .unset, .unset] [(.long va), (.int (1 : Int32)), (.ref b59), (.ref b59)])) rfl rfl (hb hby at_108)
  have f70 := Arv.set Aru68 qu68 Su68 Ngu68 Hu68 Gu68 rfl W69 1 rfl (Nat.le_of_ble_eq_true rfl)
  have Zs71 : n0 ≤ h69.size := by rw [W69.size]; exact Zs66
  have N69 := Fr.snoc X69 N64 g_b59
  obtain ⟨_, _, ⟨T72, L72, k72, n72⟩, -, X72, ⟨Lc72, hQ72, l72, y72, z72⟩, st72⟩ := Jvm.LawKit.callS X69 hx (y := (⟨"com/example/wildebeest/wildebeest/inference/Spreads", "work", "([J)D"⟩ : MethodName)) hown (mvT hZ (hw _ (List.mem_of_getElem? (i := 3) rfl))) (mvT hZ (hw _ (List.mem_of_getElem? (i := 4) rfl))) (mvT hZ (hw _ (List.mem_of_getElem? (i := 5) rfl))) (mvT hZ (hw _ (List.mem_of_getElem? (i := 6) rfl))) (by decide) (backOf (W := 0) (rm1 l Z a0 hw [] b59 (2 : Int32) [vb, va] k58 h69 n0 Zs71 (Nat.le_of_ble_eq_true rfl) rfl f70) hZ (hw _ (List.mem_of_getElem? (i := 6) rfl)) (hw _ (List.mem_of_getElem? (i := 5) rfl)) (by decide) (by decide)) (g := (mkF m 109 #[.val (.long i0), .second, .val (.long i1), .second, .val (.long i2), .second, .val (.int i3), .val (.long va), .second, .val (.long vb), .second, .val (.long vc), .second, .val (.long vs), .second, .val (.double (own_fold FP.dconst1 [])), .second, .val (.double (own_fold FP.dconst1 [va])), .second, .val (.double (own_fold FP.dconst1 [vb])), .second, .val (.double (own_fold FP.dconst1 [vc])), .second, .val (.double (own_fold FP.dconst1 [va, vb])), .second, .unset, .unset, .unset, .unset, .unset, .unset, .unset, .unset, .unset] [(.ref b59)])) rfl (by rw [hml]; rfl) (argsL := [(.ref b59)]) (rest := []) (lenOf pd_0 rfl) rfl (by show 2 * 0 + _ ≤ _; exact Nat.le_of_eq rfl) (hb hby at_109) (fun _ _ => ⟨rfl, e69, (by decide : 6 + 0 ≤ _), (by decide : 7 + 0 ≤ _)⟩)
  dsimp only [Pt.U, Pt.locs, Pt.cells, Pt.slots] at X72 l72 y72 z72 st72 hQ72
  subst l72 y72 z72
  obtain ⟨rfl, Nq72, eq72⟩ := hQ72
  have N72 := Fr.app N69 Nq72
  have sg73 : ∀ t, Steps p.tables e below (T72.setTop (mkF m 115 #[.val (.long i0), .second, .val (.long i1), .second, .val (.long i2), .second, .val (.int i3), .val (.long va), .second, .val (.long vb), .second, .val (.long vc), .second, .val (.long vs), .second, .val (.double (own_fold FP.dconst1 [])), .second, .val (.double (own_fold FP.dconst1 [va])), .second, .val (.double (own_fold FP.dconst1 [vb])), .second, .val (.double (own_fold FP.dconst1 [vc])), .second, .val (.double (own_fold FP.dconst1 [va, vb])), .second, .val (.double (own_fold FP.dconst1 [vb, va])), .second, .unset, .unset, .unset, .unset, .unset, .unset, .unset] [(.int (3 : Int32))])) t → Steps p.tables e below (T72.setTop (mkF m 112 #[.val (.long i0), .second, .val (.long i1), .second, .val (.long i2), .second, .val (.int i3), .val (.long va), .second, .val (.long vb), .second, .val (.long vc), .second, .val (.long vs), .second, .val (.double (own_fold FP.dconst1 [])), .second, .val (.double (own_fold FP.dconst1 [va])), .second, .val (.double (own_fold FP.dconst1 [vb])), .second, .val (.double (own_fold FP.dconst1 [vc])), .second, .val (.double (own_fold FP.dconst1 [va, vb])), .second, .unset, .unset, .unset, .unset, .unset, .unset, .unset, .unset, .unset] [(.double (own_fold FP.dconst1 [vb, va]))])) t := by
    intro t kt
    refine XS.dstore X72.here hx rfl (hb hby at_112) rfl (l' := #[.val (.long i0), .second, .val (.long i1), .second, .val (.long i2), .second, .val (.int i3), .val (.long va), .second, .val (.long vb), .second, .val (.long vc), .second, .val (.long vs), .second, .val (.double (own_fold FP.dconst1 [])), .second, .val (.double (own_fold FP.dconst1 [va])), .second, .val (.double (own_fold FP.dconst1 [vb])), .second, .val (.double (own_fold FP.dconst1 [vc])), .second, .val (.double (own_fold FP.dconst1 [va, vb])), .second, .val (.double (own_fold FP.dconst1 [vb, va])), .second, .unset, .unset, .unset, .unset, .unset, .unset, .unset]) rfl ?_
    show Steps p.tables e below (T72.setTop (mkF m 114 #[.val (.long i0), .second, .val (.long i1), .second, .val (.long i2), .second, .val (.int i3), .val (.long va), .second, .val (.long vb), .second, .val (.long vc), .second, .val (.long vs), .second, .val (.double (own_fold FP.dconst1 [])), .second, .val (.double (own_fold FP.dconst1 [va])), .second, .val (.double (own_fold FP.dconst1 [vb])), .second, .val (.double (own_fold FP.dconst1 [vc])), .second, .val (.double (own_fold FP.dconst1 [va, vb])), .second, .val (.double (own_fold FP.dconst1 [vb, va])), .second, .unset, .unset, .unset, .unset, .unset, .unset, .unset] [])) _
    refine XS.iconst X72.here hx rfl (hb hby at_114) ?_
    exact kt
  obtain ⟨T74, h74, k74, X74, e74, E74, A74, st74⟩ := newP X72 hx hZ (hw _ (List.mem_of_getElem? (i := 2) rfl)) eq72 (g := (mkF m 115 #[.val (.long i0), .second, .val (.long i1), .second, .val (.long i2), .second, .val (.int i3), .val (.long va), .second, .val (.long vb), .second, .val (.long vc), .second, .val (.long vs), .second, .val (.double (own_fold FP.dconst1 [])), .second, .val (.double (own_fold FP.dconst1 [va])), .second, .val (.double (own_fold FP.dconst1 [vb])), .second, .val (.double (own_fold FP.dconst1 [vc])), .second, .val (.double (own_fold FP.dconst1 [va, vb])), .second, .val (.double (own_fold FP.dconst1 [vb, va])), .second, .unset, .unset, .unset, .unset, .unset, .unset, .unset] [(.int (3 : Int32))])) rfl (hb hby at_115) rfl (by decide) (cap := 3) (by decide) (by decide) (by decide) (by decide)
  obtain ⟨b75, g74⟩ : ∃ z, z = h69.size := ⟨_, rfl⟩
  rw [← g74] at A74 st74
  have g_b75 : n0 ≤ b75 := Nat.le_trans Zs71 (Nat.le_of_eq g74.symm)
  have Zs76 : n0 ≤ h74.size := Nat.le_trans Zs71 E74.1
  have f77 : Arv Z h74 b75 k74 .long (3 : Int32) [(.long (0 : Int64)), (.long (0 : Int64)), (.long (0 : Int64))] (.long (0 : Int64)) := (Arv.new A74 (by decide)).pad (pad_rep [] (.long (0 : Int64)) 3)
  have sg78 : ∀ t, Steps p.tables e below (T74.setTop (mkF m 121 #[.val (.long i0), .second, .val (.long i1), .second, .val (.long i2), .second, .val (.int i3), .val (.long va), .second, .val (.long vb), .second, .val (.long vc), .second, .val (.long vs), .second, .val (.double (own_fold FP.dconst1 [])), .second, .val (.double (own_fold FP.dconst1 [va])), .second, .val (.double (own_fold FP.dconst1 [vb])), .second, .val (.double (own_fold FP.dconst1 [vc])), .second, .val (.double (own_fold FP.dconst1 [va, vb])), .second, .val (.double (own_fold FP.dconst1 [vb, va])), .second, .unset, .unset, .unset, .unset, .unset, .unset, .unset] [(.long va), (.int (0 : Int32)), (.ref b75), (.ref b75)])) t → Steps p.tables e below (T74.setTop (mkF m 117 #[.val (.long i0), .second, .val (.long i1), .second, .val (.long i2), .second, .val (.int i3), .val (.long va), .second, .val (.long vb), .second, .val (.long vc), .second, .val (.long vs), .second, .val (.double (own_fold FP.dconst1 [])), .second, .val (.double (own_fold FP.dconst1 [va])), .second, .val (.double (own_fold FP.dconst1 [vb])), .second, .val (.double (own_fold FP.dconst1 [vc])), .second, .val (.double (own_fold FP.dconst1 [va, vb])), .second, .val (.double (own_fold FP.dconst1 [vb, va])), .second, .unset, .unset, .unset, .unset, .unset, .unset, .unset] [(.ref b75)])) t := by
    intro t kt
    refine XS.dup X74.here hx rfl (hb hby at_117) rfl rfl ?_
    show Steps p.tables e below (T74.setTop (mkF m 118 #[.val (.long i0), .second, .val (.long i1), .second, .val (.long i2), .second, .val (.int i3), .val (.long va), .second, .val (.long vb), .second, .val (.long vc), .second, .val (.long vs), .second, .val (.double (own_fold FP.dconst1 [])), .second, .val (.double (own_fold FP.dconst1 [va])), .second, .val (.double (own_fold FP.dconst1 [vb])), .second, .val (.double (own_fold FP.dconst1 [vc])), .second, .val (.double (own_fold FP.dconst1 [va, vb])), .second, .val (.double (own_fold FP.dconst1 [vb, va])), .second, .unset, .unset, .unset, .unset, .unset, .unset, .unset] [(.ref b75), (.ref b75)])) _
    refine XS.iconst X74.here hx rfl (hb hby at_118) ?_
    show Steps p.tables e below (T74.setTop (mkF m 119 #[.val (.long i0), .second, .val (.long i1), .second, .val (.long i2), .second, .val (.int i3), .val (.long va), .second, .val (.long vb), .second, .val (.long vc), .second, .val (.long vs), .second, .val (.double (own_fold FP.dconst1 [])), .second, .val (.double (own_fold FP.dconst1 [va])), .second, .val (.double (own_fold FP.dconst1 [vb])), .second, .val (.double (own_fold FP.dconst1 [vc])), .second, .val (.double (own_fold FP.dconst1 [va, vb])), .second, .val (.double (own_fold FP.dconst1 [vb, va])), .second, .unset, .unset, .unset, .unset, .unset, .unset, .unset] [(.int (0 : Int32)), (.ref b75), (.ref b75)])) _
    refine XS.lload X74.here hx rfl (hb hby at_119) rfl ?_
    exact kt
  obtain ⟨clu79, Aru79, qu79, Su79, Ngu79, Hu79, Gu79⟩ := f77
  have hinu79 : ¬ ((0 : Int32) < 0 ∨ clu79.slots.size ≤ ((0 : Int32)).toNatClampNeg) := inb_of Su79 ⟨by decide, by decide⟩
  obtain ⟨T80, h80, X80, e80, W80, st80⟩ := stJ X74 hx hZ e74 Aru79 (j := (0 : Int32)) hinu79 (g := (mkF m 121 #[.val (.long i0), .second, .val (.long i1), .second, .val (.long i2), .second, .val (.int i3), .val (.long va), .second, .val (.long vb), .second, .val (.long vc), .second, .val (.long vs), .second, .val (.double (own_fold FP.dconst1 [])), .second, .val (.double (own_fold FP.dconst1 [va])), .second, .val (.double (own_fold FP.dconst1 [vb])), .second, .val (.double (own_fold FP.dconst1 [vc])), .second, .val (.double (own_fold FP.dconst1 [va, vb])), .second, .val (.double (own_fold FP.dconst1 [vb, va])), .second, .unset, .unset, .unset, .unset, .unset, .unset, .unset] [(.long va), (.int (0 : Int32)), (.ref b75), (.ref b75)])) rfl rfl (hb hby at_121)
  have f81 := Arv.set Aru79 qu79 Su79 Ngu79 Hu79 Gu79 rfl W80 0 rfl (Nat.le_of_ble_eq_true rfl)
  have Zs82 : n0 ≤ h80.size := by rw [W80.size]; exact Zs76
  have N80 := Fr.snoc X80 N72 g_b75
  have sg83 : ∀ t, Steps p.tables e below (T80.setTop (mkF m 126 #[.val (.long i0), .second, .val (.long i1), .second, .val (.long i2), .second, .val (.int i3), .val (.long va), .second, .val (.long vb), .second, .val (.long vc), .second, .val (.long vs), .second, .val (.double (own_fold FP.dconst1 [])), .second, .val (.double (own_fold FP.dconst1 [va])), .second, .val (.double (own_fold FP.dconst1 [vb])), .second, .val (.double (own_fold FP.dconst1 [vc])), .second, .val (.double (own_fold FP.dconst1 [va, vb])), .second, .val (.double (own_fold FP.dconst1 [vb, va])), .second, .unset, .unset, .unset, .unset, .unset, .unset, .unset] [(.long vb), (.int (1 : Int32)), (.ref b75), (.ref b75)])) t → Steps p.tables e below (T80.setTop (mkF m 122 #[.val (.long i0), .second, .val (.long i1), .second, .val (.long i2), .second, .val (.int i3), .val (.long va), .second, .val (.long vb), .second, .val (.long vc), .second, .val (.long vs), .second, .val (.double (own_fold FP.dconst1 [])), .second, .val (.double (own_fold FP.dconst1 [va])), .second, .val (.double (own_fold FP.dconst1 [vb])), .second, .val (.double (own_fold FP.dconst1 [vc])), .second, .val (.double (own_fold FP.dconst1 [va, vb])), .second, .val (.double (own_fold FP.dconst1 [vb, va])), .second, .unset, .unset, .unset, .unset, .unset, .unset, .unset] [(.ref b75)])) t := by
    intro t kt
    refine XS.dup X80.here hx rfl (hb hby at_122) rfl rfl ?_
    show Steps p.tables e below (T80.setTop (mkF m 123 #[.val (.long i0), .second, .val (.long i1), .second, .val (.long i2), .second, .val (.int i3), .val (.long va), .second, .val (.long vb), .second, .val (.long vc), .second, .val (.long vs), .second, .val (.double (own_fold FP.dconst1 [])), .second, .val (.double (own_fold FP.dconst1 [va])), .second, .val (.double (own_fold FP.dconst1 [vb])), .second, .val (.double (own_fold FP.dconst1 [vc])), .second, .val (.double (own_fold FP.dconst1 [va, vb])), .second, .val (.double (own_fold FP.dconst1 [vb, va])), .second, .unset, .unset, .unset, .unset, .unset, .unset, .unset] [(.ref b75), (.ref b75)])) _
    refine XS.iconst X80.here hx rfl (hb hby at_123) ?_
    show Steps p.tables e below (T80.setTop (mkF m 124 #[.val (.long i0), .second, .val (.long i1), .second, .val (.long i2), .second, .val (.int i3), .val (.long va), .second, .val (.long vb), .second, .val (.long vc), .second, .val (.long vs), .second, .val (.double (own_fold FP.dconst1 [])), .second, .val (.double (own_fold FP.dconst1 [va])), .second, .val (.double (own_fold FP.dconst1 [vb])), .second, .val (.double (own_fold FP.dconst1 [vc])), .second, .val (.double (own_fold FP.dconst1 [va, vb])), .second, .val (.double (own_fold FP.dconst1 [vb, va])), .second, .unset, .unset, .unset, .unset, .unset, .unset, .unset] [(.int (1 : Int32)), (.ref b75), (.ref b75)])) _
    refine XS.lload X80.here hx rfl (hb hby at_124) rfl ?_
    exact kt
  obtain ⟨clu84, Aru84, qu84, Su84, Ngu84, Hu84, Gu84⟩ := f81
  have hinu84 : ¬ ((1 : Int32) < 0 ∨ clu84.slots.size ≤ ((1 : Int32)).toNatClampNeg) := inb_of Su84 ⟨by decide, by decide⟩
  obtain ⟨T85, h85, X85, e85, W85, st85⟩ := stJ X80 hx hZ e80 Aru84 (j := (1 : Int32)) hinu84 (g := (mkF m 126 #[.val (.long i0), .second, .val (.long i1), .second, .val (.long i2), .second, .val (.int i3), .val (.long va), .second, .val (.long vb), .second, .val (.long vc), .second, .val (.long vs), .second, .val (.double (own_fold FP.dconst1 [])), .second, .val (.double (own_fold FP.dconst1 [va])), .second, .val (.double (own_fold FP.dconst1 [vb])), .second, .val (.double (own_fold FP.dconst1 [vc])), .second, .val (.double (own_fold FP.dconst1 [va, vb])), .second, .val (.double (own_fold FP.dconst1 [vb, va])), .second, .unset, .unset, .unset, .unset, .unset, .unset, .unset] [(.long vb), (.int (1 : Int32)), (.ref b75), (.ref b75)])) rfl rfl (hb hby at_126)
  have f86 := Arv.set Aru84 qu84 Su84 Ngu84 Hu84 Gu84 rfl W85 1 rfl (Nat.le_of_ble_eq_true rfl)
  have Zs87 : n0 ≤ h85.size := by rw [W85.size]; exact Zs82
  have N85 := Fr.snoc X85 N80 g_b75
  have sg88 : ∀ t, Steps p.tables e below (T85.setTop (mkF m 131 #[.val (.long i0), .second, .val (.long i1), .second, .val (.long i2), .second, .val (.int i3), .val (.long va), .second, .val (.long vb), .second, .val (.long vc), .second, .val (.long vs), .second, .val (.double (own_fold FP.dconst1 [])), .second, .val (.double (own_fold FP.dconst1 [va])), .second, .val (.double (own_fold FP.dconst1 [vb])), .second, .val (.double (own_fold FP.dconst1 [vc])), .second, .val (.double (own_fold FP.dconst1 [va, vb])), .second, .val (.double (own_fold FP.dconst1 [vb, va])), .second, .unset, .unset, .unset, .unset, .unset, .unset, .unset] [(.long vc), (.int (2 : Int32)), (.ref b75), (.ref b75)])) t → Steps p.tables e below (T85.setTop (mkF m 127 #[.val (.long i0), .second, .val (.long i1), .second, .val (.long i2), .second, .val (.int i3), .val (.long va), .second, .val (.long vb), .second, .val (.long vc), .second, .val (.long vs), .second, .val (.double (own_fold FP.dconst1 [])), .second, .val (.double (own_fold FP.dconst1 [va])), .second, .val (.double (own_fold FP.dconst1 [vb])), .second, .val (.double (own_fold FP.dconst1 [vc])), .second, .val (.double (own_fold FP.dconst1 [va, vb])), .second, .val (.double (own_fold FP.dconst1 [vb, va])), .second, .unset, .unset, .unset, .unset, .unset, .unset, .unset] [(.ref b75)])) t := by
    intro t kt
    refine XS.dup X85.here hx rfl (hb hby at_127) rfl rfl ?_
    show Steps p.tables e below (T85.setTop (mkF m 128 #[.val (.long i0), .second, .val (.long i1), .second, .val (.long i2), .second, .val (.int i3), .val (.long va), .second, .val (.long vb), .second, .val (.long vc), .second, .val (.long vs), .second, .val (.double (own_fold FP.dconst1 [])), .second, .val (.double (own_fold FP.dconst1 [va])), .second, .val (.double (own_fold FP.dconst1 [vb])), .second, .val (.double (own_fold FP.dconst1 [vc])), .second, .val (.double (own_fold FP.dconst1 [va, vb])), .second, .val (.double (own_fold FP.dconst1 [vb, va])), .second, .unset, .unset, .unset, .unset, .unset, .unset, .unset] [(.ref b75), (.ref b75)])) _
    refine XS.iconst X85.here hx rfl (hb hby at_128) ?_
    show Steps p.tables e below (T85.setTop (mkF m 129 #[.val (.long i0), .second, .val (.long i1), .second, .val (.long i2), .second, .val (.int i3), .val (.long va), .second, .val (.long vb), .second, .val (.long vc), .second, .val (.long vs), .second, .val (.double (own_fold FP.dconst1 [])), .second, .val (.double (own_fold FP.dconst1 [va])), .second, .val (.double (own_fold FP.dconst1 [vb])), .second, .val (.double (own_fold FP.dconst1 [vc])), .second, .val (.double (own_fold FP.dconst1 [va, vb])), .second, .val (.double (own_fold FP.dconst1 [vb, va])), .second, .unset, .unset, .unset, .unset, .unset, .unset, .unset] [(.int (2 : Int32)), (.ref b75), (.ref b75)])) _
    refine XS.lload X85.here hx rfl (hb hby at_129) rfl ?_
    exact kt
  obtain ⟨clu89, Aru89, qu89, Su89, Ngu89, Hu89, Gu89⟩ := f86
  have hinu89 : ¬ ((2 : Int32) < 0 ∨ clu89.slots.size ≤ ((2 : Int32)).toNatClampNeg) := inb_of Su89 ⟨by decide, by decide⟩
  obtain ⟨T90, h90, X90, e90, W90, st90⟩ := stJ X85 hx hZ e85 Aru89 (j := (2 : Int32)) hinu89 (g := (mkF m 131 #[.val (.long i0), .second, .val (.long i1), .second, .val (.long i2), .second, .val (.int i3), .val (.long va), .second, .val (.long vb), .second, .val (.long vc), .second, .val (.long vs), .second, .val (.double (own_fold FP.dconst1 [])), .second, .val (.double (own_fold FP.dconst1 [va])), .second, .val (.double (own_fold FP.dconst1 [vb])), .second, .val (.double (own_fold FP.dconst1 [vc])), .second, .val (.double (own_fold FP.dconst1 [va, vb])), .second, .val (.double (own_fold FP.dconst1 [vb, va])), .second, .unset, .unset, .unset, .unset, .unset, .unset, .unset] [(.long vc), (.int (2 : Int32)), (.ref b75), (.ref b75)])) rfl rfl (hb hby at_131)
  have f91 := Arv.set Aru89 qu89 Su89 Ngu89 Hu89 Gu89 rfl W90 2 rfl (Nat.le_of_ble_eq_true rfl)
  have Zs92 : n0 ≤ h90.size := by rw [W90.size]; exact Zs87
  have N90 := Fr.snoc X90 N85 g_b75
  obtain ⟨_, _, ⟨T93, L93, k93, n93⟩, -, X93, ⟨Lc93, hQ93, l93, y93, z93⟩, st93⟩ := Jvm.LawKit.callS X90 hx (y := (⟨"com/example/wildebeest/wildebeest/inference/Spreads", "work", "([J)D"⟩ : MethodName)) hown (mvT hZ (hw _ (List.mem_of_getElem? (i := 3) rfl))) (mvT hZ (hw _ (List.mem_of_getElem? (i := 4) rfl))) (mvT hZ (hw _ (List.mem_of_getElem? (i := 5) rfl))) (mvT hZ (hw _ (List.mem_of_getElem? (i := 6) rfl))) (by decide) (backOf (W := 0) (rm1 l Z a0 hw [] b75 (3 : Int32) [va, vb, vc] k74 h90 n0 Zs92 (Nat.le_of_ble_eq_true rfl) rfl f91) hZ (hw _ (List.mem_of_getElem? (i := 6) rfl)) (hw _ (List.mem_of_getElem? (i := 5) rfl)) (by decide) (by decide)) (g := (mkF m 132 #[.val (.long i0), .second, .val (.long i1), .second, .val (.long i2), .second, .val (.int i3), .val (.long va), .second, .val (.long vb), .second, .val (.long vc), .second, .val (.long vs), .second, .val (.double (own_fold FP.dconst1 [])), .second, .val (.double (own_fold FP.dconst1 [va])), .second, .val (.double (own_fold FP.dconst1 [vb])), .second, .val (.double (own_fold FP.dconst1 [vc])), .second, .val (.double (own_fold FP.dconst1 [va, vb])), .second, .val (.double (own_fold FP.dconst1 [vb, va])), .second, .unset, .unset, .unset, .unset, .unset, .unset, .unset] [(.ref b75)])) rfl (by rw [hml]; rfl) (argsL := [(.ref b75)]) (rest := []) (lenOf pd_0 rfl) rfl (by show 2 * 0 + _ ≤ _; exact Nat.le_of_eq rfl) (hb hby at_132) (fun _ _ => ⟨rfl, e90, (by decide : 7 + 0 ≤ _), (by decide : 10 + 0 ≤ _)⟩)
  dsimp only [Pt.U, Pt.locs, Pt.cells, Pt.slots] at X93 l93 y93 z93 st93 hQ93
  subst l93 y93 z93
  obtain ⟨rfl, Nq93, eq93⟩ := hQ93
  have N93 := Fr.app N90 Nq93
  have sg94 : ∀ t, Steps p.tables e below (T93.setTop (mkF m 138 #[.val (.long i0), .second, .val (.long i1), .second, .val (.long i2), .second, .val (.int i3), .val (.long va), .second, .val (.long vb), .second, .val (.long vc), .second, .val (.long vs), .second, .val (.double (own_fold FP.dconst1 [])), .second, .val (.double (own_fold FP.dconst1 [va])), .second, .val (.double (own_fold FP.dconst1 [vb])), .second, .val (.double (own_fold FP.dconst1 [vc])), .second, .val (.double (own_fold FP.dconst1 [va, vb])), .second, .val (.double (own_fold FP.dconst1 [vb, va])), .second, .val (.double (own_fold FP.dconst1 [va, vb, vc])), .second, .unset, .unset, .unset, .unset, .unset] [(.int (1 : Int32))])) t → Steps p.tables e below (T93.setTop (mkF m 135 #[.val (.long i0), .second, .val (.long i1), .second, .val (.long i2), .second, .val (.int i3), .val (.long va), .second, .val (.long vb), .second, .val (.long vc), .second, .val (.long vs), .second, .val (.double (own_fold FP.dconst1 [])), .second, .val (.double (own_fold FP.dconst1 [va])), .second, .val (.double (own_fold FP.dconst1 [vb])), .second, .val (.double (own_fold FP.dconst1 [vc])), .second, .val (.double (own_fold FP.dconst1 [va, vb])), .second, .val (.double (own_fold FP.dconst1 [vb, va])), .second, .unset, .unset, .unset, .unset, .unset, .unset, .unset] [(.double (own_fold FP.dconst1 [va, vb, vc]))])) t := by
    intro t kt
    refine XS.dstore X93.here hx rfl (hb hby at_135) rfl (l' := #[.val (.long i0), .second, .val (.long i1), .second, .val (.long i2), .second, .val (.int i3), .val (.long va), .second, .val (.long vb), .second, .val (.long vc), .second, .val (.long vs), .second, .val (.double (own_fold FP.dconst1 [])), .second, .val (.double (own_fold FP.dconst1 [va])), .second, .val (.double (own_fold FP.dconst1 [vb])), .second, .val (.double (own_fold FP.dconst1 [vc])), .second, .val (.double (own_fold FP.dconst1 [va, vb])), .second, .val (.double (own_fold FP.dconst1 [vb, va])), .second, .val (.double (own_fold FP.dconst1 [va, vb, vc])), .second, .unset, .unset, .unset, .unset, .unset]) rfl ?_
    show Steps p.tables e below (T93.setTop (mkF m 137 #[.val (.long i0), .second, .val (.long i1), .second, .val (.long i2), .second, .val (.int i3), .val (.long va), .second, .val (.long vb), .second, .val (.long vc), .second, .val (.long vs), .second, .val (.double (own_fold FP.dconst1 [])), .second, .val (.double (own_fold FP.dconst1 [va])), .second, .val (.double (own_fold FP.dconst1 [vb])), .second, .val (.double (own_fold FP.dconst1 [vc])), .second, .val (.double (own_fold FP.dconst1 [va, vb])), .second, .val (.double (own_fold FP.dconst1 [vb, va])), .second, .val (.double (own_fold FP.dconst1 [va, vb, vc])), .second, .unset, .unset, .unset, .unset, .unset] [])) _
    refine XS.iconst X93.here hx rfl (hb hby at_137) ?_
    exact kt
  obtain ⟨T95, h95, k95, X95, e95, E95, A95, st95⟩ := newP X93 hx hZ (hw _ (List.mem_of_getElem? (i := 2) rfl)) eq93 (g := (mkF m 138 #[.val (.long i0), .second, .val (.long i1), .second, .val (.long i2), .second, .val (.int i3), .val (.long va), .second, .val (.long vb), .second, .val (.long vc), .second, .val (.long vs), .second, .val (.double (own_fold FP.dconst1 [])), .second, .val (.double (own_fold FP.dconst1 [va])), .second, .val (.double (own_fold FP.dconst1 [vb])), .second, .val (.double (own_fold FP.dconst1 [vc])), .second, .val (.double (own_fold FP.dconst1 [va, vb])), .second, .val (.double (own_fold FP.dconst1 [vb, va])), .second, .val (.double (own_fold FP.dconst1 [va, vb, vc])), .second, .unset, .unset, .unset, .unset, .unset] [(.int (1 : Int32))])) rfl (hb hby at_138) rfl (by decide) (cap := 1) (by decide) (by decide) (by decide) (by decide)
  obtain ⟨b96, g95⟩ : ∃ z, z = h90.size := ⟨_, rfl⟩
  rw [← g95] at A95 st95
  have g_b96 : n0 ≤ b96 := Nat.le_trans Zs92 (Nat.le_of_eq g95.symm)
  have Zs97 : n0 ≤ h95.size := Nat.le_trans Zs92 E95.1
  have f98 : Arv Z h95 b96 k95 .long (1 : Int32) [(.long (0 : Int64))] (.long (0 : Int64)) := (Arv.new A95 (by decide)).pad (pad_rep [] (.long (0 : Int64)) 1)
  have sg99 : ∀ t, Steps p.tables e below (T95.setTop (mkF m 144 #[.val (.long i0), .second, .val (.long i1), .second, .val (.long i2), .second, .val (.int i3), .val (.long va), .second, .val (.long vb), .second, .val (.long vc), .second, .val (.long vs), .second, .val (.double (own_fold FP.dconst1 [])), .second, .val (.double (own_fold FP.dconst1 [va])), .second, .val (.double (own_fold FP.dconst1 [vb])), .second, .val (.double (own_fold FP.dconst1 [vc])), .second, .val (.double (own_fold FP.dconst1 [va, vb])), .second, .val (.double (own_fold FP.dconst1 [vb, va])), .second, .val (.double (own_fold FP.dconst1 [va, vb, vc])), .second, .unset, .unset, .unset, .unset, .unset] [(.long vs), (.int (0 : Int32)), (.ref b96), (.ref b96)])) t → Steps p.tables e below (T95.setTop (mkF m 140 #[.val (.long i0), .second, .val (.long i1), .second, .val (.long i2), .second, .val (.int i3), .val (.long va), .second, .val (.long vb), .second, .val (.long vc), .second, .val (.long vs), .second, .val (.double (own_fold FP.dconst1 [])), .second, .val (.double (own_fold FP.dconst1 [va])), .second, .val (.double (own_fold FP.dconst1 [vb])), .second, .val (.double (own_fold FP.dconst1 [vc])), .second, .val (.double (own_fold FP.dconst1 [va, vb])), .second, .val (.double (own_fold FP.dconst1 [vb, va])), .second, .val (.double (own_fold FP.dconst1 [va, vb, vc])), .second, .unset, .unset, .unset, .unset, .unset] [(.ref b96)])) t := by
    intro t kt
    refine XS.dup X95.here hx rfl (hb hby at_140) rfl rfl ?_
    show Steps p.tables e below (T95.setTop (mkF m 141 #[.val (.long i0), .second, .val (.long i1), .second, .val (.long i2), .second, .val (.int i3), .val (.long va), .second, .val (.long vb), .second, .val (.long vc), .second, .val (.long vs), .second, .val (.double (own_fold FP.dconst1 [])), .second, .val (.double (own_fold FP.dconst1 [va])), .second, .val (.double (own_fold FP.dconst1 [vb])), .second, .val (.double (own_fold FP.dconst1 [vc])), .second, .val (.double (own_fold FP.dconst1 [va, vb])), .second, .val (.double (own_fold FP.dconst1 [vb, va])), .second, .val (.double (own_fold FP.dconst1 [va, vb, vc])), .second, .unset, .unset, .unset, .unset, .unset] [(.ref b96), (.ref b96)])) _
    refine XS.iconst X95.here hx rfl (hb hby at_141) ?_
    show Steps p.tables e below (T95.setTop (mkF m 142 #[.val (.long i0), .second, .val (.long i1), .second, .val (.long i2), .second, .val (.int i3), .val (.long va), .second, .val (.long vb), .second, .val (.long vc), .second, .val (.long vs), .second, .val (.double (own_fold FP.dconst1 [])), .second, .val (.double (own_fold FP.dconst1 [va])), .second, .val (.double (own_fold FP.dconst1 [vb])), .second, .val (.double (own_fold FP.dconst1 [vc])), .second, .val (.double (own_fold FP.dconst1 [va, vb])), .second, .val (.double (own_fold FP.dconst1 [vb, va])), .second, .val (.double (own_fold FP.dconst1 [va, vb, vc])), .second, .unset, .unset, .unset, .unset, .unset] [(.int (0 : Int32)), (.ref b96), (.ref b96)])) _
    refine XS.lload X95.here hx rfl (hb hby at_142) rfl ?_
    exact kt
  obtain ⟨clu100, Aru100, qu100, Su100, Ngu100, Hu100, Gu100⟩ := f98
  have hinu100 : ¬ ((0 : Int32) < 0 ∨ clu100.slots.size ≤ ((0 : Int32)).toNatClampNeg) := inb_of Su100 ⟨by decide, by decide⟩
  obtain ⟨T101, h101, X101, e101, W101, st101⟩ := stJ X95 hx hZ e95 Aru100 (j := (0 : Int32)) hinu100 (g := (mkF m 144 #[.val (.long i0), .second, .val (.long i1), .second, .val (.long i2), .second, .val (.int i3), .val (.long va), .second, .val (.long vb), .second, .val (.long vc), .second, .val (.long vs), .second, .val (.double (own_fold FP.dconst1 [])), .second, .val (.double (own_fold FP.dconst1 [va])), .second, .val (.double (own_fold FP.dconst1 [vb])), .second, .val (.double (own_fold FP.dconst1 [vc])), .second, .val (.double (own_fold FP.dconst1 [va, vb])), .second, .val (.double (own_fold FP.dconst1 [vb, va])), .second, .val (.double (own_fold FP.dconst1 [va, vb, vc])), .second, .unset, .unset, .unset, .unset, .unset] [(.long vs), (.int (0 : Int32)), (.ref b96), (.ref b96)])) rfl rfl (hb hby at_144)
  have f102 := Arv.set Aru100 qu100 Su100 Ngu100 Hu100 Gu100 rfl W101 0 rfl (Nat.le_of_ble_eq_true rfl)
  have Zs103 : n0 ≤ h101.size := by rw [W101.size]; exact Zs97
  have N101 := Fr.snoc X101 N93 g_b96
  obtain ⟨_, _, ⟨T104, L104, k104, n104⟩, -, X104, ⟨Lc104, hQ104, l104, y104, z104⟩, st104⟩ := Jvm.LawKit.callS X101 hx (y := (⟨"com/example/wildebeest/wildebeest/inference/Spreads", "work", "([J)D"⟩ : MethodName)) hown (mvT hZ (hw _ (List.mem_of_getElem? (i := 3) rfl))) (mvT hZ (hw _ (List.mem_of_getElem? (i := 4) rfl))) (mvT hZ (hw _ (List.mem_of_getElem? (i := 5) rfl))) (mvT hZ (hw _ (List.mem_of_getElem? (i := 6) rfl))) (by decide) (backOf (W := 0) (rm1 l Z a0 hw [] b96 (1 : Int32) [vs] k95 h101 n0 Zs103 (Nat.le_of_ble_eq_true rfl) rfl f102) hZ (hw _ (List.mem_of_getElem? (i := 6) rfl)) (hw _ (List.mem_of_getElem? (i := 5) rfl)) (by decide) (by decide)) (g := (mkF m 145 #[.val (.long i0), .second, .val (.long i1), .second, .val (.long i2), .second, .val (.int i3), .val (.long va), .second, .val (.long vb), .second, .val (.long vc), .second, .val (.long vs), .second, .val (.double (own_fold FP.dconst1 [])), .second, .val (.double (own_fold FP.dconst1 [va])), .second, .val (.double (own_fold FP.dconst1 [vb])), .second, .val (.double (own_fold FP.dconst1 [vc])), .second, .val (.double (own_fold FP.dconst1 [va, vb])), .second, .val (.double (own_fold FP.dconst1 [vb, va])), .second, .val (.double (own_fold FP.dconst1 [va, vb, vc])), .second, .unset, .unset, .unset, .unset, .unset] [(.ref b96)])) rfl (by rw [hml]; rfl) (argsL := [(.ref b96)]) (rest := []) (lenOf pd_0 rfl) rfl (by show 2 * 0 + _ ≤ _; exact Nat.le_of_eq rfl) (hb hby at_145) (fun _ _ => ⟨rfl, e101, (by decide : 8 + 0 ≤ _), (by decide : 11 + 0 ≤ _)⟩)
  dsimp only [Pt.U, Pt.locs, Pt.cells, Pt.slots] at X104 l104 y104 z104 st104 hQ104
  subst l104 y104 z104
  obtain ⟨rfl, Nq104, eq104⟩ := hQ104
  have N104 := Fr.app N101 Nq104
  have sg105 : ∀ t, Steps p.tables e below (T104.setTop (mkF m 150 #[.val (.long i0), .second, .val (.long i1), .second, .val (.long i2), .second, .val (.int i3), .val (.long va), .second, .val (.long vb), .second, .val (.long vc), .second, .val (.long vs), .second, .val (.double (own_fold FP.dconst1 [])), .second, .val (.double (own_fold FP.dconst1 [va])), .second, .val (.double (own_fold FP.dconst1 [vb])), .second, .val (.double (own_fold FP.dconst1 [vc])), .second, .val (.double (own_fold FP.dconst1 [va, vb])), .second, .val (.double (own_fold FP.dconst1 [vb, va])), .second, .val (.double (own_fold FP.dconst1 [va, vb, vc])), .second, .val (.double (own_fold FP.dconst1 [vs])), .second, .unset, .unset, .unset] [])) t → Steps p.tables e below (T104.setTop (mkF m 148 #[.val (.long i0), .second, .val (.long i1), .second, .val (.long i2), .second, .val (.int i3), .val (.long va), .second, .val (.long vb), .second, .val (.long vc), .second, .val (.long vs), .second, .val (.double (own_fold FP.dconst1 [])), .second, .val (.double (own_fold FP.dconst1 [va])), .second, .val (.double (own_fold FP.dconst1 [vb])), .second, .val (.double (own_fold FP.dconst1 [vc])), .second, .val (.double (own_fold FP.dconst1 [va, vb])), .second, .val (.double (own_fold FP.dconst1 [vb, va])), .second, .val (.double (own_fold FP.dconst1 [va, vb, vc])), .second, .unset, .unset, .unset, .unset, .unset] [(.double (own_fold FP.dconst1 [vs]))])) t := by
    intro t kt
    refine XS.dstore X104.here hx rfl (hb hby at_148) rfl (l' := #[.val (.long i0), .second, .val (.long i1), .second, .val (.long i2), .second, .val (.int i3), .val (.long va), .second, .val (.long vb), .second, .val (.long vc), .second, .val (.long vs), .second, .val (.double (own_fold FP.dconst1 [])), .second, .val (.double (own_fold FP.dconst1 [va])), .second, .val (.double (own_fold FP.dconst1 [vb])), .second, .val (.double (own_fold FP.dconst1 [vc])), .second, .val (.double (own_fold FP.dconst1 [va, vb])), .second, .val (.double (own_fold FP.dconst1 [vb, va])), .second, .val (.double (own_fold FP.dconst1 [va, vb, vc])), .second, .val (.double (own_fold FP.dconst1 [vs])), .second, .unset, .unset, .unset]) rfl ?_
    exact kt
  have x1 (b : Int64) : own_fold FP.dconst1 [b] = own_X b := own_one b
  have x2 (b c : Int64) : own_fold FP.dconst1 [b, c] = FP.dmul (own_X b) (own_X c) := by show FP.dmul (FP.dmul FP.dconst1 (own_X b)) (own_X c) = _; rw [own_one]
  have x3 (b c d : Int64) : own_fold FP.dconst1 [b, c, d] = FP.dmul (FP.dmul (own_X b) (own_X c)) (own_X d) := by show FP.dmul (FP.dmul (FP.dmul FP.dconst1 (own_X b)) (own_X c)) (own_X d) = _; rw [own_one]
  have x0 : own_fold FP.dconst1 [] = FP.dconst1 := rfl
  have cvx : ∀ t, Steps p.tables e below (T104.setTop (mkF m 150 #[.val (.long i0), .second, .val (.long i1), .second, .val (.long i2), .second, .val (.int i3), .val (.long va), .second, .val (.long vb), .second, .val (.long vc), .second, .val (.long vs), .second, .val (.double FP.dconst1), .second, .val (.double (own_X va)), .second, .val (.double (own_X vb)), .second, .val (.double (own_X vc)), .second, .val (.double (FP.dmul (own_X va) (own_X vb))), .second, .val (.double (FP.dmul (own_X vb) (own_X va))), .second, .val (.double (FP.dmul (FP.dmul (own_X va) (own_X vb)) (own_X vc))), .second, .val (.double (own_X vs)), .second, .unset, .unset, .unset] [])) t → Steps p.tables e below (T104.setTop (mkF m 150 #[.val (.long i0), .second, .val (.long i1), .second, .val (.long i2), .second, .val (.int i3), .val (.long va), .second, .val (.long vb), .second, .val (.long vc), .second, .val (.long vs), .second, .val (.double (own_fold FP.dconst1 [])), .second, .val (.double (own_fold FP.dconst1 [va])), .second, .val (.double (own_fold FP.dconst1 [vb])), .second, .val (.double (own_fold FP.dconst1 [vc])), .second, .val (.double (own_fold FP.dconst1 [va, vb])), .second, .val (.double (own_fold FP.dconst1 [vb, va])), .second, .val (.double (own_fold FP.dconst1 [va, vb, vc])), .second, .val (.double (own_fold FP.dconst1 [vs])), .second, .unset, .unset, .unset] [])) t := fun t kt => by simp only [x0, x1, x2, x3]; exact kt
  have n2 : NoNaN64 (FP.dmul (own_X va) (own_X vb)) := ((dmul_mag (own_mX va) (own_mX vb) (by decide) (by decide)).fin (by decide)).noNaN
  have n3 : NoNaN64 (FP.dmul (FP.dmul (own_X va) (own_X vb)) (own_X vc)) := ((dmul_mag (dmul_mag (own_mX va) (own_mX vb) (by decide) (by decide)) (own_mX vc) (by decide) (by decide)).fin (by decide)).noNaN
  have k171 : cmpValue (FP.dcmp FP.dconst1 FP.dconst1) .l = 0 := by decide +kernel
  have k192 := own_Xs gs0 gs1
  have k215 := dcmpV_self n2 .l
  have k235 : cmpValue (FP.dcmp (FP.dmul (own_X vb) (own_X va)) (FP.dmul (own_X va) (own_X vb))) .l = 0 := by rw [show FP.dmul (own_X vb) (own_X va) = FP.dmul (own_X va) (own_X vb) from FP.Core.dmul_comm _ _]; exact dcmpV_self n2 .l
  have k258 := dcmpV_self n3 .l
  have k277 := own_X1 gva
  have k284 := own_X1 gvb
  have k291 := own_X1 gvc
  have sg106 : ∀ t, Steps p.tables e below (T104.setTop (mkF m 301 #[.val (.long i0), .second, .val (.long i1), .second, .val (.long i2), .second, .val (.int i3), .val (.long va), .second, .val (.long vb), .second, .val (.long vc), .second, .val (.long vs), .second, .val (.double FP.dconst1), .second, .val (.double (own_X va)), .second, .val (.double (own_X vb)), .second, .val (.double (own_X vc)), .second, .val (.double (FP.dmul (own_X va) (own_X vb))), .second, .val (.double (FP.dmul (own_X vb) (own_X va))), .second, .val (.double (FP.dmul (FP.dmul (own_X va) (own_X vb)) (own_X vc))), .second, .val (.double (own_X vs)), .second, .val (.long (((vs + (1 : Int64)) * (vs + (2 : Int64))) / (2 : Int64))), .second, .val (.int (1 : Int32))] [])) t → Steps p.tables e below (T104.setTop (mkF m 150 #[.val (.long i0), .second, .val (.long i1), .second, .val (.long i2), .second, .val (.int i3), .val (.long va), .second, .val (.long vb), .second, .val (.long vc), .second, .val (.long vs), .second, .val (.double FP.dconst1), .second, .val (.double (own_X va)), .second, .val (.double (own_X vb)), .second, .val (.double (own_X vc)), .second, .val (.double (FP.dmul (own_X va) (own_X vb))), .second, .val (.double (FP.dmul (own_X vb) (own_X va))), .second, .val (.double (FP.dmul (FP.dmul (own_X va) (own_X vb)) (own_X vc))), .second, .val (.double (own_X vs)), .second, .unset, .unset, .unset] [])) t := by
    intro t kt
    refine XS.lload X104.here hx rfl (hb hby at_150) rfl ?_
    show Steps p.tables e below (T104.setTop (mkF m 152 #[.val (.long i0), .second, .val (.long i1), .second, .val (.long i2), .second, .val (.int i3), .val (.long va), .second, .val (.long vb), .second, .val (.long vc), .second, .val (.long vs), .second, .val (.double FP.dconst1), .second, .val (.double (own_X va)), .second, .val (.double (own_X vb)), .second, .val (.double (own_X vc)), .second, .val (.double (FP.dmul (own_X va) (own_X vb))), .second, .val (.double (FP.dmul (own_X vb) (own_X va))), .second, .val (.double (FP.dmul (FP.dmul (own_X va) (own_X vb)) (own_X vc))), .second, .val (.double (own_X vs)), .second, .unset, .unset, .unset] [(.long vs)])) _
    refine XS.lconst X104.here hx rfl (hb hby at_152) ?_
    show Steps p.tables e below (T104.setTop (mkF m 153 #[.val (.long i0), .second, .val (.long i1), .second, .val (.long i2), .second, .val (.int i3), .val (.long va), .second, .val (.long vb), .second, .val (.long vc), .second, .val (.long vs), .second, .val (.double FP.dconst1), .second, .val (.double (own_X va)), .second, .val (.double (own_X vb)), .second, .val (.double (own_X vc)), .second, .val (.double (FP.dmul (own_X va) (own_X vb))), .second, .val (.double (FP.dmul (own_X vb) (own_X va))), .second, .val (.double (FP.dmul (FP.dmul (own_X va) (own_X vb)) (own_X vc))), .second, .val (.double (own_X vs)), .second, .unset, .unset, .unset] [(.long (1 : Int64)), (.long vs)])) _
    refine XS.ladd X104.here hx rfl (hb hby at_153) rfl ?_
    show Steps p.tables e below (T104.setTop (mkF m 154 #[.val (.long i0), .second, .val (.long i1), .second, .val (.long i2), .second, .val (.int i3), .val (.long va), .second, .val (.long vb), .second, .val (.long vc), .second, .val (.long vs), .second, .val (.double FP.dconst1), .second, .val (.double (own_X va)), .second, .val (.double (own_X vb)), .second, .val (.double (own_X vc)), .second, .val (.double (FP.dmul (own_X va) (own_X vb))), .second, .val (.double (FP.dmul (own_X vb) (own_X va))), .second, .val (.double (FP.dmul (FP.dmul (own_X va) (own_X vb)) (own_X vc))), .second, .val (.double (own_X vs)), .second, .unset, .unset, .unset] [(.long (vs + (1 : Int64)))])) _
    refine XS.lload X104.here hx rfl (hb hby at_154) rfl ?_
    show Steps p.tables e below (T104.setTop (mkF m 156 #[.val (.long i0), .second, .val (.long i1), .second, .val (.long i2), .second, .val (.int i3), .val (.long va), .second, .val (.long vb), .second, .val (.long vc), .second, .val (.long vs), .second, .val (.double FP.dconst1), .second, .val (.double (own_X va)), .second, .val (.double (own_X vb)), .second, .val (.double (own_X vc)), .second, .val (.double (FP.dmul (own_X va) (own_X vb))), .second, .val (.double (FP.dmul (own_X vb) (own_X va))), .second, .val (.double (FP.dmul (FP.dmul (own_X va) (own_X vb)) (own_X vc))), .second, .val (.double (own_X vs)), .second, .unset, .unset, .unset] [(.long vs), (.long (vs + (1 : Int64)))])) _
    refine X104.ldc2Long hx hown (mvT hZ (hw _ (List.mem_of_getElem? (i := 8) rfl))) (g := (mkF m 156 #[.val (.long i0), .second, .val (.long i1), .second, .val (.long i2), .second, .val (.int i3), .val (.long va), .second, .val (.long vb), .second, .val (.long vc), .second, .val (.long vs), .second, .val (.double FP.dconst1), .second, .val (.double (own_X va)), .second, .val (.double (own_X vb)), .second, .val (.double (own_X vc)), .second, .val (.double (FP.dmul (own_X va) (own_X vb))), .second, .val (.double (FP.dmul (own_X vb) (own_X va))), .second, .val (.double (FP.dmul (FP.dmul (own_X va) (own_X vb)) (own_X vc))), .second, .val (.double (own_X vs)), .second, .unset, .unset, .unset] [(.long vs), (.long (vs + (1 : Int64)))])) rfl (hb hby at_156) _ ?_
    show Steps p.tables e below (T104.setTop (mkF m 159 #[.val (.long i0), .second, .val (.long i1), .second, .val (.long i2), .second, .val (.int i3), .val (.long va), .second, .val (.long vb), .second, .val (.long vc), .second, .val (.long vs), .second, .val (.double FP.dconst1), .second, .val (.double (own_X va)), .second, .val (.double (own_X vb)), .second, .val (.double (own_X vc)), .second, .val (.double (FP.dmul (own_X va) (own_X vb))), .second, .val (.double (FP.dmul (own_X vb) (own_X va))), .second, .val (.double (FP.dmul (FP.dmul (own_X va) (own_X vb)) (own_X vc))), .second, .val (.double (own_X vs)), .second, .unset, .unset, .unset] [(.long (2 : Int64)), (.long vs), (.long (vs + (1 : Int64)))])) _
    refine XS.ladd X104.here hx rfl (hb hby at_159) rfl ?_
    show Steps p.tables e below (T104.setTop (mkF m 160 #[.val (.long i0), .second, .val (.long i1), .second, .val (.long i2), .second, .val (.int i3), .val (.long va), .second, .val (.long vb), .second, .val (.long vc), .second, .val (.long vs), .second, .val (.double FP.dconst1), .second, .val (.double (own_X va)), .second, .val (.double (own_X vb)), .second, .val (.double (own_X vc)), .second, .val (.double (FP.dmul (own_X va) (own_X vb))), .second, .val (.double (FP.dmul (own_X vb) (own_X va))), .second, .val (.double (FP.dmul (FP.dmul (own_X va) (own_X vb)) (own_X vc))), .second, .val (.double (own_X vs)), .second, .unset, .unset, .unset] [(.long (vs + (2 : Int64))), (.long (vs + (1 : Int64)))])) _
    refine XS.lmul X104.here hx rfl (hb hby at_160) rfl ?_
    show Steps p.tables e below (T104.setTop (mkF m 161 #[.val (.long i0), .second, .val (.long i1), .second, .val (.long i2), .second, .val (.int i3), .val (.long va), .second, .val (.long vb), .second, .val (.long vc), .second, .val (.long vs), .second, .val (.double FP.dconst1), .second, .val (.double (own_X va)), .second, .val (.double (own_X vb)), .second, .val (.double (own_X vc)), .second, .val (.double (FP.dmul (own_X va) (own_X vb))), .second, .val (.double (FP.dmul (own_X vb) (own_X va))), .second, .val (.double (FP.dmul (FP.dmul (own_X va) (own_X vb)) (own_X vc))), .second, .val (.double (own_X vs)), .second, .unset, .unset, .unset] [(.long ((vs + (1 : Int64)) * (vs + (2 : Int64))))])) _
    refine X104.ldc2Long hx hown (mvT hZ (hw _ (List.mem_of_getElem? (i := 8) rfl))) (g := (mkF m 161 #[.val (.long i0), .second, .val (.long i1), .second, .val (.long i2), .second, .val (.int i3), .val (.long va), .second, .val (.long vb), .second, .val (.long vc), .second, .val (.long vs), .second, .val (.double FP.dconst1), .second, .val (.double (own_X va)), .second, .val (.double (own_X vb)), .second, .val (.double (own_X vc)), .second, .val (.double (FP.dmul (own_X va) (own_X vb))), .second, .val (.double (FP.dmul (own_X vb) (own_X va))), .second, .val (.double (FP.dmul (FP.dmul (own_X va) (own_X vb)) (own_X vc))), .second, .val (.double (own_X vs)), .second, .unset, .unset, .unset] [(.long ((vs + (1 : Int64)) * (vs + (2 : Int64))))])) rfl (hb hby at_161) _ ?_
    show Steps p.tables e below (T104.setTop (mkF m 164 #[.val (.long i0), .second, .val (.long i1), .second, .val (.long i2), .second, .val (.int i3), .val (.long va), .second, .val (.long vb), .second, .val (.long vc), .second, .val (.long vs), .second, .val (.double FP.dconst1), .second, .val (.double (own_X va)), .second, .val (.double (own_X vb)), .second, .val (.double (own_X vc)), .second, .val (.double (FP.dmul (own_X va) (own_X vb))), .second, .val (.double (FP.dmul (own_X vb) (own_X va))), .second, .val (.double (FP.dmul (FP.dmul (own_X va) (own_X vb)) (own_X vc))), .second, .val (.double (own_X vs)), .second, .unset, .unset, .unset] [(.long (2 : Int64)), (.long ((vs + (1 : Int64)) * (vs + (2 : Int64))))])) _
    refine XS.ldiv X104.here hx rfl (hb hby at_164) rfl (by decide) ?_
    show Steps p.tables e below (T104.setTop (mkF m 165 #[.val (.long i0), .second, .val (.long i1), .second, .val (.long i2), .second, .val (.int i3), .val (.long va), .second, .val (.long vb), .second, .val (.long vc), .second, .val (.long vs), .second, .val (.double FP.dconst1), .second, .val (.double (own_X va)), .second, .val (.double (own_X vb)), .second, .val (.double (own_X vc)), .second, .val (.double (FP.dmul (own_X va) (own_X vb))), .second, .val (.double (FP.dmul (own_X vb) (own_X va))), .second, .val (.double (FP.dmul (FP.dmul (own_X va) (own_X vb)) (own_X vc))), .second, .val (.double (own_X vs)), .second, .unset, .unset, .unset] [(.long (((vs + (1 : Int64)) * (vs + (2 : Int64))) / (2 : Int64)))])) _
    refine XS.lstore X104.here hx rfl (hb hby at_165) rfl (l' := #[.val (.long i0), .second, .val (.long i1), .second, .val (.long i2), .second, .val (.int i3), .val (.long va), .second, .val (.long vb), .second, .val (.long vc), .second, .val (.long vs), .second, .val (.double FP.dconst1), .second, .val (.double (own_X va)), .second, .val (.double (own_X vb)), .second, .val (.double (own_X vc)), .second, .val (.double (FP.dmul (own_X va) (own_X vb))), .second, .val (.double (FP.dmul (own_X vb) (own_X va))), .second, .val (.double (FP.dmul (FP.dmul (own_X va) (own_X vb)) (own_X vc))), .second, .val (.double (own_X vs)), .second, .val (.long (((vs + (1 : Int64)) * (vs + (2 : Int64))) / (2 : Int64))), .second, .unset]) rfl ?_
    show Steps p.tables e below (T104.setTop (mkF m 167 #[.val (.long i0), .second, .val (.long i1), .second, .val (.long i2), .second, .val (.int i3), .val (.long va), .second, .val (.long vb), .second, .val (.long vc), .second, .val (.long vs), .second, .val (.double FP.dconst1), .second, .val (.double (own_X va)), .second, .val (.double (own_X vb)), .second, .val (.double (own_X vc)), .second, .val (.double (FP.dmul (own_X va) (own_X vb))), .second, .val (.double (FP.dmul (own_X vb) (own_X va))), .second, .val (.double (FP.dmul (FP.dmul (own_X va) (own_X vb)) (own_X vc))), .second, .val (.double (own_X vs)), .second, .val (.long (((vs + (1 : Int64)) * (vs + (2 : Int64))) / (2 : Int64))), .second, .unset] [])) _
    refine XS.dload X104.here hx rfl (hb hby at_167) rfl ?_
    show Steps p.tables e below (T104.setTop (mkF m 169 #[.val (.long i0), .second, .val (.long i1), .second, .val (.long i2), .second, .val (.int i3), .val (.long va), .second, .val (.long vb), .second, .val (.long vc), .second, .val (.long vs), .second, .val (.double FP.dconst1), .second, .val (.double (own_X va)), .second, .val (.double (own_X vb)), .second, .val (.double (own_X vc)), .second, .val (.double (FP.dmul (own_X va) (own_X vb))), .second, .val (.double (FP.dmul (own_X vb) (own_X va))), .second, .val (.double (FP.dmul (FP.dmul (own_X va) (own_X vb)) (own_X vc))), .second, .val (.double (own_X vs)), .second, .val (.long (((vs + (1 : Int64)) * (vs + (2 : Int64))) / (2 : Int64))), .second, .unset] [(.double FP.dconst1)])) _
    refine XS.dconst1 X104.here hx rfl (hb hby at_169) (v := (FP.dconst1)) rfl ?_
    show Steps p.tables e below (T104.setTop (mkF m 170 #[.val (.long i0), .second, .val (.long i1), .second, .val (.long i2), .second, .val (.int i3), .val (.long va), .second, .val (.long vb), .second, .val (.long vc), .second, .val (.long vs), .second, .val (.double FP.dconst1), .second, .val (.double (own_X va)), .second, .val (.double (own_X vb)), .second, .val (.double (own_X vc)), .second, .val (.double (FP.dmul (own_X va) (own_X vb))), .second, .val (.double (FP.dmul (own_X vb) (own_X va))), .second, .val (.double (FP.dmul (FP.dmul (own_X va) (own_X vb)) (own_X vc))), .second, .val (.double (own_X vs)), .second, .val (.long (((vs + (1 : Int64)) * (vs + (2 : Int64))) / (2 : Int64))), .second, .unset] [(.double (FP.dconst1)), (.double FP.dconst1)])) _
    refine XS.dcmpS X104.here hx rfl (hb hby at_170) rfl (v := (cmpValue (FP.dcmp FP.dconst1 (FP.dconst1)) .l)) rfl ?_
    show Steps p.tables e below (T104.setTop (mkF m 171 #[.val (.long i0), .second, .val (.long i1), .second, .val (.long i2), .second, .val (.int i3), .val (.long va), .second, .val (.long vb), .second, .val (.long vc), .second, .val (.long vs), .second, .val (.double FP.dconst1), .second, .val (.double (own_X va)), .second, .val (.double (own_X vb)), .second, .val (.double (own_X vc)), .second, .val (.double (FP.dmul (own_X va) (own_X vb))), .second, .val (.double (FP.dmul (own_X vb) (own_X va))), .second, .val (.double (FP.dmul (FP.dmul (own_X va) (own_X vb)) (own_X vc))), .second, .val (.double (own_X vs)), .second, .val (.long (((vs + (1 : Int64)) * (vs + (2 : Int64))) / (2 : Int64))), .second, .unset] [(.int (cmpValue (FP.dcmp FP.dconst1 (FP.dconst1)) .l))])) _
    refine XS.ifNo X104.here hx rfl (hb hby at_171) rfl ((if0 _ _).trans (teq (k171 : (cmpValue (FP.dcmp FP.dconst1 (FP.dconst1)) .l) = (0 : Int32))).2) ?_
    show Steps p.tables e below (T104.setTop (mkF m 174 #[.val (.long i0), .second, .val (.long i1), .second, .val (.long i2), .second, .val (.int i3), .val (.long va), .second, .val (.long vb), .second, .val (.long vc), .second, .val (.long vs), .second, .val (.double FP.dconst1), .second, .val (.double (own_X va)), .second, .val (.double (own_X vb)), .second, .val (.double (own_X vc)), .second, .val (.double (FP.dmul (own_X va) (own_X vb))), .second, .val (.double (FP.dmul (own_X vb) (own_X va))), .second, .val (.double (FP.dmul (FP.dmul (own_X va) (own_X vb)) (own_X vc))), .second, .val (.double (own_X vs)), .second, .val (.long (((vs + (1 : Int64)) * (vs + (2 : Int64))) / (2 : Int64))), .second, .unset] [])) _
    refine XS.iconst X104.here hx rfl (hb hby at_174) ?_
    show Steps p.tables e below (T104.setTop (mkF m 175 #[.val (.long i0), .second, .val (.long i1), .second, .val (.long i2), .second, .val (.int i3), .val (.long va), .second, .val (.long vb), .second, .val (.long vc), .second, .val (.long vs), .second, .val (.double FP.dconst1), .second, .val (.double (own_X va)), .second, .val (.double (own_X vb)), .second, .val (.double (own_X vc)), .second, .val (.double (FP.dmul (own_X va) (own_X vb))), .second, .val (.double (FP.dmul (own_X vb) (own_X va))), .second, .val (.double (FP.dmul (FP.dmul (own_X va) (own_X vb)) (own_X vc))), .second, .val (.double (own_X vs)), .second, .val (.long (((vs + (1 : Int64)) * (vs + (2 : Int64))) / (2 : Int64))), .second, .unset] [(.int (1 : Int32))])) _
    refine XS.goto X104.here hx rfl (pc0 := 175) (pc' := 179) rfl (hb hby at_175) (by decide) (by decide) ?_
    show Steps p.tables e below (T104.setTop (mkF m 179 #[.val (.long i0), .second, .val (.long i1), .second, .val (.long i2), .second, .val (.int i3), .val (.long va), .second, .val (.long vb), .second, .val (.long vc), .second, .val (.long vs), .second, .val (.double FP.dconst1), .second, .val (.double (own_X va)), .second, .val (.double (own_X vb)), .second, .val (.double (own_X vc)), .second, .val (.double (FP.dmul (own_X va) (own_X vb))), .second, .val (.double (FP.dmul (own_X vb) (own_X va))), .second, .val (.double (FP.dmul (FP.dmul (own_X va) (own_X vb)) (own_X vc))), .second, .val (.double (own_X vs)), .second, .val (.long (((vs + (1 : Int64)) * (vs + (2 : Int64))) / (2 : Int64))), .second, .unset] [(.int (1 : Int32))])) _
    refine XS.istore X104.here hx rfl (hb hby at_179) rfl (l' := #[.val (.long i0), .second, .val (.long i1), .second, .val (.long i2), .second, .val (.int i3), .val (.long va), .second, .val (.long vb), .second, .val (.long vc), .second, .val (.long vs), .second, .val (.double FP.dconst1), .second, .val (.double (own_X va)), .second, .val (.double (own_X vb)), .second, .val (.double (own_X vc)), .second, .val (.double (FP.dmul (own_X va) (own_X vb))), .second, .val (.double (FP.dmul (own_X vb) (own_X va))), .second, .val (.double (FP.dmul (FP.dmul (own_X va) (own_X vb)) (own_X vc))), .second, .val (.double (own_X vs)), .second, .val (.long (((vs + (1 : Int64)) * (vs + (2 : Int64))) / (2 : Int64))), .second, .val (.int (1 : Int32))]) rfl ?_
    show Steps p.tables e below (T104.setTop (mkF m 181 #[.val (.long i0), .second, .val (.long i1), .second, .val (.long i2), .second, .val (.int i3), .val (.long va), .second, .val (.long vb), .second, .val (.long vc), .second, .val (.long vs), .second, .val (.double FP.dconst1), .second, .val (.double (own_X va)), .second, .val (.double (own_X vb)), .second, .val (.double (own_X vc)), .second, .val (.double (FP.dmul (own_X va) (own_X vb))), .second, .val (.double (FP.dmul (own_X vb) (own_X va))), .second, .val (.double (FP.dmul (FP.dmul (own_X va) (own_X vb)) (own_X vc))), .second, .val (.double (own_X vs)), .second, .val (.long (((vs + (1 : Int64)) * (vs + (2 : Int64))) / (2 : Int64))), .second, .val (.int (1 : Int32))] [])) _
    refine XS.iload X104.here hx rfl (hb hby at_181) rfl ?_
    show Steps p.tables e below (T104.setTop (mkF m 183 #[.val (.long i0), .second, .val (.long i1), .second, .val (.long i2), .second, .val (.int i3), .val (.long va), .second, .val (.long vb), .second, .val (.long vc), .second, .val (.long vs), .second, .val (.double FP.dconst1), .second, .val (.double (own_X va)), .second, .val (.double (own_X vb)), .second, .val (.double (own_X vc)), .second, .val (.double (FP.dmul (own_X va) (own_X vb))), .second, .val (.double (FP.dmul (own_X vb) (own_X va))), .second, .val (.double (FP.dmul (FP.dmul (own_X va) (own_X vb)) (own_X vc))), .second, .val (.double (own_X vs)), .second, .val (.long (((vs + (1 : Int64)) * (vs + (2 : Int64))) / (2 : Int64))), .second, .val (.int (1 : Int32))] [(.int (1 : Int32))])) _
    refine XS.ifNo X104.here hx rfl (hb hby at_183) rfl ((if0 _ _).trans (feq (by decide : ¬ ((1 : Int32) = (0 : Int32)))).1) ?_
    show Steps p.tables e below (T104.setTop (mkF m 186 #[.val (.long i0), .second, .val (.long i1), .second, .val (.long i2), .second, .val (.int i3), .val (.long va), .second, .val (.long vb), .second, .val (.long vc), .second, .val (.long vs), .second, .val (.double FP.dconst1), .second, .val (.double (own_X va)), .second, .val (.double (own_X vb)), .second, .val (.double (own_X vc)), .second, .val (.double (FP.dmul (own_X va) (own_X vb))), .second, .val (.double (FP.dmul (own_X vb) (own_X va))), .second, .val (.double (FP.dmul (FP.dmul (own_X va) (own_X vb)) (own_X vc))), .second, .val (.double (own_X vs)), .second, .val (.long (((vs + (1 : Int64)) * (vs + (2 : Int64))) / (2 : Int64))), .second, .val (.int (1 : Int32))] [])) _
    refine XS.dload X104.here hx rfl (hb hby at_186) rfl ?_
    show Steps p.tables e below (T104.setTop (mkF m 188 #[.val (.long i0), .second, .val (.long i1), .second, .val (.long i2), .second, .val (.int i3), .val (.long va), .second, .val (.long vb), .second, .val (.long vc), .second, .val (.long vs), .second, .val (.double FP.dconst1), .second, .val (.double (own_X va)), .second, .val (.double (own_X vb)), .second, .val (.double (own_X vc)), .second, .val (.double (FP.dmul (own_X va) (own_X vb))), .second, .val (.double (FP.dmul (own_X vb) (own_X va))), .second, .val (.double (FP.dmul (FP.dmul (own_X va) (own_X vb)) (own_X vc))), .second, .val (.double (own_X vs)), .second, .val (.long (((vs + (1 : Int64)) * (vs + (2 : Int64))) / (2 : Int64))), .second, .val (.int (1 : Int32))] [(.double (own_X vs))])) _
    refine XS.lload X104.here hx rfl (hb hby at_188) rfl ?_
    show Steps p.tables e below (T104.setTop (mkF m 190 #[.val (.long i0), .second, .val (.long i1), .second, .val (.long i2), .second, .val (.int i3), .val (.long va), .second, .val (.long vb), .second, .val (.long vc), .second, .val (.long vs), .second, .val (.double FP.dconst1), .second, .val (.double (own_X va)), .second, .val (.double (own_X vb)), .second, .val (.double (own_X vc)), .second, .val (.double (FP.dmul (own_X va) (own_X vb))), .second, .val (.double (FP.dmul (own_X vb) (own_X va))), .second, .val (.double (FP.dmul (FP.dmul (own_X va) (own_X vb)) (own_X vc))), .second, .val (.double (own_X vs)), .second, .val (.long (((vs + (1 : Int64)) * (vs + (2 : Int64))) / (2 : Int64))), .second, .val (.int (1 : Int32))] [(.long (((vs + (1 : Int64)) * (vs + (2 : Int64))) / (2 : Int64))), (.double (own_X vs))])) _
    refine XS.l2dS X104.here hx rfl (hb hby at_190) rfl (v := (FP.l2d (((vs + (1 : Int64)) * (vs + (2 : Int64))) / (2 : Int64)))) rfl ?_
    show Steps p.tables e below (T104.setTop (mkF m 191 #[.val (.long i0), .second, .val (.long i1), .second, .val (.long i2), .second, .val (.int i3), .val (.long va), .second, .val (.long vb), .second, .val (.long vc), .second, .val (.long vs), .second, .val (.double FP.dconst1), .second, .val (.double (own_X va)), .second, .val (.double (own_X vb)), .second, .val (.double (own_X vc)), .second, .val (.double (FP.dmul (own_X va) (own_X vb))), .second, .val (.double (FP.dmul (own_X vb) (own_X va))), .second, .val (.double (FP.dmul (FP.dmul (own_X va) (own_X vb)) (own_X vc))), .second, .val (.double (own_X vs)), .second, .val (.long (((vs + (1 : Int64)) * (vs + (2 : Int64))) / (2 : Int64))), .second, .val (.int (1 : Int32))] [(.double (FP.l2d (((vs + (1 : Int64)) * (vs + (2 : Int64))) / (2 : Int64)))), (.double (own_X vs))])) _
    refine XS.dcmpS X104.here hx rfl (hb hby at_191) rfl (v := (cmpValue (FP.dcmp (own_X vs) (FP.l2d (((vs + (1 : Int64)) * (vs + (2 : Int64))) / (2 : Int64)))) .l)) rfl ?_
    show Steps p.tables e below (T104.setTop (mkF m 192 #[.val (.long i0), .second, .val (.long i1), .second, .val (.long i2), .second, .val (.int i3), .val (.long va), .second, .val (.long vb), .second, .val (.long vc), .second, .val (.long vs), .second, .val (.double FP.dconst1), .second, .val (.double (own_X va)), .second, .val (.double (own_X vb)), .second, .val (.double (own_X vc)), .second, .val (.double (FP.dmul (own_X va) (own_X vb))), .second, .val (.double (FP.dmul (own_X vb) (own_X va))), .second, .val (.double (FP.dmul (FP.dmul (own_X va) (own_X vb)) (own_X vc))), .second, .val (.double (own_X vs)), .second, .val (.long (((vs + (1 : Int64)) * (vs + (2 : Int64))) / (2 : Int64))), .second, .val (.int (1 : Int32))] [(.int (cmpValue (FP.dcmp (own_X vs) (FP.l2d (((vs + (1 : Int64)) * (vs + (2 : Int64))) / (2 : Int64)))) .l))])) _
    refine XS.ifNo X104.here hx rfl (hb hby at_192) rfl ((if0 _ _).trans (teq (k192 : (cmpValue (FP.dcmp (own_X vs) (FP.l2d (((vs + (1 : Int64)) * (vs + (2 : Int64))) / (2 : Int64)))) .l) = (0 : Int32))).2) ?_
    show Steps p.tables e below (T104.setTop (mkF m 195 #[.val (.long i0), .second, .val (.long i1), .second, .val (.long i2), .second, .val (.int i3), .val (.long va), .second, .val (.long vb), .second, .val (.long vc), .second, .val (.long vs), .second, .val (.double FP.dconst1), .second, .val (.double (own_X va)), .second, .val (.double (own_X vb)), .second, .val (.double (own_X vc)), .second, .val (.double (FP.dmul (own_X va) (own_X vb))), .second, .val (.double (FP.dmul (own_X vb) (own_X va))), .second, .val (.double (FP.dmul (FP.dmul (own_X va) (own_X vb)) (own_X vc))), .second, .val (.double (own_X vs)), .second, .val (.long (((vs + (1 : Int64)) * (vs + (2 : Int64))) / (2 : Int64))), .second, .val (.int (1 : Int32))] [])) _
    refine XS.iconst X104.here hx rfl (hb hby at_195) ?_
    show Steps p.tables e below (T104.setTop (mkF m 196 #[.val (.long i0), .second, .val (.long i1), .second, .val (.long i2), .second, .val (.int i3), .val (.long va), .second, .val (.long vb), .second, .val (.long vc), .second, .val (.long vs), .second, .val (.double FP.dconst1), .second, .val (.double (own_X va)), .second, .val (.double (own_X vb)), .second, .val (.double (own_X vc)), .second, .val (.double (FP.dmul (own_X va) (own_X vb))), .second, .val (.double (FP.dmul (own_X vb) (own_X va))), .second, .val (.double (FP.dmul (FP.dmul (own_X va) (own_X vb)) (own_X vc))), .second, .val (.double (own_X vs)), .second, .val (.long (((vs + (1 : Int64)) * (vs + (2 : Int64))) / (2 : Int64))), .second, .val (.int (1 : Int32))] [(.int (1 : Int32))])) _
    refine XS.goto X104.here hx rfl (pc0 := 196) (pc' := 200) rfl (hb hby at_196) (by decide) (by decide) ?_
    show Steps p.tables e below (T104.setTop (mkF m 200 #[.val (.long i0), .second, .val (.long i1), .second, .val (.long i2), .second, .val (.int i3), .val (.long va), .second, .val (.long vb), .second, .val (.long vc), .second, .val (.long vs), .second, .val (.double FP.dconst1), .second, .val (.double (own_X va)), .second, .val (.double (own_X vb)), .second, .val (.double (own_X vc)), .second, .val (.double (FP.dmul (own_X va) (own_X vb))), .second, .val (.double (FP.dmul (own_X vb) (own_X va))), .second, .val (.double (FP.dmul (FP.dmul (own_X va) (own_X vb)) (own_X vc))), .second, .val (.double (own_X vs)), .second, .val (.long (((vs + (1 : Int64)) * (vs + (2 : Int64))) / (2 : Int64))), .second, .val (.int (1 : Int32))] [(.int (1 : Int32))])) _
    refine XS.istore X104.here hx rfl (hb hby at_200) rfl (l' := #[.val (.long i0), .second, .val (.long i1), .second, .val (.long i2), .second, .val (.int i3), .val (.long va), .second, .val (.long vb), .second, .val (.long vc), .second, .val (.long vs), .second, .val (.double FP.dconst1), .second, .val (.double (own_X va)), .second, .val (.double (own_X vb)), .second, .val (.double (own_X vc)), .second, .val (.double (FP.dmul (own_X va) (own_X vb))), .second, .val (.double (FP.dmul (own_X vb) (own_X va))), .second, .val (.double (FP.dmul (FP.dmul (own_X va) (own_X vb)) (own_X vc))), .second, .val (.double (own_X vs)), .second, .val (.long (((vs + (1 : Int64)) * (vs + (2 : Int64))) / (2 : Int64))), .second, .val (.int (1 : Int32))]) rfl ?_
    show Steps p.tables e below (T104.setTop (mkF m 202 #[.val (.long i0), .second, .val (.long i1), .second, .val (.long i2), .second, .val (.int i3), .val (.long va), .second, .val (.long vb), .second, .val (.long vc), .second, .val (.long vs), .second, .val (.double FP.dconst1), .second, .val (.double (own_X va)), .second, .val (.double (own_X vb)), .second, .val (.double (own_X vc)), .second, .val (.double (FP.dmul (own_X va) (own_X vb))), .second, .val (.double (FP.dmul (own_X vb) (own_X va))), .second, .val (.double (FP.dmul (FP.dmul (own_X va) (own_X vb)) (own_X vc))), .second, .val (.double (own_X vs)), .second, .val (.long (((vs + (1 : Int64)) * (vs + (2 : Int64))) / (2 : Int64))), .second, .val (.int (1 : Int32))] [])) _
    refine XS.iload X104.here hx rfl (hb hby at_202) rfl ?_
    show Steps p.tables e below (T104.setTop (mkF m 204 #[.val (.long i0), .second, .val (.long i1), .second, .val (.long i2), .second, .val (.int i3), .val (.long va), .second, .val (.long vb), .second, .val (.long vc), .second, .val (.long vs), .second, .val (.double FP.dconst1), .second, .val (.double (own_X va)), .second, .val (.double (own_X vb)), .second, .val (.double (own_X vc)), .second, .val (.double (FP.dmul (own_X va) (own_X vb))), .second, .val (.double (FP.dmul (own_X vb) (own_X va))), .second, .val (.double (FP.dmul (FP.dmul (own_X va) (own_X vb)) (own_X vc))), .second, .val (.double (own_X vs)), .second, .val (.long (((vs + (1 : Int64)) * (vs + (2 : Int64))) / (2 : Int64))), .second, .val (.int (1 : Int32))] [(.int (1 : Int32))])) _
    refine XS.ifNo X104.here hx rfl (hb hby at_204) rfl ((if0 _ _).trans (feq (by decide : ¬ ((1 : Int32) = (0 : Int32)))).1) ?_
    show Steps p.tables e below (T104.setTop (mkF m 207 #[.val (.long i0), .second, .val (.long i1), .second, .val (.long i2), .second, .val (.int i3), .val (.long va), .second, .val (.long vb), .second, .val (.long vc), .second, .val (.long vs), .second, .val (.double FP.dconst1), .second, .val (.double (own_X va)), .second, .val (.double (own_X vb)), .second, .val (.double (own_X vc)), .second, .val (.double (FP.dmul (own_X va) (own_X vb))), .second, .val (.double (FP.dmul (own_X vb) (own_X va))), .second, .val (.double (FP.dmul (FP.dmul (own_X va) (own_X vb)) (own_X vc))), .second, .val (.double (own_X vs)), .second, .val (.long (((vs + (1 : Int64)) * (vs + (2 : Int64))) / (2 : Int64))), .second, .val (.int (1 : Int32))] [])) _
    refine XS.dload X104.here hx rfl (hb hby at_207) rfl ?_
    show Steps p.tables e below (T104.setTop (mkF m 209 #[.val (.long i0), .second, .val (.long i1), .second, .val (.long i2), .second, .val (.int i3), .val (.long va), .second, .val (.long vb), .second, .val (.long vc), .second, .val (.long vs), .second, .val (.double FP.dconst1), .second, .val (.double (own_X va)), .second, .val (.double (own_X vb)), .second, .val (.double (own_X vc)), .second, .val (.double (FP.dmul (own_X va) (own_X vb))), .second, .val (.double (FP.dmul (own_X vb) (own_X va))), .second, .val (.double (FP.dmul (FP.dmul (own_X va) (own_X vb)) (own_X vc))), .second, .val (.double (own_X vs)), .second, .val (.long (((vs + (1 : Int64)) * (vs + (2 : Int64))) / (2 : Int64))), .second, .val (.int (1 : Int32))] [(.double (FP.dmul (own_X va) (own_X vb)))])) _
    refine XS.dload X104.here hx rfl (hb hby at_209) rfl ?_
    show Steps p.tables e below (T104.setTop (mkF m 211 #[.val (.long i0), .second, .val (.long i1), .second, .val (.long i2), .second, .val (.int i3), .val (.long va), .second, .val (.long vb), .second, .val (.long vc), .second, .val (.long vs), .second, .val (.double FP.dconst1), .second, .val (.double (own_X va)), .second, .val (.double (own_X vb)), .second, .val (.double (own_X vc)), .second, .val (.double (FP.dmul (own_X va) (own_X vb))), .second, .val (.double (FP.dmul (own_X vb) (own_X va))), .second, .val (.double (FP.dmul (FP.dmul (own_X va) (own_X vb)) (own_X vc))), .second, .val (.double (own_X vs)), .second, .val (.long (((vs + (1 : Int64)) * (vs + (2 : Int64))) / (2 : Int64))), .second, .val (.int (1 : Int32))] [(.double (own_X va)), (.double (FP.dmul (own_X va) (own_X vb)))])) _
    refine XS.dload X104.here hx rfl (hb hby at_211) rfl ?_
    show Steps p.tables e below (T104.setTop (mkF m 213 #[.val (.long i0), .second, .val (.long i1), .second, .val (.long i2), .second, .val (.int i3), .val (.long va), .second, .val (.long vb), .second, .val (.long vc), .second, .val (.long vs), .second, .val (.double FP.dconst1), .second, .val (.double (own_X va)), .second, .val (.double (own_X vb)), .second, .val (.double (own_X vc)), .second, .val (.double (FP.dmul (own_X va) (own_X vb))), .second, .val (.double (FP.dmul (own_X vb) (own_X va))), .second, .val (.double (FP.dmul (FP.dmul (own_X va) (own_X vb)) (own_X vc))), .second, .val (.double (own_X vs)), .second, .val (.long (((vs + (1 : Int64)) * (vs + (2 : Int64))) / (2 : Int64))), .second, .val (.int (1 : Int32))] [(.double (own_X vb)), (.double (own_X va)), (.double (FP.dmul (own_X va) (own_X vb)))])) _
    refine XS.dmulS X104.here hx rfl (hb hby at_213) rfl n2 (v := (FP.dmul (own_X va) (own_X vb))) rfl ?_
    show Steps p.tables e below (T104.setTop (mkF m 214 #[.val (.long i0), .second, .val (.long i1), .second, .val (.long i2), .second, .val (.int i3), .val (.long va), .second, .val (.long vb), .second, .val (.long vc), .second, .val (.long vs), .second, .val (.double FP.dconst1), .second, .val (.double (own_X va)), .second, .val (.double (own_X vb)), .second, .val (.double (own_X vc)), .second, .val (.double (FP.dmul (own_X va) (own_X vb))), .second, .val (.double (FP.dmul (own_X vb) (own_X va))), .second, .val (.double (FP.dmul (FP.dmul (own_X va) (own_X vb)) (own_X vc))), .second, .val (.double (own_X vs)), .second, .val (.long (((vs + (1 : Int64)) * (vs + (2 : Int64))) / (2 : Int64))), .second, .val (.int (1 : Int32))] [(.double (FP.dmul (own_X va) (own_X vb))), (.double (FP.dmul (own_X va) (own_X vb)))])) _
    refine XS.dcmpS X104.here hx rfl (hb hby at_214) rfl (v := (cmpValue (FP.dcmp (FP.dmul (own_X va) (own_X vb)) (FP.dmul (own_X va) (own_X vb))) .l)) rfl ?_
    show Steps p.tables e below (T104.setTop (mkF m 215 #[.val (.long i0), .second, .val (.long i1), .second, .val (.long i2), .second, .val (.int i3), .val (.long va), .second, .val (.long vb), .second, .val (.long vc), .second, .val (.long vs), .second, .val (.double FP.dconst1), .second, .val (.double (own_X va)), .second, .val (.double (own_X vb)), .second, .val (.double (own_X vc)), .second, .val (.double (FP.dmul (own_X va) (own_X vb))), .second, .val (.double (FP.dmul (own_X vb) (own_X va))), .second, .val (.double (FP.dmul (FP.dmul (own_X va) (own_X vb)) (own_X vc))), .second, .val (.double (own_X vs)), .second, .val (.long (((vs + (1 : Int64)) * (vs + (2 : Int64))) / (2 : Int64))), .second, .val (.int (1 : Int32))] [(.int (cmpValue (FP.dcmp (FP.dmul (own_X va) (own_X vb)) (FP.dmul (own_X va) (own_X vb))) .l))])) _
    refine XS.ifNo X104.here hx rfl (hb hby at_215) rfl ((if0 _ _).trans (teq (k215 : (cmpValue (FP.dcmp (FP.dmul (own_X va) (own_X vb)) (FP.dmul (own_X va) (own_X vb))) .l) = (0 : Int32))).2) ?_
    show Steps p.tables e below (T104.setTop (mkF m 218 #[.val (.long i0), .second, .val (.long i1), .second, .val (.long i2), .second, .val (.int i3), .val (.long va), .second, .val (.long vb), .second, .val (.long vc), .second, .val (.long vs), .second, .val (.double FP.dconst1), .second, .val (.double (own_X va)), .second, .val (.double (own_X vb)), .second, .val (.double (own_X vc)), .second, .val (.double (FP.dmul (own_X va) (own_X vb))), .second, .val (.double (FP.dmul (own_X vb) (own_X va))), .second, .val (.double (FP.dmul (FP.dmul (own_X va) (own_X vb)) (own_X vc))), .second, .val (.double (own_X vs)), .second, .val (.long (((vs + (1 : Int64)) * (vs + (2 : Int64))) / (2 : Int64))), .second, .val (.int (1 : Int32))] [])) _
    refine XS.iconst X104.here hx rfl (hb hby at_218) ?_
    show Steps p.tables e below (T104.setTop (mkF m 219 #[.val (.long i0), .second, .val (.long i1), .second, .val (.long i2), .second, .val (.int i3), .val (.long va), .second, .val (.long vb), .second, .val (.long vc), .second, .val (.long vs), .second, .val (.double FP.dconst1), .second, .val (.double (own_X va)), .second, .val (.double (own_X vb)), .second, .val (.double (own_X vc)), .second, .val (.double (FP.dmul (own_X va) (own_X vb))), .second, .val (.double (FP.dmul (own_X vb) (own_X va))), .second, .val (.double (FP.dmul (FP.dmul (own_X va) (own_X vb)) (own_X vc))), .second, .val (.double (own_X vs)), .second, .val (.long (((vs + (1 : Int64)) * (vs + (2 : Int64))) / (2 : Int64))), .second, .val (.int (1 : Int32))] [(.int (1 : Int32))])) _
    refine XS.goto X104.here hx rfl (pc0 := 219) (pc' := 223) rfl (hb hby at_219) (by decide) (by decide) ?_
    show Steps p.tables e below (T104.setTop (mkF m 223 #[.val (.long i0), .second, .val (.long i1), .second, .val (.long i2), .second, .val (.int i3), .val (.long va), .second, .val (.long vb), .second, .val (.long vc), .second, .val (.long vs), .second, .val (.double FP.dconst1), .second, .val (.double (own_X va)), .second, .val (.double (own_X vb)), .second, .val (.double (own_X vc)), .second, .val (.double (FP.dmul (own_X va) (own_X vb))), .second, .val (.double (FP.dmul (own_X vb) (own_X va))), .second, .val (.double (FP.dmul (FP.dmul (own_X va) (own_X vb)) (own_X vc))), .second, .val (.double (own_X vs)), .second, .val (.long (((vs + (1 : Int64)) * (vs + (2 : Int64))) / (2 : Int64))), .second, .val (.int (1 : Int32))] [(.int (1 : Int32))])) _
    refine XS.istore X104.here hx rfl (hb hby at_223) rfl (l' := #[.val (.long i0), .second, .val (.long i1), .second, .val (.long i2), .second, .val (.int i3), .val (.long va), .second, .val (.long vb), .second, .val (.long vc), .second, .val (.long vs), .second, .val (.double FP.dconst1), .second, .val (.double (own_X va)), .second, .val (.double (own_X vb)), .second, .val (.double (own_X vc)), .second, .val (.double (FP.dmul (own_X va) (own_X vb))), .second, .val (.double (FP.dmul (own_X vb) (own_X va))), .second, .val (.double (FP.dmul (FP.dmul (own_X va) (own_X vb)) (own_X vc))), .second, .val (.double (own_X vs)), .second, .val (.long (((vs + (1 : Int64)) * (vs + (2 : Int64))) / (2 : Int64))), .second, .val (.int (1 : Int32))]) rfl ?_
    show Steps p.tables e below (T104.setTop (mkF m 225 #[.val (.long i0), .second, .val (.long i1), .second, .val (.long i2), .second, .val (.int i3), .val (.long va), .second, .val (.long vb), .second, .val (.long vc), .second, .val (.long vs), .second, .val (.double FP.dconst1), .second, .val (.double (own_X va)), .second, .val (.double (own_X vb)), .second, .val (.double (own_X vc)), .second, .val (.double (FP.dmul (own_X va) (own_X vb))), .second, .val (.double (FP.dmul (own_X vb) (own_X va))), .second, .val (.double (FP.dmul (FP.dmul (own_X va) (own_X vb)) (own_X vc))), .second, .val (.double (own_X vs)), .second, .val (.long (((vs + (1 : Int64)) * (vs + (2 : Int64))) / (2 : Int64))), .second, .val (.int (1 : Int32))] [])) _
    refine XS.iload X104.here hx rfl (hb hby at_225) rfl ?_
    show Steps p.tables e below (T104.setTop (mkF m 227 #[.val (.long i0), .second, .val (.long i1), .second, .val (.long i2), .second, .val (.int i3), .val (.long va), .second, .val (.long vb), .second, .val (.long vc), .second, .val (.long vs), .second, .val (.double FP.dconst1), .second, .val (.double (own_X va)), .second, .val (.double (own_X vb)), .second, .val (.double (own_X vc)), .second, .val (.double (FP.dmul (own_X va) (own_X vb))), .second, .val (.double (FP.dmul (own_X vb) (own_X va))), .second, .val (.double (FP.dmul (FP.dmul (own_X va) (own_X vb)) (own_X vc))), .second, .val (.double (own_X vs)), .second, .val (.long (((vs + (1 : Int64)) * (vs + (2 : Int64))) / (2 : Int64))), .second, .val (.int (1 : Int32))] [(.int (1 : Int32))])) _
    refine XS.ifNo X104.here hx rfl (hb hby at_227) rfl ((if0 _ _).trans (feq (by decide : ¬ ((1 : Int32) = (0 : Int32)))).1) ?_
    show Steps p.tables e below (T104.setTop (mkF m 230 #[.val (.long i0), .second, .val (.long i1), .second, .val (.long i2), .second, .val (.int i3), .val (.long va), .second, .val (.long vb), .second, .val (.long vc), .second, .val (.long vs), .second, .val (.double FP.dconst1), .second, .val (.double (own_X va)), .second, .val (.double (own_X vb)), .second, .val (.double (own_X vc)), .second, .val (.double (FP.dmul (own_X va) (own_X vb))), .second, .val (.double (FP.dmul (own_X vb) (own_X va))), .second, .val (.double (FP.dmul (FP.dmul (own_X va) (own_X vb)) (own_X vc))), .second, .val (.double (own_X vs)), .second, .val (.long (((vs + (1 : Int64)) * (vs + (2 : Int64))) / (2 : Int64))), .second, .val (.int (1 : Int32))] [])) _
    refine XS.dload X104.here hx rfl (hb hby at_230) rfl ?_
    show Steps p.tables e below (T104.setTop (mkF m 232 #[.val (.long i0), .second, .val (.long i1), .second, .val (.long i2), .second, .val (.int i3), .val (.long va), .second, .val (.long vb), .second, .val (.long vc), .second, .val (.long vs), .second, .val (.double FP.dconst1), .second, .val (.double (own_X va)), .second, .val (.double (own_X vb)), .second, .val (.double (own_X vc)), .second, .val (.double (FP.dmul (own_X va) (own_X vb))), .second, .val (.double (FP.dmul (own_X vb) (own_X va))), .second, .val (.double (FP.dmul (FP.dmul (own_X va) (own_X vb)) (own_X vc))), .second, .val (.double (own_X vs)), .second, .val (.long (((vs + (1 : Int64)) * (vs + (2 : Int64))) / (2 : Int64))), .second, .val (.int (1 : Int32))] [(.double (FP.dmul (own_X vb) (own_X va)))])) _
    refine XS.dload X104.here hx rfl (hb hby at_232) rfl ?_
    show Steps p.tables e below (T104.setTop (mkF m 234 #[.val (.long i0), .second, .val (.long i1), .second, .val (.long i2), .second, .val (.int i3), .val (.long va), .second, .val (.long vb), .second, .val (.long vc), .second, .val (.long vs), .second, .val (.double FP.dconst1), .second, .val (.double (own_X va)), .second, .val (.double (own_X vb)), .second, .val (.double (own_X vc)), .second, .val (.double (FP.dmul (own_X va) (own_X vb))), .second, .val (.double (FP.dmul (own_X vb) (own_X va))), .second, .val (.double (FP.dmul (FP.dmul (own_X va) (own_X vb)) (own_X vc))), .second, .val (.double (own_X vs)), .second, .val (.long (((vs + (1 : Int64)) * (vs + (2 : Int64))) / (2 : Int64))), .second, .val (.int (1 : Int32))] [(.double (FP.dmul (own_X va) (own_X vb))), (.double (FP.dmul (own_X vb) (own_X va)))])) _
    refine XS.dcmpS X104.here hx rfl (hb hby at_234) rfl (v := (cmpValue (FP.dcmp (FP.dmul (own_X vb) (own_X va)) (FP.dmul (own_X va) (own_X vb))) .l)) rfl ?_
    show Steps p.tables e below (T104.setTop (mkF m 235 #[.val (.long i0), .second, .val (.long i1), .second, .val (.long i2), .second, .val (.int i3), .val (.long va), .second, .val (.long vb), .second, .val (.long vc), .second, .val (.long vs), .second, .val (.double FP.dconst1), .second, .val (.double (own_X va)), .second, .val (.double (own_X vb)), .second, .val (.double (own_X vc)), .second, .val (.double (FP.dmul (own_X va) (own_X vb))), .second, .val (.double (FP.dmul (own_X vb) (own_X va))), .second, .val (.double (FP.dmul (FP.dmul (own_X va) (own_X vb)) (own_X vc))), .second, .val (.double (own_X vs)), .second, .val (.long (((vs + (1 : Int64)) * (vs + (2 : Int64))) / (2 : Int64))), .second, .val (.int (1 : Int32))] [(.int (cmpValue (FP.dcmp (FP.dmul (own_X vb) (own_X va)) (FP.dmul (own_X va) (own_X vb))) .l))])) _
    refine XS.ifNo X104.here hx rfl (hb hby at_235) rfl ((if0 _ _).trans (teq (k235 : (cmpValue (FP.dcmp (FP.dmul (own_X vb) (own_X va)) (FP.dmul (own_X va) (own_X vb))) .l) = (0 : Int32))).2) ?_
    show Steps p.tables e below (T104.setTop (mkF m 238 #[.val (.long i0), .second, .val (.long i1), .second, .val (.long i2), .second, .val (.int i3), .val (.long va), .second, .val (.long vb), .second, .val (.long vc), .second, .val (.long vs), .second, .val (.double FP.dconst1), .second, .val (.double (own_X va)), .second, .val (.double (own_X vb)), .second, .val (.double (own_X vc)), .second, .val (.double (FP.dmul (own_X va) (own_X vb))), .second, .val (.double (FP.dmul (own_X vb) (own_X va))), .second, .val (.double (FP.dmul (FP.dmul (own_X va) (own_X vb)) (own_X vc))), .second, .val (.double (own_X vs)), .second, .val (.long (((vs + (1 : Int64)) * (vs + (2 : Int64))) / (2 : Int64))), .second, .val (.int (1 : Int32))] [])) _
    refine XS.iconst X104.here hx rfl (hb hby at_238) ?_
    show Steps p.tables e below (T104.setTop (mkF m 239 #[.val (.long i0), .second, .val (.long i1), .second, .val (.long i2), .second, .val (.int i3), .val (.long va), .second, .val (.long vb), .second, .val (.long vc), .second, .val (.long vs), .second, .val (.double FP.dconst1), .second, .val (.double (own_X va)), .second, .val (.double (own_X vb)), .second, .val (.double (own_X vc)), .second, .val (.double (FP.dmul (own_X va) (own_X vb))), .second, .val (.double (FP.dmul (own_X vb) (own_X va))), .second, .val (.double (FP.dmul (FP.dmul (own_X va) (own_X vb)) (own_X vc))), .second, .val (.double (own_X vs)), .second, .val (.long (((vs + (1 : Int64)) * (vs + (2 : Int64))) / (2 : Int64))), .second, .val (.int (1 : Int32))] [(.int (1 : Int32))])) _
    refine XS.goto X104.here hx rfl (pc0 := 239) (pc' := 243) rfl (hb hby at_239) (by decide) (by decide) ?_
    show Steps p.tables e below (T104.setTop (mkF m 243 #[.val (.long i0), .second, .val (.long i1), .second, .val (.long i2), .second, .val (.int i3), .val (.long va), .second, .val (.long vb), .second, .val (.long vc), .second, .val (.long vs), .second, .val (.double FP.dconst1), .second, .val (.double (own_X va)), .second, .val (.double (own_X vb)), .second, .val (.double (own_X vc)), .second, .val (.double (FP.dmul (own_X va) (own_X vb))), .second, .val (.double (FP.dmul (own_X vb) (own_X va))), .second, .val (.double (FP.dmul (FP.dmul (own_X va) (own_X vb)) (own_X vc))), .second, .val (.double (own_X vs)), .second, .val (.long (((vs + (1 : Int64)) * (vs + (2 : Int64))) / (2 : Int64))), .second, .val (.int (1 : Int32))] [(.int (1 : Int32))])) _
    refine XS.istore X104.here hx rfl (hb hby at_243) rfl (l' := #[.val (.long i0), .second, .val (.long i1), .second, .val (.long i2), .second, .val (.int i3), .val (.long va), .second, .val (.long vb), .second, .val (.long vc), .second, .val (.long vs), .second, .val (.double FP.dconst1), .second, .val (.double (own_X va)), .second, .val (.double (own_X vb)), .second, .val (.double (own_X vc)), .second, .val (.double (FP.dmul (own_X va) (own_X vb))), .second, .val (.double (FP.dmul (own_X vb) (own_X va))), .second, .val (.double (FP.dmul (FP.dmul (own_X va) (own_X vb)) (own_X vc))), .second, .val (.double (own_X vs)), .second, .val (.long (((vs + (1 : Int64)) * (vs + (2 : Int64))) / (2 : Int64))), .second, .val (.int (1 : Int32))]) rfl ?_
    show Steps p.tables e below (T104.setTop (mkF m 245 #[.val (.long i0), .second, .val (.long i1), .second, .val (.long i2), .second, .val (.int i3), .val (.long va), .second, .val (.long vb), .second, .val (.long vc), .second, .val (.long vs), .second, .val (.double FP.dconst1), .second, .val (.double (own_X va)), .second, .val (.double (own_X vb)), .second, .val (.double (own_X vc)), .second, .val (.double (FP.dmul (own_X va) (own_X vb))), .second, .val (.double (FP.dmul (own_X vb) (own_X va))), .second, .val (.double (FP.dmul (FP.dmul (own_X va) (own_X vb)) (own_X vc))), .second, .val (.double (own_X vs)), .second, .val (.long (((vs + (1 : Int64)) * (vs + (2 : Int64))) / (2 : Int64))), .second, .val (.int (1 : Int32))] [])) _
    refine XS.iload X104.here hx rfl (hb hby at_245) rfl ?_
    show Steps p.tables e below (T104.setTop (mkF m 247 #[.val (.long i0), .second, .val (.long i1), .second, .val (.long i2), .second, .val (.int i3), .val (.long va), .second, .val (.long vb), .second, .val (.long vc), .second, .val (.long vs), .second, .val (.double FP.dconst1), .second, .val (.double (own_X va)), .second, .val (.double (own_X vb)), .second, .val (.double (own_X vc)), .second, .val (.double (FP.dmul (own_X va) (own_X vb))), .second, .val (.double (FP.dmul (own_X vb) (own_X va))), .second, .val (.double (FP.dmul (FP.dmul (own_X va) (own_X vb)) (own_X vc))), .second, .val (.double (own_X vs)), .second, .val (.long (((vs + (1 : Int64)) * (vs + (2 : Int64))) / (2 : Int64))), .second, .val (.int (1 : Int32))] [(.int (1 : Int32))])) _
    refine XS.ifNo X104.here hx rfl (hb hby at_247) rfl ((if0 _ _).trans (feq (by decide : ¬ ((1 : Int32) = (0 : Int32)))).1) ?_
    show Steps p.tables e below (T104.setTop (mkF m 250 #[.val (.long i0), .second, .val (.long i1), .second, .val (.long i2), .second, .val (.int i3), .val (.long va), .second, .val (.long vb), .second, .val (.long vc), .second, .val (.long vs), .second, .val (.double FP.dconst1), .second, .val (.double (own_X va)), .second, .val (.double (own_X vb)), .second, .val (.double (own_X vc)), .second, .val (.double (FP.dmul (own_X va) (own_X vb))), .second, .val (.double (FP.dmul (own_X vb) (own_X va))), .second, .val (.double (FP.dmul (FP.dmul (own_X va) (own_X vb)) (own_X vc))), .second, .val (.double (own_X vs)), .second, .val (.long (((vs + (1 : Int64)) * (vs + (2 : Int64))) / (2 : Int64))), .second, .val (.int (1 : Int32))] [])) _
    refine XS.dload X104.here hx rfl (hb hby at_250) rfl ?_
    show Steps p.tables e below (T104.setTop (mkF m 252 #[.val (.long i0), .second, .val (.long i1), .second, .val (.long i2), .second, .val (.int i3), .val (.long va), .second, .val (.long vb), .second, .val (.long vc), .second, .val (.long vs), .second, .val (.double FP.dconst1), .second, .val (.double (own_X va)), .second, .val (.double (own_X vb)), .second, .val (.double (own_X vc)), .second, .val (.double (FP.dmul (own_X va) (own_X vb))), .second, .val (.double (FP.dmul (own_X vb) (own_X va))), .second, .val (.double (FP.dmul (FP.dmul (own_X va) (own_X vb)) (own_X vc))), .second, .val (.double (own_X vs)), .second, .val (.long (((vs + (1 : Int64)) * (vs + (2 : Int64))) / (2 : Int64))), .second, .val (.int (1 : Int32))] [(.double (FP.dmul (FP.dmul (own_X va) (own_X vb)) (own_X vc)))])) _
    refine XS.dload X104.here hx rfl (hb hby at_252) rfl ?_
    show Steps p.tables e below (T104.setTop (mkF m 254 #[.val (.long i0), .second, .val (.long i1), .second, .val (.long i2), .second, .val (.int i3), .val (.long va), .second, .val (.long vb), .second, .val (.long vc), .second, .val (.long vs), .second, .val (.double FP.dconst1), .second, .val (.double (own_X va)), .second, .val (.double (own_X vb)), .second, .val (.double (own_X vc)), .second, .val (.double (FP.dmul (own_X va) (own_X vb))), .second, .val (.double (FP.dmul (own_X vb) (own_X va))), .second, .val (.double (FP.dmul (FP.dmul (own_X va) (own_X vb)) (own_X vc))), .second, .val (.double (own_X vs)), .second, .val (.long (((vs + (1 : Int64)) * (vs + (2 : Int64))) / (2 : Int64))), .second, .val (.int (1 : Int32))] [(.double (FP.dmul (own_X va) (own_X vb))), (.double (FP.dmul (FP.dmul (own_X va) (own_X vb)) (own_X vc)))])) _
    refine XS.dload X104.here hx rfl (hb hby at_254) rfl ?_
    show Steps p.tables e below (T104.setTop (mkF m 256 #[.val (.long i0), .second, .val (.long i1), .second, .val (.long i2), .second, .val (.int i3), .val (.long va), .second, .val (.long vb), .second, .val (.long vc), .second, .val (.long vs), .second, .val (.double FP.dconst1), .second, .val (.double (own_X va)), .second, .val (.double (own_X vb)), .second, .val (.double (own_X vc)), .second, .val (.double (FP.dmul (own_X va) (own_X vb))), .second, .val (.double (FP.dmul (own_X vb) (own_X va))), .second, .val (.double (FP.dmul (FP.dmul (own_X va) (own_X vb)) (own_X vc))), .second, .val (.double (own_X vs)), .second, .val (.long (((vs + (1 : Int64)) * (vs + (2 : Int64))) / (2 : Int64))), .second, .val (.int (1 : Int32))] [(.double (own_X vc)), (.double (FP.dmul (own_X va) (own_X vb))), (.double (FP.dmul (FP.dmul (own_X va) (own_X vb)) (own_X vc)))])) _
    refine XS.dmulS X104.here hx rfl (hb hby at_256) rfl n3 (v := (FP.dmul (FP.dmul (own_X va) (own_X vb)) (own_X vc))) rfl ?_
    show Steps p.tables e below (T104.setTop (mkF m 257 #[.val (.long i0), .second, .val (.long i1), .second, .val (.long i2), .second, .val (.int i3), .val (.long va), .second, .val (.long vb), .second, .val (.long vc), .second, .val (.long vs), .second, .val (.double FP.dconst1), .second, .val (.double (own_X va)), .second, .val (.double (own_X vb)), .second, .val (.double (own_X vc)), .second, .val (.double (FP.dmul (own_X va) (own_X vb))), .second, .val (.double (FP.dmul (own_X vb) (own_X va))), .second, .val (.double (FP.dmul (FP.dmul (own_X va) (own_X vb)) (own_X vc))), .second, .val (.double (own_X vs)), .second, .val (.long (((vs + (1 : Int64)) * (vs + (2 : Int64))) / (2 : Int64))), .second, .val (.int (1 : Int32))] [(.double (FP.dmul (FP.dmul (own_X va) (own_X vb)) (own_X vc))), (.double (FP.dmul (FP.dmul (own_X va) (own_X vb)) (own_X vc)))])) _
    refine XS.dcmpS X104.here hx rfl (hb hby at_257) rfl (v := (cmpValue (FP.dcmp (FP.dmul (FP.dmul (own_X va) (own_X vb)) (own_X vc)) (FP.dmul (FP.dmul (own_X va) (own_X vb)) (own_X vc))) .l)) rfl ?_
    show Steps p.tables e below (T104.setTop (mkF m 258 #[.val (.long i0), .second, .val (.long i1), .second, .val (.long i2), .second, .val (.int i3), .val (.long va), .second, .val (.long vb), .second, .val (.long vc), .second, .val (.long vs), .second, .val (.double FP.dconst1), .second, .val (.double (own_X va)), .second, .val (.double (own_X vb)), .second, .val (.double (own_X vc)), .second, .val (.double (FP.dmul (own_X va) (own_X vb))), .second, .val (.double (FP.dmul (own_X vb) (own_X va))), .second, .val (.double (FP.dmul (FP.dmul (own_X va) (own_X vb)) (own_X vc))), .second, .val (.double (own_X vs)), .second, .val (.long (((vs + (1 : Int64)) * (vs + (2 : Int64))) / (2 : Int64))), .second, .val (.int (1 : Int32))] [(.int (cmpValue (FP.dcmp (FP.dmul (FP.dmul (own_X va) (own_X vb)) (own_X vc)) (FP.dmul (FP.dmul (own_X va) (own_X vb)) (own_X vc))) .l))])) _
    refine XS.ifNo X104.here hx rfl (hb hby at_258) rfl ((if0 _ _).trans (teq (k258 : (cmpValue (FP.dcmp (FP.dmul (FP.dmul (own_X va) (own_X vb)) (own_X vc)) (FP.dmul (FP.dmul (own_X va) (own_X vb)) (own_X vc))) .l) = (0 : Int32))).2) ?_
    show Steps p.tables e below (T104.setTop (mkF m 261 #[.val (.long i0), .second, .val (.long i1), .second, .val (.long i2), .second, .val (.int i3), .val (.long va), .second, .val (.long vb), .second, .val (.long vc), .second, .val (.long vs), .second, .val (.double FP.dconst1), .second, .val (.double (own_X va)), .second, .val (.double (own_X vb)), .second, .val (.double (own_X vc)), .second, .val (.double (FP.dmul (own_X va) (own_X vb))), .second, .val (.double (FP.dmul (own_X vb) (own_X va))), .second, .val (.double (FP.dmul (FP.dmul (own_X va) (own_X vb)) (own_X vc))), .second, .val (.double (own_X vs)), .second, .val (.long (((vs + (1 : Int64)) * (vs + (2 : Int64))) / (2 : Int64))), .second, .val (.int (1 : Int32))] [])) _
    refine XS.iconst X104.here hx rfl (hb hby at_261) ?_
    show Steps p.tables e below (T104.setTop (mkF m 262 #[.val (.long i0), .second, .val (.long i1), .second, .val (.long i2), .second, .val (.int i3), .val (.long va), .second, .val (.long vb), .second, .val (.long vc), .second, .val (.long vs), .second, .val (.double FP.dconst1), .second, .val (.double (own_X va)), .second, .val (.double (own_X vb)), .second, .val (.double (own_X vc)), .second, .val (.double (FP.dmul (own_X va) (own_X vb))), .second, .val (.double (FP.dmul (own_X vb) (own_X va))), .second, .val (.double (FP.dmul (FP.dmul (own_X va) (own_X vb)) (own_X vc))), .second, .val (.double (own_X vs)), .second, .val (.long (((vs + (1 : Int64)) * (vs + (2 : Int64))) / (2 : Int64))), .second, .val (.int (1 : Int32))] [(.int (1 : Int32))])) _
    refine XS.goto X104.here hx rfl (pc0 := 262) (pc' := 266) rfl (hb hby at_262) (by decide) (by decide) ?_
    show Steps p.tables e below (T104.setTop (mkF m 266 #[.val (.long i0), .second, .val (.long i1), .second, .val (.long i2), .second, .val (.int i3), .val (.long va), .second, .val (.long vb), .second, .val (.long vc), .second, .val (.long vs), .second, .val (.double FP.dconst1), .second, .val (.double (own_X va)), .second, .val (.double (own_X vb)), .second, .val (.double (own_X vc)), .second, .val (.double (FP.dmul (own_X va) (own_X vb))), .second, .val (.double (FP.dmul (own_X vb) (own_X va))), .second, .val (.double (FP.dmul (FP.dmul (own_X va) (own_X vb)) (own_X vc))), .second, .val (.double (own_X vs)), .second, .val (.long (((vs + (1 : Int64)) * (vs + (2 : Int64))) / (2 : Int64))), .second, .val (.int (1 : Int32))] [(.int (1 : Int32))])) _
    refine XS.istore X104.here hx rfl (hb hby at_266) rfl (l' := #[.val (.long i0), .second, .val (.long i1), .second, .val (.long i2), .second, .val (.int i3), .val (.long va), .second, .val (.long vb), .second, .val (.long vc), .second, .val (.long vs), .second, .val (.double FP.dconst1), .second, .val (.double (own_X va)), .second, .val (.double (own_X vb)), .second, .val (.double (own_X vc)), .second, .val (.double (FP.dmul (own_X va) (own_X vb))), .second, .val (.double (FP.dmul (own_X vb) (own_X va))), .second, .val (.double (FP.dmul (FP.dmul (own_X va) (own_X vb)) (own_X vc))), .second, .val (.double (own_X vs)), .second, .val (.long (((vs + (1 : Int64)) * (vs + (2 : Int64))) / (2 : Int64))), .second, .val (.int (1 : Int32))]) rfl ?_
    show Steps p.tables e below (T104.setTop (mkF m 268 #[.val (.long i0), .second, .val (.long i1), .second, .val (.long i2), .second, .val (.int i3), .val (.long va), .second, .val (.long vb), .second, .val (.long vc), .second, .val (.long vs), .second, .val (.double FP.dconst1), .second, .val (.double (own_X va)), .second, .val (.double (own_X vb)), .second, .val (.double (own_X vc)), .second, .val (.double (FP.dmul (own_X va) (own_X vb))), .second, .val (.double (FP.dmul (own_X vb) (own_X va))), .second, .val (.double (FP.dmul (FP.dmul (own_X va) (own_X vb)) (own_X vc))), .second, .val (.double (own_X vs)), .second, .val (.long (((vs + (1 : Int64)) * (vs + (2 : Int64))) / (2 : Int64))), .second, .val (.int (1 : Int32))] [])) _
    refine XS.iload X104.here hx rfl (hb hby at_268) rfl ?_
    show Steps p.tables e below (T104.setTop (mkF m 270 #[.val (.long i0), .second, .val (.long i1), .second, .val (.long i2), .second, .val (.int i3), .val (.long va), .second, .val (.long vb), .second, .val (.long vc), .second, .val (.long vs), .second, .val (.double FP.dconst1), .second, .val (.double (own_X va)), .second, .val (.double (own_X vb)), .second, .val (.double (own_X vc)), .second, .val (.double (FP.dmul (own_X va) (own_X vb))), .second, .val (.double (FP.dmul (own_X vb) (own_X va))), .second, .val (.double (FP.dmul (FP.dmul (own_X va) (own_X vb)) (own_X vc))), .second, .val (.double (own_X vs)), .second, .val (.long (((vs + (1 : Int64)) * (vs + (2 : Int64))) / (2 : Int64))), .second, .val (.int (1 : Int32))] [(.int (1 : Int32))])) _
    refine XS.ifNo X104.here hx rfl (hb hby at_270) rfl ((if0 _ _).trans (feq (by decide : ¬ ((1 : Int32) = (0 : Int32)))).1) ?_
    show Steps p.tables e below (T104.setTop (mkF m 273 #[.val (.long i0), .second, .val (.long i1), .second, .val (.long i2), .second, .val (.int i3), .val (.long va), .second, .val (.long vb), .second, .val (.long vc), .second, .val (.long vs), .second, .val (.double FP.dconst1), .second, .val (.double (own_X va)), .second, .val (.double (own_X vb)), .second, .val (.double (own_X vc)), .second, .val (.double (FP.dmul (own_X va) (own_X vb))), .second, .val (.double (FP.dmul (own_X vb) (own_X va))), .second, .val (.double (FP.dmul (FP.dmul (own_X va) (own_X vb)) (own_X vc))), .second, .val (.double (own_X vs)), .second, .val (.long (((vs + (1 : Int64)) * (vs + (2 : Int64))) / (2 : Int64))), .second, .val (.int (1 : Int32))] [])) _
    refine XS.dload X104.here hx rfl (hb hby at_273) rfl ?_
    show Steps p.tables e below (T104.setTop (mkF m 275 #[.val (.long i0), .second, .val (.long i1), .second, .val (.long i2), .second, .val (.int i3), .val (.long va), .second, .val (.long vb), .second, .val (.long vc), .second, .val (.long vs), .second, .val (.double FP.dconst1), .second, .val (.double (own_X va)), .second, .val (.double (own_X vb)), .second, .val (.double (own_X vc)), .second, .val (.double (FP.dmul (own_X va) (own_X vb))), .second, .val (.double (FP.dmul (own_X vb) (own_X va))), .second, .val (.double (FP.dmul (FP.dmul (own_X va) (own_X vb)) (own_X vc))), .second, .val (.double (own_X vs)), .second, .val (.long (((vs + (1 : Int64)) * (vs + (2 : Int64))) / (2 : Int64))), .second, .val (.int (1 : Int32))] [(.double (own_X va))])) _
    refine XS.dconst1 X104.here hx rfl (hb hby at_275) (v := (FP.dconst1)) rfl ?_
    show Steps p.tables e below (T104.setTop (mkF m 276 #[.val (.long i0), .second, .val (.long i1), .second, .val (.long i2), .second, .val (.int i3), .val (.long va), .second, .val (.long vb), .second, .val (.long vc), .second, .val (.long vs), .second, .val (.double FP.dconst1), .second, .val (.double (own_X va)), .second, .val (.double (own_X vb)), .second, .val (.double (own_X vc)), .second, .val (.double (FP.dmul (own_X va) (own_X vb))), .second, .val (.double (FP.dmul (own_X vb) (own_X va))), .second, .val (.double (FP.dmul (FP.dmul (own_X va) (own_X vb)) (own_X vc))), .second, .val (.double (own_X vs)), .second, .val (.long (((vs + (1 : Int64)) * (vs + (2 : Int64))) / (2 : Int64))), .second, .val (.int (1 : Int32))] [(.double (FP.dconst1)), (.double (own_X va))])) _
    refine XS.dcmpS X104.here hx rfl (hb hby at_276) rfl (v := (cmpValue (FP.dcmp (own_X va) (FP.dconst1)) .l)) rfl ?_
    show Steps p.tables e below (T104.setTop (mkF m 277 #[.val (.long i0), .second, .val (.long i1), .second, .val (.long i2), .second, .val (.int i3), .val (.long va), .second, .val (.long vb), .second, .val (.long vc), .second, .val (.long vs), .second, .val (.double FP.dconst1), .second, .val (.double (own_X va)), .second, .val (.double (own_X vb)), .second, .val (.double (own_X vc)), .second, .val (.double (FP.dmul (own_X va) (own_X vb))), .second, .val (.double (FP.dmul (own_X vb) (own_X va))), .second, .val (.double (FP.dmul (FP.dmul (own_X va) (own_X vb)) (own_X vc))), .second, .val (.double (own_X vs)), .second, .val (.long (((vs + (1 : Int64)) * (vs + (2 : Int64))) / (2 : Int64))), .second, .val (.int (1 : Int32))] [(.int (cmpValue (FP.dcmp (own_X va) (FP.dconst1)) .l))])) _
    refine XS.ifNo X104.here hx rfl (hb hby at_277) rfl ((if0 _ _).trans (flt (k277 : ¬ ((cmpValue (FP.dcmp (own_X va) (FP.dconst1)) .l) < (0 : Int32)))).1) ?_
    show Steps p.tables e below (T104.setTop (mkF m 280 #[.val (.long i0), .second, .val (.long i1), .second, .val (.long i2), .second, .val (.int i3), .val (.long va), .second, .val (.long vb), .second, .val (.long vc), .second, .val (.long vs), .second, .val (.double FP.dconst1), .second, .val (.double (own_X va)), .second, .val (.double (own_X vb)), .second, .val (.double (own_X vc)), .second, .val (.double (FP.dmul (own_X va) (own_X vb))), .second, .val (.double (FP.dmul (own_X vb) (own_X va))), .second, .val (.double (FP.dmul (FP.dmul (own_X va) (own_X vb)) (own_X vc))), .second, .val (.double (own_X vs)), .second, .val (.long (((vs + (1 : Int64)) * (vs + (2 : Int64))) / (2 : Int64))), .second, .val (.int (1 : Int32))] [])) _
    refine XS.dload X104.here hx rfl (hb hby at_280) rfl ?_
    show Steps p.tables e below (T104.setTop (mkF m 282 #[.val (.long i0), .second, .val (.long i1), .second, .val (.long i2), .second, .val (.int i3), .val (.long va), .second, .val (.long vb), .second, .val (.long vc), .second, .val (.long vs), .second, .val (.double FP.dconst1), .second, .val (.double (own_X va)), .second, .val (.double (own_X vb)), .second, .val (.double (own_X vc)), .second, .val (.double (FP.dmul (own_X va) (own_X vb))), .second, .val (.double (FP.dmul (own_X vb) (own_X va))), .second, .val (.double (FP.dmul (FP.dmul (own_X va) (own_X vb)) (own_X vc))), .second, .val (.double (own_X vs)), .second, .val (.long (((vs + (1 : Int64)) * (vs + (2 : Int64))) / (2 : Int64))), .second, .val (.int (1 : Int32))] [(.double (own_X vb))])) _
    refine XS.dconst1 X104.here hx rfl (hb hby at_282) (v := (FP.dconst1)) rfl ?_
    show Steps p.tables e below (T104.setTop (mkF m 283 #[.val (.long i0), .second, .val (.long i1), .second, .val (.long i2), .second, .val (.int i3), .val (.long va), .second, .val (.long vb), .second, .val (.long vc), .second, .val (.long vs), .second, .val (.double FP.dconst1), .second, .val (.double (own_X va)), .second, .val (.double (own_X vb)), .second, .val (.double (own_X vc)), .second, .val (.double (FP.dmul (own_X va) (own_X vb))), .second, .val (.double (FP.dmul (own_X vb) (own_X va))), .second, .val (.double (FP.dmul (FP.dmul (own_X va) (own_X vb)) (own_X vc))), .second, .val (.double (own_X vs)), .second, .val (.long (((vs + (1 : Int64)) * (vs + (2 : Int64))) / (2 : Int64))), .second, .val (.int (1 : Int32))] [(.double (FP.dconst1)), (.double (own_X vb))])) _
    refine XS.dcmpS X104.here hx rfl (hb hby at_283) rfl (v := (cmpValue (FP.dcmp (own_X vb) (FP.dconst1)) .l)) rfl ?_
    show Steps p.tables e below (T104.setTop (mkF m 284 #[.val (.long i0), .second, .val (.long i1), .second, .val (.long i2), .second, .val (.int i3), .val (.long va), .second, .val (.long vb), .second, .val (.long vc), .second, .val (.long vs), .second, .val (.double FP.dconst1), .second, .val (.double (own_X va)), .second, .val (.double (own_X vb)), .second, .val (.double (own_X vc)), .second, .val (.double (FP.dmul (own_X va) (own_X vb))), .second, .val (.double (FP.dmul (own_X vb) (own_X va))), .second, .val (.double (FP.dmul (FP.dmul (own_X va) (own_X vb)) (own_X vc))), .second, .val (.double (own_X vs)), .second, .val (.long (((vs + (1 : Int64)) * (vs + (2 : Int64))) / (2 : Int64))), .second, .val (.int (1 : Int32))] [(.int (cmpValue (FP.dcmp (own_X vb) (FP.dconst1)) .l))])) _
    refine XS.ifNo X104.here hx rfl (hb hby at_284) rfl ((if0 _ _).trans (flt (k284 : ¬ ((cmpValue (FP.dcmp (own_X vb) (FP.dconst1)) .l) < (0 : Int32)))).1) ?_
    show Steps p.tables e below (T104.setTop (mkF m 287 #[.val (.long i0), .second, .val (.long i1), .second, .val (.long i2), .second, .val (.int i3), .val (.long va), .second, .val (.long vb), .second, .val (.long vc), .second, .val (.long vs), .second, .val (.double FP.dconst1), .second, .val (.double (own_X va)), .second, .val (.double (own_X vb)), .second, .val (.double (own_X vc)), .second, .val (.double (FP.dmul (own_X va) (own_X vb))), .second, .val (.double (FP.dmul (own_X vb) (own_X va))), .second, .val (.double (FP.dmul (FP.dmul (own_X va) (own_X vb)) (own_X vc))), .second, .val (.double (own_X vs)), .second, .val (.long (((vs + (1 : Int64)) * (vs + (2 : Int64))) / (2 : Int64))), .second, .val (.int (1 : Int32))] [])) _
    refine XS.dload X104.here hx rfl (hb hby at_287) rfl ?_
    show Steps p.tables e below (T104.setTop (mkF m 289 #[.val (.long i0), .second, .val (.long i1), .second, .val (.long i2), .second, .val (.int i3), .val (.long va), .second, .val (.long vb), .second, .val (.long vc), .second, .val (.long vs), .second, .val (.double FP.dconst1), .second, .val (.double (own_X va)), .second, .val (.double (own_X vb)), .second, .val (.double (own_X vc)), .second, .val (.double (FP.dmul (own_X va) (own_X vb))), .second, .val (.double (FP.dmul (own_X vb) (own_X va))), .second, .val (.double (FP.dmul (FP.dmul (own_X va) (own_X vb)) (own_X vc))), .second, .val (.double (own_X vs)), .second, .val (.long (((vs + (1 : Int64)) * (vs + (2 : Int64))) / (2 : Int64))), .second, .val (.int (1 : Int32))] [(.double (own_X vc))])) _
    refine XS.dconst1 X104.here hx rfl (hb hby at_289) (v := (FP.dconst1)) rfl ?_
    show Steps p.tables e below (T104.setTop (mkF m 290 #[.val (.long i0), .second, .val (.long i1), .second, .val (.long i2), .second, .val (.int i3), .val (.long va), .second, .val (.long vb), .second, .val (.long vc), .second, .val (.long vs), .second, .val (.double FP.dconst1), .second, .val (.double (own_X va)), .second, .val (.double (own_X vb)), .second, .val (.double (own_X vc)), .second, .val (.double (FP.dmul (own_X va) (own_X vb))), .second, .val (.double (FP.dmul (own_X vb) (own_X va))), .second, .val (.double (FP.dmul (FP.dmul (own_X va) (own_X vb)) (own_X vc))), .second, .val (.double (own_X vs)), .second, .val (.long (((vs + (1 : Int64)) * (vs + (2 : Int64))) / (2 : Int64))), .second, .val (.int (1 : Int32))] [(.double (FP.dconst1)), (.double (own_X vc))])) _
    refine XS.dcmpS X104.here hx rfl (hb hby at_290) rfl (v := (cmpValue (FP.dcmp (own_X vc) (FP.dconst1)) .l)) rfl ?_
    show Steps p.tables e below (T104.setTop (mkF m 291 #[.val (.long i0), .second, .val (.long i1), .second, .val (.long i2), .second, .val (.int i3), .val (.long va), .second, .val (.long vb), .second, .val (.long vc), .second, .val (.long vs), .second, .val (.double FP.dconst1), .second, .val (.double (own_X va)), .second, .val (.double (own_X vb)), .second, .val (.double (own_X vc)), .second, .val (.double (FP.dmul (own_X va) (own_X vb))), .second, .val (.double (FP.dmul (own_X vb) (own_X va))), .second, .val (.double (FP.dmul (FP.dmul (own_X va) (own_X vb)) (own_X vc))), .second, .val (.double (own_X vs)), .second, .val (.long (((vs + (1 : Int64)) * (vs + (2 : Int64))) / (2 : Int64))), .second, .val (.int (1 : Int32))] [(.int (cmpValue (FP.dcmp (own_X vc) (FP.dconst1)) .l))])) _
    refine XS.ifNo X104.here hx rfl (hb hby at_291) rfl ((if0 _ _).trans (flt (k291 : ¬ ((cmpValue (FP.dcmp (own_X vc) (FP.dconst1)) .l) < (0 : Int32)))).1) ?_
    show Steps p.tables e below (T104.setTop (mkF m 294 #[.val (.long i0), .second, .val (.long i1), .second, .val (.long i2), .second, .val (.int i3), .val (.long va), .second, .val (.long vb), .second, .val (.long vc), .second, .val (.long vs), .second, .val (.double FP.dconst1), .second, .val (.double (own_X va)), .second, .val (.double (own_X vb)), .second, .val (.double (own_X vc)), .second, .val (.double (FP.dmul (own_X va) (own_X vb))), .second, .val (.double (FP.dmul (own_X vb) (own_X va))), .second, .val (.double (FP.dmul (FP.dmul (own_X va) (own_X vb)) (own_X vc))), .second, .val (.double (own_X vs)), .second, .val (.long (((vs + (1 : Int64)) * (vs + (2 : Int64))) / (2 : Int64))), .second, .val (.int (1 : Int32))] [])) _
    refine XS.iconst X104.here hx rfl (hb hby at_294) ?_
    show Steps p.tables e below (T104.setTop (mkF m 295 #[.val (.long i0), .second, .val (.long i1), .second, .val (.long i2), .second, .val (.int i3), .val (.long va), .second, .val (.long vb), .second, .val (.long vc), .second, .val (.long vs), .second, .val (.double FP.dconst1), .second, .val (.double (own_X va)), .second, .val (.double (own_X vb)), .second, .val (.double (own_X vc)), .second, .val (.double (FP.dmul (own_X va) (own_X vb))), .second, .val (.double (FP.dmul (own_X vb) (own_X va))), .second, .val (.double (FP.dmul (FP.dmul (own_X va) (own_X vb)) (own_X vc))), .second, .val (.double (own_X vs)), .second, .val (.long (((vs + (1 : Int64)) * (vs + (2 : Int64))) / (2 : Int64))), .second, .val (.int (1 : Int32))] [(.int (1 : Int32))])) _
    refine XS.goto X104.here hx rfl (pc0 := 295) (pc' := 299) rfl (hb hby at_295) (by decide) (by decide) ?_
    show Steps p.tables e below (T104.setTop (mkF m 299 #[.val (.long i0), .second, .val (.long i1), .second, .val (.long i2), .second, .val (.int i3), .val (.long va), .second, .val (.long vb), .second, .val (.long vc), .second, .val (.long vs), .second, .val (.double FP.dconst1), .second, .val (.double (own_X va)), .second, .val (.double (own_X vb)), .second, .val (.double (own_X vc)), .second, .val (.double (FP.dmul (own_X va) (own_X vb))), .second, .val (.double (FP.dmul (own_X vb) (own_X va))), .second, .val (.double (FP.dmul (FP.dmul (own_X va) (own_X vb)) (own_X vc))), .second, .val (.double (own_X vs)), .second, .val (.long (((vs + (1 : Int64)) * (vs + (2 : Int64))) / (2 : Int64))), .second, .val (.int (1 : Int32))] [(.int (1 : Int32))])) _
    refine XS.istore X104.here hx rfl (hb hby at_299) rfl (l' := #[.val (.long i0), .second, .val (.long i1), .second, .val (.long i2), .second, .val (.int i3), .val (.long va), .second, .val (.long vb), .second, .val (.long vc), .second, .val (.long vs), .second, .val (.double FP.dconst1), .second, .val (.double (own_X va)), .second, .val (.double (own_X vb)), .second, .val (.double (own_X vc)), .second, .val (.double (FP.dmul (own_X va) (own_X vb))), .second, .val (.double (FP.dmul (own_X vb) (own_X va))), .second, .val (.double (FP.dmul (FP.dmul (own_X va) (own_X vb)) (own_X vc))), .second, .val (.double (own_X vs)), .second, .val (.long (((vs + (1 : Int64)) * (vs + (2 : Int64))) / (2 : Int64))), .second, .val (.int (1 : Int32))]) rfl ?_
    exact kt
  have sg107 : ∀ t, Steps p.tables e below (T104.setTop (mkF m 306 #[.val (.long i0), .second, .val (.long i1), .second, .val (.long i2), .second, .val (.int i3), .val (.long va), .second, .val (.long vb), .second, .val (.long vc), .second, .val (.long vs), .second, .val (.double FP.dconst1), .second, .val (.double (own_X va)), .second, .val (.double (own_X vb)), .second, .val (.double (own_X vc)), .second, .val (.double (FP.dmul (own_X va) (own_X vb))), .second, .val (.double (FP.dmul (own_X vb) (own_X va))), .second, .val (.double (FP.dmul (FP.dmul (own_X va) (own_X vb)) (own_X vc))), .second, .val (.double (own_X vs)), .second, .val (.long (((vs + (1 : Int64)) * (vs + (2 : Int64))) / (2 : Int64))), .second, .val (.int (1 : Int32))] [(.int (lcmpW va vb))])) t → Steps p.tables e below (T104.setTop (mkF m 301 #[.val (.long i0), .second, .val (.long i1), .second, .val (.long i2), .second, .val (.int i3), .val (.long va), .second, .val (.long vb), .second, .val (.long vc), .second, .val (.long vs), .second, .val (.double FP.dconst1), .second, .val (.double (own_X va)), .second, .val (.double (own_X vb)), .second, .val (.double (own_X vc)), .second, .val (.double (FP.dmul (own_X va) (own_X vb))), .second, .val (.double (FP.dmul (own_X vb) (own_X va))), .second, .val (.double (FP.dmul (FP.dmul (own_X va) (own_X vb)) (own_X vc))), .second, .val (.double (own_X vs)), .second, .val (.long (((vs + (1 : Int64)) * (vs + (2 : Int64))) / (2 : Int64))), .second, .val (.int (1 : Int32))] [])) t := by
    intro t kt
    refine XS.lload X104.here hx rfl (hb hby at_301) rfl ?_
    show Steps p.tables e below (T104.setTop (mkF m 303 #[.val (.long i0), .second, .val (.long i1), .second, .val (.long i2), .second, .val (.int i3), .val (.long va), .second, .val (.long vb), .second, .val (.long vc), .second, .val (.long vs), .second, .val (.double FP.dconst1), .second, .val (.double (own_X va)), .second, .val (.double (own_X vb)), .second, .val (.double (own_X vc)), .second, .val (.double (FP.dmul (own_X va) (own_X vb))), .second, .val (.double (FP.dmul (own_X vb) (own_X va))), .second, .val (.double (FP.dmul (FP.dmul (own_X va) (own_X vb)) (own_X vc))), .second, .val (.double (own_X vs)), .second, .val (.long (((vs + (1 : Int64)) * (vs + (2 : Int64))) / (2 : Int64))), .second, .val (.int (1 : Int32))] [(.long va)])) _
    refine XS.lload X104.here hx rfl (hb hby at_303) rfl ?_
    show Steps p.tables e below (T104.setTop (mkF m 305 #[.val (.long i0), .second, .val (.long i1), .second, .val (.long i2), .second, .val (.int i3), .val (.long va), .second, .val (.long vb), .second, .val (.long vc), .second, .val (.long vs), .second, .val (.double FP.dconst1), .second, .val (.double (own_X va)), .second, .val (.double (own_X vb)), .second, .val (.double (own_X vc)), .second, .val (.double (FP.dmul (own_X va) (own_X vb))), .second, .val (.double (FP.dmul (own_X vb) (own_X va))), .second, .val (.double (FP.dmul (FP.dmul (own_X va) (own_X vb)) (own_X vc))), .second, .val (.double (own_X vs)), .second, .val (.long (((vs + (1 : Int64)) * (vs + (2 : Int64))) / (2 : Int64))), .second, .val (.int (1 : Int32))] [(.long vb), (.long va)])) _
    refine XS.lcmp X104.here hx rfl (hb hby at_305) rfl ?_
    exact kt
  by_cases c306 : 0 < lcmpW va vb
  · have hab := Int64.lt_iff_toInt_lt.mp ((lw_gt va vb).mp c306)
    have kle := own_Xle gvb (a := vb) (b := va) (by omega)
    have sg108 : ∀ t, Steps p.tables e below (T104.setTop (mkF m 354 #[.val (.long i0), .second, .val (.long i1), .second, .val (.long i2), .second, .val (.int i3), .val (.long va), .second, .val (.long vb), .second, .val (.long vc), .second, .val (.long vs), .second, .val (.double FP.dconst1), .second, .val (.double (own_X va)), .second, .val (.double (own_X vb)), .second, .val (.double (own_X vc)), .second, .val (.double (FP.dmul (own_X va) (own_X vb))), .second, .val (.double (FP.dmul (own_X vb) (own_X va))), .second, .val (.double (FP.dmul (FP.dmul (own_X va) (own_X vb)) (own_X vc))), .second, .val (.double (own_X vs)), .second, .val (.long (((vs + (1 : Int64)) * (vs + (2 : Int64))) / (2 : Int64))), .second, .val (.int (1 : Int32))] [(.int (1 : Int32))])) t → Steps p.tables e below (T104.setTop (mkF m 306 #[.val (.long i0), .second, .val (.long i1), .second, .val (.long i2), .second, .val (.int i3), .val (.long va), .second, .val (.long vb), .second, .val (.long vc), .second, .val (.long vs), .second, .val (.double FP.dconst1), .second, .val (.double (own_X va)), .second, .val (.double (own_X vb)), .second, .val (.double (own_X vc)), .second, .val (.double (FP.dmul (own_X va) (own_X vb))), .second, .val (.double (FP.dmul (own_X vb) (own_X va))), .second, .val (.double (FP.dmul (FP.dmul (own_X va) (own_X vb)) (own_X vc))), .second, .val (.double (own_X vs)), .second, .val (.long (((vs + (1 : Int64)) * (vs + (2 : Int64))) / (2 : Int64))), .second, .val (.int (1 : Int32))] [(.int (lcmpW va vb))])) t := by
      intro t kt
      refine XS.ifYes X104.here hx rfl (pc0 := 306) (pc' := 332) rfl (hb hby at_306) rfl ((if0 _ _).trans (tlt (c306 : (0 : Int32) < (lcmpW va vb))).2.2.1) (by decide) (by decide) ?_
      show Steps p.tables e below (T104.setTop (mkF m 332 #[.val (.long i0), .second, .val (.long i1), .second, .val (.long i2), .second, .val (.int i3), .val (.long va), .second, .val (.long vb), .second, .val (.long vc), .second, .val (.long vs), .second, .val (.double FP.dconst1), .second, .val (.double (own_X va)), .second, .val (.double (own_X vb)), .second, .val (.double (own_X vc)), .second, .val (.double (FP.dmul (own_X va) (own_X vb))), .second, .val (.double (FP.dmul (own_X vb) (own_X va))), .second, .val (.double (FP.dmul (FP.dmul (own_X va) (own_X vb)) (own_X vc))), .second, .val (.double (own_X vs)), .second, .val (.long (((vs + (1 : Int64)) * (vs + (2 : Int64))) / (2 : Int64))), .second, .val (.int (1 : Int32))] [])) _
      refine XS.iload X104.here hx rfl (hb hby at_332) rfl ?_
      show Steps p.tables e below (T104.setTop (mkF m 334 #[.val (.long i0), .second, .val (.long i1), .second, .val (.long i2), .second, .val (.int i3), .val (.long va), .second, .val (.long vb), .second, .val (.long vc), .second, .val (.long vs), .second, .val (.double FP.dconst1), .second, .val (.double (own_X va)), .second, .val (.double (own_X vb)), .second, .val (.double (own_X vc)), .second, .val (.double (FP.dmul (own_X va) (own_X vb))), .second, .val (.double (FP.dmul (own_X vb) (own_X va))), .second, .val (.double (FP.dmul (FP.dmul (own_X va) (own_X vb)) (own_X vc))), .second, .val (.double (own_X vs)), .second, .val (.long (((vs + (1 : Int64)) * (vs + (2 : Int64))) / (2 : Int64))), .second, .val (.int (1 : Int32))] [(.int (1 : Int32))])) _
      refine XS.ifNo X104.here hx rfl (hb hby at_334) rfl ((if0 _ _).trans (feq (by decide : ¬ ((1 : Int32) = (0 : Int32)))).1) ?_
      show Steps p.tables e below (T104.setTop (mkF m 337 #[.val (.long i0), .second, .val (.long i1), .second, .val (.long i2), .second, .val (.int i3), .val (.long va), .second, .val (.long vb), .second, .val (.long vc), .second, .val (.long vs), .second, .val (.double FP.dconst1), .second, .val (.double (own_X va)), .second, .val (.double (own_X vb)), .second, .val (.double (own_X vc)), .second, .val (.double (FP.dmul (own_X va) (own_X vb))), .second, .val (.double (FP.dmul (own_X vb) (own_X va))), .second, .val (.double (FP.dmul (FP.dmul (own_X va) (own_X vb)) (own_X vc))), .second, .val (.double (own_X vs)), .second, .val (.long (((vs + (1 : Int64)) * (vs + (2 : Int64))) / (2 : Int64))), .second, .val (.int (1 : Int32))] [])) _
      refine XS.dload X104.here hx rfl (hb hby at_337) rfl ?_
      show Steps p.tables e below (T104.setTop (mkF m 339 #[.val (.long i0), .second, .val (.long i1), .second, .val (.long i2), .second, .val (.int i3), .val (.long va), .second, .val (.long vb), .second, .val (.long vc), .second, .val (.long vs), .second, .val (.double FP.dconst1), .second, .val (.double (own_X va)), .second, .val (.double (own_X vb)), .second, .val (.double (own_X vc)), .second, .val (.double (FP.dmul (own_X va) (own_X vb))), .second, .val (.double (FP.dmul (own_X vb) (own_X va))), .second, .val (.double (FP.dmul (FP.dmul (own_X va) (own_X vb)) (own_X vc))), .second, .val (.double (own_X vs)), .second, .val (.long (((vs + (1 : Int64)) * (vs + (2 : Int64))) / (2 : Int64))), .second, .val (.int (1 : Int32))] [(.double (own_X vb))])) _
      refine XS.dload X104.here hx rfl (hb hby at_339) rfl ?_
      show Steps p.tables e below (T104.setTop (mkF m 341 #[.val (.long i0), .second, .val (.long i1), .second, .val (.long i2), .second, .val (.int i3), .val (.long va), .second, .val (.long vb), .second, .val (.long vc), .second, .val (.long vs), .second, .val (.double FP.dconst1), .second, .val (.double (own_X va)), .second, .val (.double (own_X vb)), .second, .val (.double (own_X vc)), .second, .val (.double (FP.dmul (own_X va) (own_X vb))), .second, .val (.double (FP.dmul (own_X vb) (own_X va))), .second, .val (.double (FP.dmul (FP.dmul (own_X va) (own_X vb)) (own_X vc))), .second, .val (.double (own_X vs)), .second, .val (.long (((vs + (1 : Int64)) * (vs + (2 : Int64))) / (2 : Int64))), .second, .val (.int (1 : Int32))] [(.double (own_X va)), (.double (own_X vb))])) _
      refine XS.dcmpS X104.here hx rfl (hb hby at_341) rfl (v := (cmpValue (FP.dcmp (own_X vb) (own_X va)) .g)) rfl ?_
      show Steps p.tables e below (T104.setTop (mkF m 342 #[.val (.long i0), .second, .val (.long i1), .second, .val (.long i2), .second, .val (.int i3), .val (.long va), .second, .val (.long vb), .second, .val (.long vc), .second, .val (.long vs), .second, .val (.double FP.dconst1), .second, .val (.double (own_X va)), .second, .val (.double (own_X vb)), .second, .val (.double (own_X vc)), .second, .val (.double (FP.dmul (own_X va) (own_X vb))), .second, .val (.double (FP.dmul (own_X vb) (own_X va))), .second, .val (.double (FP.dmul (FP.dmul (own_X va) (own_X vb)) (own_X vc))), .second, .val (.double (own_X vs)), .second, .val (.long (((vs + (1 : Int64)) * (vs + (2 : Int64))) / (2 : Int64))), .second, .val (.int (1 : Int32))] [(.int (cmpValue (FP.dcmp (own_X vb) (own_X va)) .g))])) _
      refine XS.ifNo X104.here hx rfl (hb hby at_342) rfl ((if0 _ _).trans (flt (kle : ¬ ((0 : Int32) < (cmpValue (FP.dcmp (own_X vb) (own_X va)) .g)))).2.2.1) ?_
      show Steps p.tables e below (T104.setTop (mkF m 345 #[.val (.long i0), .second, .val (.long i1), .second, .val (.long i2), .second, .val (.int i3), .val (.long va), .second, .val (.long vb), .second, .val (.long vc), .second, .val (.long vs), .second, .val (.double FP.dconst1), .second, .val (.double (own_X va)), .second, .val (.double (own_X vb)), .second, .val (.double (own_X vc)), .second, .val (.double (FP.dmul (own_X va) (own_X vb))), .second, .val (.double (FP.dmul (own_X vb) (own_X va))), .second, .val (.double (FP.dmul (FP.dmul (own_X va) (own_X vb)) (own_X vc))), .second, .val (.double (own_X vs)), .second, .val (.long (((vs + (1 : Int64)) * (vs + (2 : Int64))) / (2 : Int64))), .second, .val (.int (1 : Int32))] [])) _
      refine XS.iconst X104.here hx rfl (hb hby at_345) ?_
      show Steps p.tables e below (T104.setTop (mkF m 346 #[.val (.long i0), .second, .val (.long i1), .second, .val (.long i2), .second, .val (.int i3), .val (.long va), .second, .val (.long vb), .second, .val (.long vc), .second, .val (.long vs), .second, .val (.double FP.dconst1), .second, .val (.double (own_X va)), .second, .val (.double (own_X vb)), .second, .val (.double (own_X vc)), .second, .val (.double (FP.dmul (own_X va) (own_X vb))), .second, .val (.double (FP.dmul (own_X vb) (own_X va))), .second, .val (.double (FP.dmul (FP.dmul (own_X va) (own_X vb)) (own_X vc))), .second, .val (.double (own_X vs)), .second, .val (.long (((vs + (1 : Int64)) * (vs + (2 : Int64))) / (2 : Int64))), .second, .val (.int (1 : Int32))] [(.int (1 : Int32))])) _
      refine XS.goto X104.here hx rfl (pc0 := 346) (pc' := 350) rfl (hb hby at_346) (by decide) (by decide) ?_
      show Steps p.tables e below (T104.setTop (mkF m 350 #[.val (.long i0), .second, .val (.long i1), .second, .val (.long i2), .second, .val (.int i3), .val (.long va), .second, .val (.long vb), .second, .val (.long vc), .second, .val (.long vs), .second, .val (.double FP.dconst1), .second, .val (.double (own_X va)), .second, .val (.double (own_X vb)), .second, .val (.double (own_X vc)), .second, .val (.double (FP.dmul (own_X va) (own_X vb))), .second, .val (.double (FP.dmul (own_X vb) (own_X va))), .second, .val (.double (FP.dmul (FP.dmul (own_X va) (own_X vb)) (own_X vc))), .second, .val (.double (own_X vs)), .second, .val (.long (((vs + (1 : Int64)) * (vs + (2 : Int64))) / (2 : Int64))), .second, .val (.int (1 : Int32))] [(.int (1 : Int32))])) _
      refine XS.istore X104.here hx rfl (hb hby at_350) rfl (l' := #[.val (.long i0), .second, .val (.long i1), .second, .val (.long i2), .second, .val (.int i3), .val (.long va), .second, .val (.long vb), .second, .val (.long vc), .second, .val (.long vs), .second, .val (.double FP.dconst1), .second, .val (.double (own_X va)), .second, .val (.double (own_X vb)), .second, .val (.double (own_X vc)), .second, .val (.double (FP.dmul (own_X va) (own_X vb))), .second, .val (.double (FP.dmul (own_X vb) (own_X va))), .second, .val (.double (FP.dmul (FP.dmul (own_X va) (own_X vb)) (own_X vc))), .second, .val (.double (own_X vs)), .second, .val (.long (((vs + (1 : Int64)) * (vs + (2 : Int64))) / (2 : Int64))), .second, .val (.int (1 : Int32))]) rfl ?_
      show Steps p.tables e below (T104.setTop (mkF m 352 #[.val (.long i0), .second, .val (.long i1), .second, .val (.long i2), .second, .val (.int i3), .val (.long va), .second, .val (.long vb), .second, .val (.long vc), .second, .val (.long vs), .second, .val (.double FP.dconst1), .second, .val (.double (own_X va)), .second, .val (.double (own_X vb)), .second, .val (.double (own_X vc)), .second, .val (.double (FP.dmul (own_X va) (own_X vb))), .second, .val (.double (FP.dmul (own_X vb) (own_X va))), .second, .val (.double (FP.dmul (FP.dmul (own_X va) (own_X vb)) (own_X vc))), .second, .val (.double (own_X vs)), .second, .val (.long (((vs + (1 : Int64)) * (vs + (2 : Int64))) / (2 : Int64))), .second, .val (.int (1 : Int32))] [])) _
      refine XS.iload X104.here hx rfl (hb hby at_352) rfl ?_
      exact kt
    obtain ⟨fs, hr, hrun, hended, hW, hsame⟩ := X104.leave (v := some (.int (1 : Int32))) (fun h => by rw [Bd.returns] at h; cases h)
    refine ⟨_, _, pre0 _ ?_, hrun, hended, _, _, rfl, ?_, ⟨_, rfl⟩, hW, hsame.mono (by decide) (by decide)⟩
    · refine sg1 _ ?_
      refine sg2 _ ?_
      refine st3 _ ?_
      refine st7 _ ?_
      refine sg8 _ ?_
      refine st9 _ ?_
      refine sg13 _ ?_
      refine st15 _ ?_
      refine st18 _ ?_
      refine sg19 _ ?_
      refine st20 _ ?_
      refine sg24 _ ?_
      refine st26 _ ?_
      refine st29 _ ?_
      refine sg30 _ ?_
      refine st31 _ ?_
      refine sg35 _ ?_
      refine st37 _ ?_
      refine st40 _ ?_
      refine sg41 _ ?_
      refine st42 _ ?_
      refine sg46 _ ?_
      refine st48 _ ?_
      refine sg51 _ ?_
      refine st53 _ ?_
      refine st56 _ ?_
      refine sg57 _ ?_
      refine st58 _ ?_
      refine sg62 _ ?_
      refine st64 _ ?_
      refine sg67 _ ?_
      refine st69 _ ?_
      refine st72 _ ?_
      refine sg73 _ ?_
      refine st74 _ ?_
      refine sg78 _ ?_
      refine st80 _ ?_
      refine sg83 _ ?_
      refine st85 _ ?_
      refine sg88 _ ?_
      refine st90 _ ?_
      refine st93 _ ?_
      refine sg94 _ ?_
      refine st95 _ ?_
      refine sg99 _ ?_
      refine st101 _ ?_
      refine st104 _ ?_
      refine sg105 _ ?_
      refine cvx _ ?_
      refine sg106 _ ?_
      refine sg107 _ ?_
      refine sg108 _ ?_
      exact retN X104 hx (t := .boolean) Bd.returns (by simp) (hb hby at_354) hr
    · show Q0 Z i0 i1 i2 i3 h0 n0 _ T104.heap _
      rw [eq104]; exact ⟨rfl, N104⟩
  · have hab : ¬ vb.toInt < va.toInt := fun q => c306 ((lw_gt va vb).mpr (Int64.lt_iff_toInt_lt.mpr q))
    have kle := own_Xle gva (a := va) (b := vb) (by omega)
    have sg108 : ∀ t, Steps p.tables e below (T104.setTop (mkF m 354 #[.val (.long i0), .second, .val (.long i1), .second, .val (.long i2), .second, .val (.int i3), .val (.long va), .second, .val (.long vb), .second, .val (.long vc), .second, .val (.long vs), .second, .val (.double FP.dconst1), .second, .val (.double (own_X va)), .second, .val (.double (own_X vb)), .second, .val (.double (own_X vc)), .second, .val (.double (FP.dmul (own_X va) (own_X vb))), .second, .val (.double (FP.dmul (own_X vb) (own_X va))), .second, .val (.double (FP.dmul (FP.dmul (own_X va) (own_X vb)) (own_X vc))), .second, .val (.double (own_X vs)), .second, .val (.long (((vs + (1 : Int64)) * (vs + (2 : Int64))) / (2 : Int64))), .second, .val (.int (1 : Int32))] [(.int (1 : Int32))])) t → Steps p.tables e below (T104.setTop (mkF m 306 #[.val (.long i0), .second, .val (.long i1), .second, .val (.long i2), .second, .val (.int i3), .val (.long va), .second, .val (.long vb), .second, .val (.long vc), .second, .val (.long vs), .second, .val (.double FP.dconst1), .second, .val (.double (own_X va)), .second, .val (.double (own_X vb)), .second, .val (.double (own_X vc)), .second, .val (.double (FP.dmul (own_X va) (own_X vb))), .second, .val (.double (FP.dmul (own_X vb) (own_X va))), .second, .val (.double (FP.dmul (FP.dmul (own_X va) (own_X vb)) (own_X vc))), .second, .val (.double (own_X vs)), .second, .val (.long (((vs + (1 : Int64)) * (vs + (2 : Int64))) / (2 : Int64))), .second, .val (.int (1 : Int32))] [(.int (lcmpW va vb))])) t := by
      intro t kt
      refine XS.ifNo X104.here hx rfl (hb hby at_306) rfl ((if0 _ _).trans (flt (c306 : ¬ ((0 : Int32) < (lcmpW va vb)))).2.2.1) ?_
      show Steps p.tables e below (T104.setTop (mkF m 309 #[.val (.long i0), .second, .val (.long i1), .second, .val (.long i2), .second, .val (.int i3), .val (.long va), .second, .val (.long vb), .second, .val (.long vc), .second, .val (.long vs), .second, .val (.double FP.dconst1), .second, .val (.double (own_X va)), .second, .val (.double (own_X vb)), .second, .val (.double (own_X vc)), .second, .val (.double (FP.dmul (own_X va) (own_X vb))), .second, .val (.double (FP.dmul (own_X vb) (own_X va))), .second, .val (.double (FP.dmul (FP.dmul (own_X va) (own_X vb)) (own_X vc))), .second, .val (.double (own_X vs)), .second, .val (.long (((vs + (1 : Int64)) * (vs + (2 : Int64))) / (2 : Int64))), .second, .val (.int (1 : Int32))] [])) _
      refine XS.iload X104.here hx rfl (hb hby at_309) rfl ?_
      show Steps p.tables e below (T104.setTop (mkF m 311 #[.val (.long i0), .second, .val (.long i1), .second, .val (.long i2), .second, .val (.int i3), .val (.long va), .second, .val (.long vb), .second, .val (.long vc), .second, .val (.long vs), .second, .val (.double FP.dconst1), .second, .val (.double (own_X va)), .second, .val (.double (own_X vb)), .second, .val (.double (own_X vc)), .second, .val (.double (FP.dmul (own_X va) (own_X vb))), .second, .val (.double (FP.dmul (own_X vb) (own_X va))), .second, .val (.double (FP.dmul (FP.dmul (own_X va) (own_X vb)) (own_X vc))), .second, .val (.double (own_X vs)), .second, .val (.long (((vs + (1 : Int64)) * (vs + (2 : Int64))) / (2 : Int64))), .second, .val (.int (1 : Int32))] [(.int (1 : Int32))])) _
      refine XS.ifNo X104.here hx rfl (hb hby at_311) rfl ((if0 _ _).trans (feq (by decide : ¬ ((1 : Int32) = (0 : Int32)))).1) ?_
      show Steps p.tables e below (T104.setTop (mkF m 314 #[.val (.long i0), .second, .val (.long i1), .second, .val (.long i2), .second, .val (.int i3), .val (.long va), .second, .val (.long vb), .second, .val (.long vc), .second, .val (.long vs), .second, .val (.double FP.dconst1), .second, .val (.double (own_X va)), .second, .val (.double (own_X vb)), .second, .val (.double (own_X vc)), .second, .val (.double (FP.dmul (own_X va) (own_X vb))), .second, .val (.double (FP.dmul (own_X vb) (own_X va))), .second, .val (.double (FP.dmul (FP.dmul (own_X va) (own_X vb)) (own_X vc))), .second, .val (.double (own_X vs)), .second, .val (.long (((vs + (1 : Int64)) * (vs + (2 : Int64))) / (2 : Int64))), .second, .val (.int (1 : Int32))] [])) _
      refine XS.dload X104.here hx rfl (hb hby at_314) rfl ?_
      show Steps p.tables e below (T104.setTop (mkF m 316 #[.val (.long i0), .second, .val (.long i1), .second, .val (.long i2), .second, .val (.int i3), .val (.long va), .second, .val (.long vb), .second, .val (.long vc), .second, .val (.long vs), .second, .val (.double FP.dconst1), .second, .val (.double (own_X va)), .second, .val (.double (own_X vb)), .second, .val (.double (own_X vc)), .second, .val (.double (FP.dmul (own_X va) (own_X vb))), .second, .val (.double (FP.dmul (own_X vb) (own_X va))), .second, .val (.double (FP.dmul (FP.dmul (own_X va) (own_X vb)) (own_X vc))), .second, .val (.double (own_X vs)), .second, .val (.long (((vs + (1 : Int64)) * (vs + (2 : Int64))) / (2 : Int64))), .second, .val (.int (1 : Int32))] [(.double (own_X va))])) _
      refine XS.dload X104.here hx rfl (hb hby at_316) rfl ?_
      show Steps p.tables e below (T104.setTop (mkF m 318 #[.val (.long i0), .second, .val (.long i1), .second, .val (.long i2), .second, .val (.int i3), .val (.long va), .second, .val (.long vb), .second, .val (.long vc), .second, .val (.long vs), .second, .val (.double FP.dconst1), .second, .val (.double (own_X va)), .second, .val (.double (own_X vb)), .second, .val (.double (own_X vc)), .second, .val (.double (FP.dmul (own_X va) (own_X vb))), .second, .val (.double (FP.dmul (own_X vb) (own_X va))), .second, .val (.double (FP.dmul (FP.dmul (own_X va) (own_X vb)) (own_X vc))), .second, .val (.double (own_X vs)), .second, .val (.long (((vs + (1 : Int64)) * (vs + (2 : Int64))) / (2 : Int64))), .second, .val (.int (1 : Int32))] [(.double (own_X vb)), (.double (own_X va))])) _
      refine XS.dcmpS X104.here hx rfl (hb hby at_318) rfl (v := (cmpValue (FP.dcmp (own_X va) (own_X vb)) .g)) rfl ?_
      show Steps p.tables e below (T104.setTop (mkF m 319 #[.val (.long i0), .second, .val (.long i1), .second, .val (.long i2), .second, .val (.int i3), .val (.long va), .second, .val (.long vb), .second, .val (.long vc), .second, .val (.long vs), .second, .val (.double FP.dconst1), .second, .val (.double (own_X va)), .second, .val (.double (own_X vb)), .second, .val (.double (own_X vc)), .second, .val (.double (FP.dmul (own_X va) (own_X vb))), .second, .val (.double (FP.dmul (own_X vb) (own_X va))), .second, .val (.double (FP.dmul (FP.dmul (own_X va) (own_X vb)) (own_X vc))), .second, .val (.double (own_X vs)), .second, .val (.long (((vs + (1 : Int64)) * (vs + (2 : Int64))) / (2 : Int64))), .second, .val (.int (1 : Int32))] [(.int (cmpValue (FP.dcmp (own_X va) (own_X vb)) .g))])) _
      refine XS.ifNo X104.here hx rfl (hb hby at_319) rfl ((if0 _ _).trans (flt (kle : ¬ ((0 : Int32) < (cmpValue (FP.dcmp (own_X va) (own_X vb)) .g)))).2.2.1) ?_
      show Steps p.tables e below (T104.setTop (mkF m 322 #[.val (.long i0), .second, .val (.long i1), .second, .val (.long i2), .second, .val (.int i3), .val (.long va), .second, .val (.long vb), .second, .val (.long vc), .second, .val (.long vs), .second, .val (.double FP.dconst1), .second, .val (.double (own_X va)), .second, .val (.double (own_X vb)), .second, .val (.double (own_X vc)), .second, .val (.double (FP.dmul (own_X va) (own_X vb))), .second, .val (.double (FP.dmul (own_X vb) (own_X va))), .second, .val (.double (FP.dmul (FP.dmul (own_X va) (own_X vb)) (own_X vc))), .second, .val (.double (own_X vs)), .second, .val (.long (((vs + (1 : Int64)) * (vs + (2 : Int64))) / (2 : Int64))), .second, .val (.int (1 : Int32))] [])) _
      refine XS.iconst X104.here hx rfl (hb hby at_322) ?_
      show Steps p.tables e below (T104.setTop (mkF m 323 #[.val (.long i0), .second, .val (.long i1), .second, .val (.long i2), .second, .val (.int i3), .val (.long va), .second, .val (.long vb), .second, .val (.long vc), .second, .val (.long vs), .second, .val (.double FP.dconst1), .second, .val (.double (own_X va)), .second, .val (.double (own_X vb)), .second, .val (.double (own_X vc)), .second, .val (.double (FP.dmul (own_X va) (own_X vb))), .second, .val (.double (FP.dmul (own_X vb) (own_X va))), .second, .val (.double (FP.dmul (FP.dmul (own_X va) (own_X vb)) (own_X vc))), .second, .val (.double (own_X vs)), .second, .val (.long (((vs + (1 : Int64)) * (vs + (2 : Int64))) / (2 : Int64))), .second, .val (.int (1 : Int32))] [(.int (1 : Int32))])) _
      refine XS.goto X104.here hx rfl (pc0 := 323) (pc' := 327) rfl (hb hby at_323) (by decide) (by decide) ?_
      show Steps p.tables e below (T104.setTop (mkF m 327 #[.val (.long i0), .second, .val (.long i1), .second, .val (.long i2), .second, .val (.int i3), .val (.long va), .second, .val (.long vb), .second, .val (.long vc), .second, .val (.long vs), .second, .val (.double FP.dconst1), .second, .val (.double (own_X va)), .second, .val (.double (own_X vb)), .second, .val (.double (own_X vc)), .second, .val (.double (FP.dmul (own_X va) (own_X vb))), .second, .val (.double (FP.dmul (own_X vb) (own_X va))), .second, .val (.double (FP.dmul (FP.dmul (own_X va) (own_X vb)) (own_X vc))), .second, .val (.double (own_X vs)), .second, .val (.long (((vs + (1 : Int64)) * (vs + (2 : Int64))) / (2 : Int64))), .second, .val (.int (1 : Int32))] [(.int (1 : Int32))])) _
      refine XS.istore X104.here hx rfl (hb hby at_327) rfl (l' := #[.val (.long i0), .second, .val (.long i1), .second, .val (.long i2), .second, .val (.int i3), .val (.long va), .second, .val (.long vb), .second, .val (.long vc), .second, .val (.long vs), .second, .val (.double FP.dconst1), .second, .val (.double (own_X va)), .second, .val (.double (own_X vb)), .second, .val (.double (own_X vc)), .second, .val (.double (FP.dmul (own_X va) (own_X vb))), .second, .val (.double (FP.dmul (own_X vb) (own_X va))), .second, .val (.double (FP.dmul (FP.dmul (own_X va) (own_X vb)) (own_X vc))), .second, .val (.double (own_X vs)), .second, .val (.long (((vs + (1 : Int64)) * (vs + (2 : Int64))) / (2 : Int64))), .second, .val (.int (1 : Int32))]) rfl ?_
      show Steps p.tables e below (T104.setTop (mkF m 329 #[.val (.long i0), .second, .val (.long i1), .second, .val (.long i2), .second, .val (.int i3), .val (.long va), .second, .val (.long vb), .second, .val (.long vc), .second, .val (.long vs), .second, .val (.double FP.dconst1), .second, .val (.double (own_X va)), .second, .val (.double (own_X vb)), .second, .val (.double (own_X vc)), .second, .val (.double (FP.dmul (own_X va) (own_X vb))), .second, .val (.double (FP.dmul (own_X vb) (own_X va))), .second, .val (.double (FP.dmul (FP.dmul (own_X va) (own_X vb)) (own_X vc))), .second, .val (.double (own_X vs)), .second, .val (.long (((vs + (1 : Int64)) * (vs + (2 : Int64))) / (2 : Int64))), .second, .val (.int (1 : Int32))] [])) _
      refine XS.goto X104.here hx rfl (pc0 := 329) (pc' := 352) rfl (hb hby at_329) (by decide) (by decide) ?_
      show Steps p.tables e below (T104.setTop (mkF m 352 #[.val (.long i0), .second, .val (.long i1), .second, .val (.long i2), .second, .val (.int i3), .val (.long va), .second, .val (.long vb), .second, .val (.long vc), .second, .val (.long vs), .second, .val (.double FP.dconst1), .second, .val (.double (own_X va)), .second, .val (.double (own_X vb)), .second, .val (.double (own_X vc)), .second, .val (.double (FP.dmul (own_X va) (own_X vb))), .second, .val (.double (FP.dmul (own_X vb) (own_X va))), .second, .val (.double (FP.dmul (FP.dmul (own_X va) (own_X vb)) (own_X vc))), .second, .val (.double (own_X vs)), .second, .val (.long (((vs + (1 : Int64)) * (vs + (2 : Int64))) / (2 : Int64))), .second, .val (.int (1 : Int32))] [])) _
      refine XS.iload X104.here hx rfl (hb hby at_352) rfl ?_
      exact kt
    obtain ⟨fs, hr, hrun, hended, hW, hsame⟩ := X104.leave (v := some (.int (1 : Int32))) (fun h => by rw [Bd.returns] at h; cases h)
    refine ⟨_, _, pre0 _ ?_, hrun, hended, _, _, rfl, ?_, ⟨_, rfl⟩, hW, hsame.mono (by decide) (by decide)⟩
    · refine sg1 _ ?_
      refine sg2 _ ?_
      refine st3 _ ?_
      refine st7 _ ?_
      refine sg8 _ ?_
      refine st9 _ ?_
      refine sg13 _ ?_
      refine st15 _ ?_
      refine st18 _ ?_
      refine sg19 _ ?_
      refine st20 _ ?_
      refine sg24 _ ?_
      refine st26 _ ?_
      refine st29 _ ?_
      refine sg30 _ ?_
      refine st31 _ ?_
      refine sg35 _ ?_
      refine st37 _ ?_
      refine st40 _ ?_
      refine sg41 _ ?_
      refine st42 _ ?_
      refine sg46 _ ?_
      refine st48 _ ?_
      refine sg51 _ ?_
      refine st53 _ ?_
      refine st56 _ ?_
      refine sg57 _ ?_
      refine st58 _ ?_
      refine sg62 _ ?_
      refine st64 _ ?_
      refine sg67 _ ?_
      refine st69 _ ?_
      refine st72 _ ?_
      refine sg73 _ ?_
      refine st74 _ ?_
      refine sg78 _ ?_
      refine st80 _ ?_
      refine sg83 _ ?_
      refine st85 _ ?_
      refine sg88 _ ?_
      refine st90 _ ?_
      refine st93 _ ?_
      refine sg94 _ ?_
      refine st95 _ ?_
      refine sg99 _ ?_
      refine st101 _ ?_
      refine st104 _ ?_
      refine sg105 _ ?_
      refine cvx _ ?_
      refine sg106 _ ?_
      refine sg107 _ ?_
      refine sg108 _ ?_
      exact retN X104 hx (t := .boolean) Bd.returns (by simp) (hb hby at_354) hr
    · show Q0 Z i0 i1 i2 i3 h0 n0 _ T104.heap _
      rw [eq104]; exact ⟨rfl, N104⟩
set_option maxRecDepth 65536 in
set_option maxHeartbeats 40000000 in
theorem comes_1 {Post : Tables → Env → Array Value → State → Outcome → State → Prop} (hpost : ∀ tb e args s v u, (limb_1_1.after args s (.returned v) u = true ∧ limb_1_2.after args s (.returned v) u = true ∧ True) → FrameEnd s (.returned v) u (Jvm.fieldLocs frame_1_writes args s ++ Jvm.arrayLocs frame_1_arrays args s ++ Jvm.staticLocs frame_1_statics s) 24 128 → Post tb e args s (.returned v) u) :
    ArmFor flags0 classFile x code maxLocals ret World_1 tables_1 room_1 Calls_1 rest_1 Pre_1 Post := by
  intro l hfl _ _ p e ha hc hk s m args below hf hA hF happ hP
  obtain ⟨hcalls, hrest, hpre⟩ := hP
  obtain ⟨-, -, -, hnamed, -, -, -, hat⟩ := (Spec.applies_iff hf).mp happ
  obtain ⟨hg, hn⟩ := and_e (Cond.before_iff.mp (show (Jvm.Cond.and given_1 narrow_1).before args s = true from hpre))
  obtain ⟨h1, h2⟩ := and_e hg
  obtain ⟨w0, w1, w2, w3, rfl⟩ : ∃ w0 w1 w2 w3 : Value, args = #[w0, w1, w2, w3] := by
    have hs : args.size = 4 := by simpa [Cond.value, given_1] using h1
    obtain ⟨L⟩ := args
    match L, hs with
    | [w0, w1, w2, w3], _ => exact ⟨w0, w1, w2, w3, rfl⟩
  have hw := fun d (hd : d ∈ tables_1) => atoms_spec (ws := Jvm.Cond.code x code maxLocals ret :: tables_1) hat d (List.mem_cons_of_mem _ hd)
  have hfit : Fit s := fun {y c} hc i hi => by
    obtain ⟨ha, rfl⟩ := Array.getElem?_eq_some_iff.mp hc
    have q := List.all_eq_true.mp ((Array.all_eq_true_iff_forall_mem.mp hF) _ (Array.getElem_mem ha)) i (List.mem_range.mpr hi)
    simpa [Array.getElem?_eq_getElem hi] using q
  obtain ⟨a0, b0⟩ := and_e h2
  obtain ⟨i0, e0⟩ := isL_v a0
  obtain rfl : w0 = (.long i0) := Option.some.inj e0
  obtain ⟨a1, b1⟩ := and_e b0
  obtain ⟨i1, e1⟩ := isL_v a1
  obtain rfl : w1 = (.long i1) := Option.some.inj e1
  obtain ⟨a2, b2⟩ := and_e b1
  obtain ⟨i2, e2⟩ := isL_v a2
  obtain rfl : w2 = (.long i2) := Option.some.inj e2
  obtain ⟨i3, e3⟩ := is_v b2
  obtain rfl : w3 = (.int i3) := Option.some.inj e3
  obtain ⟨n, o, h1, h2, h3, _, L, rfl, ⟨rfl, N⟩, hq⟩ := rm0 l s _ hw tables_1 i0 i1 i2 i3 s.heap s.heap.size (Nat.le_refl _) p e ha hc hk s m _ below hf ((Spec.applies_iff_loose hf).mp happ).1 ⟨rfl, State.Warmed39.refl s, rfl⟩ trivial
  refine ⟨n, _, h1, h2, h3, hpost _ _ _ _ _ _ ⟨Cond.after_iff.mpr rfl, Cond.after_iff.mpr (eq_i res_at (Term.int_eval (1)) rfl), trivial⟩ ⟨hq.1, hq.2.1, (hq.2.2.sift fun y hy => Or.inr (N y hy)).mono (by decide) (by decide)⟩⟩
theorem main_1_1 : Claimed_1_1 := comes_1 fun _ _ _ _ _ _ h hF => ⟨h.1, hF⟩
theorem main_1_2 : Claimed_1_2 := comes_1 fun _ _ _ _ _ _ h hF => ⟨h.2.1, hF⟩
end Jvm.Pilot.@@N@@
namespace Jvm.Pilot.@@N@@
open Jvm Jvm.ClassFile Sem Op Lib Jvm.Free Jvm.Stand Jvm.Pilot.@@N@@.Jvm.D
/-! MADE BY PROGRAM (witnessworld.py) out of the Statement's table words and the real class files: 11 classes; the members and pool entries that the words name. The judged class is class 1, her method 1. -/
namespace start1
open Jvm.ClassFile
def u (s : String) : CpInfo := .utf8 (stringToUtf16 s)
/-- a pool by its gaps: so many unusable entries, then the entry; so many at the end -/
def gap : Nat → List CpInfo → List CpInfo
  | 0, r => r
  | n + 1, r => .unusable :: gap n r
def poolList (es : List (Nat × CpInfo)) (last : Nat) : List CpInfo := es.foldr (fun e r => gap e.1 (e.2 :: r)) (gap last [])
def pool (es : List (Nat × CpInfo)) (last : Nat) : Array CpInfo := ⟨poolList es last⟩
def fileOf (pool : Array CpInfo) (this : Nat) (attrs : Array Attribute := #[]) (ms : Array MethodInfo := #[]) (fl : Nat := 33) (sup : Nat := 0) (ifs : Array Nat := #[]) (fds : Array FieldInfo := #[]) : ClassFile where
  minorVersion := 0
  majorVersion := 65
  constantPool := pool
  accessFlags := fl
  thisClass := this
  superClass := sup
  interfaces := ifs
  fields := fds
  methods := ms
  attributes := attrs
def plain (name : String) (sup : Option ClassId) : Class where
  name := name
  kind := .ordinary
  loader := none
  accessFlags := 33
  super := sup
  interfaces := #[]
  cf := none
  fields := #[]
  methods := #[]
  instanceTypes := #[]
  staticTypes := #[]
  resolved := #[]
  callSites := []
  init := .initialized
  statics := none
  mirror := none

def pool0 : Array CpInfo := pool [(5, u "<init>"), (0, u "()V"), (1, .class_ 10), (1, u "java/lang/Object")] 113

def k0m0 : Method := { name := "<init>", desc := "()V", sig := { parameters := [], returnType := none }, accessFlags := 1, code := none }
/-- java/lang/Object -/
def k0 : Class := { plain "java/lang/Object" none with
  accessFlags := 33
  interfaces := #[]
  cf := some (fileOf pool0 8 #[] #[{ accessFlags := 1, nameIndex := 5, descriptorIndex := 6, attributes := #[] }] 33 0 #[] #[])
  fields := #[]
  methods := #[k0m0]
  instanceTypes := #[]
  staticTypes := #[]
  resolved := Array.replicate 124 none
  statics := none }

def pool1 : Array CpInfo := pool [(2, .class_ 4), (1, u "java/lang/Object"), (0, u "<init>"), (0, u "()V"), (2, .long 9223372036854775807), (1, .long 67108863), (1, .methodref 14 15), (0, .class_ 16), (0, .nameAndType 17 18), (0, u "com/example/wildebeest/wildebeest/inference/Spreads"), (0, u "work"), (0, u "([J)D"), (0, .long 2), (1, .class_ 22), (0, u "com/example/wildebeest/wildebeest/inference/SpreadsWorkPinLaw"), (2, u "law"), (0, u "(JJJI)Z")] 3

def k1m0 : Method := { name := "<init>", desc := "()V", sig := { parameters := [], returnType := none }, accessFlags := 1, code := none }
def k1c1 : Code := { maxStack := 6, maxLocals := 34, code := code, exceptionTable := #[], attributes := #[] }
def k1m1 : Method := { name := "law", desc := "(JJJI)Z", sig := { parameters := [.long, .long, .long, .int], returnType := some .boolean }, accessFlags := 9, code := some k1c1 }
/-- com/example/wildebeest/wildebeest/inference/SpreadsWorkPinLaw -/
def k1 : Class := { plain "com/example/wildebeest/wildebeest/inference/SpreadsWorkPinLaw" (some 0) with
  accessFlags := 49
  interfaces := #[]
  cf := some (fileOf pool1 21 #[] #[{ accessFlags := 1, nameIndex := 5, descriptorIndex := 6, attributes := #[] }, { accessFlags := 9, nameIndex := 25, descriptorIndex := 26, attributes := #[] }] 49 2 #[] #[])
  fields := #[]
  methods := #[k1m0, k1m1]
  instanceTypes := #[]
  staticTypes := #[]
  resolved := Array.replicate 30 none
  statics := none }

def pool2 : Array CpInfo := pool [(2, .class_ 4), (1, u "java/lang/Object"), (3, .class_ 10), (1, u "com/example/wildebeest/wildebeest/inference/Spreads"), (0, u "work"), (0, u "([J)D"), (21, u "arithmetic"), (0, u "Lcom/example/wildebeest/wildebeest/numeric/Arithmetic;"), (2, u "bounds"), (0, u "[I"), (2, u "strides"), (2, u "size"), (0, u "I"), (1, u "[[I"), (2, u "digits"), (19, u "factorials"), (0, u "Ljava/util/List;"), (37, .double 4611686018427387904)] 129

def k2c0 : Code := { maxStack := 8, maxLocals := 8, code := prog_48_method_2_code, exceptionTable := #[], attributes := #[] }
def k2m0 : Method := { name := "work", desc := "([J)D", sig := { parameters := [(.array .long)], returnType := some .double }, accessFlags := 8, code := some k2c0 }
/-- com/example/wildebeest/wildebeest/inference/Spreads -/
def k2 : Class := { plain "com/example/wildebeest/wildebeest/inference/Spreads" (some 0) with
  accessFlags := 48
  interfaces := #[]
  cf := some (fileOf pool2 8 #[] #[{ accessFlags := 8, nameIndex := 11, descriptorIndex := 12, attributes := #[] }] 48 2 #[] #[{ accessFlags := 18, nameIndex := 34, descriptorIndex := 35, attributes := #[] }, { accessFlags := 18, nameIndex := 38, descriptorIndex := 39, attributes := #[] }, { accessFlags := 18, nameIndex := 42, descriptorIndex := 39, attributes := #[] }, { accessFlags := 18, nameIndex := 45, descriptorIndex := 46, attributes := #[] }, { accessFlags := 18, nameIndex := 51, descriptorIndex := 48, attributes := #[] }, { accessFlags := 18, nameIndex := 71, descriptorIndex := 72, attributes := #[] }])
  fields := #[{ name := "arithmetic", type := (.object "com/example/wildebeest/wildebeest/numeric/Arithmetic"), accessFlags := 18, slot := 0, constantValue := 0 }, { name := "bounds", type := (.array .int), accessFlags := 18, slot := 1, constantValue := 0 }, { name := "strides", type := (.array .int), accessFlags := 18, slot := 2, constantValue := 0 }, { name := "size", type := .int, accessFlags := 18, slot := 3, constantValue := 0 }, { name := "digits", type := (.array (.array .int)), accessFlags := 18, slot := 4, constantValue := 0 }, { name := "factorials", type := (.object "java/util/List"), accessFlags := 18, slot := 5, constantValue := 0 }]
  methods := #[k2m0]
  instanceTypes := #[(.object "com/example/wildebeest/wildebeest/numeric/Arithmetic"), (.array .int), (.array .int), .int, (.array (.array .int)), (.object "java/util/List")]
  staticTypes := #[]
  resolved := Array.replicate 240 none
  statics := none }

def pool3 : Array CpInfo := pool [(1, u "java/lang/Cloneable"), (0, .class_ 1), (0, u "java/lang/Object"), (0, .class_ 3)] 3

/-- java/lang/Cloneable -/
def k3 : Class := { plain "java/lang/Cloneable" (some 0) with
  accessFlags := 1537
  interfaces := #[]
  cf := some (fileOf pool3 2 #[] #[] 1537 4 #[] #[])
  fields := #[]
  methods := #[]
  instanceTypes := #[]
  staticTypes := #[]
  resolved := Array.replicate 8 none
  statics := none }

def pool4 : Array CpInfo := pool [(1, u "java/io/Serializable"), (0, .class_ 1), (0, u "java/lang/Object"), (0, .class_ 3)] 3

/-- java/io/Serializable -/
def k4 : Class := { plain "java/io/Serializable" (some 0) with
  accessFlags := 1537
  interfaces := #[]
  cf := some (fileOf pool4 2 #[] #[] 1537 4 #[] #[])
  fields := #[]
  methods := #[]
  instanceTypes := #[]
  staticTypes := #[]
  resolved := Array.replicate 8 none
  statics := none }

/-- the primitive byte -/
def k5 : Class := { plain "byte" none with kind := .primitive 'B', accessFlags := 0x411 }
/-- [B -/
def k6 : Class := { plain "[B" (some 0) with kind := .array 5 .byte, interfaces := #[3, 4], accessFlags := 1041 }

/-- the primitive int -/
def k7 : Class := { plain "int" none with kind := .primitive 'I', accessFlags := 0x411 }
/-- [I -/
def k8 : Class := { plain "[I" (some 0) with kind := .array 7 .int, interfaces := #[3, 4], accessFlags := 1041 }

/-- the primitive long -/
def k9 : Class := { plain "long" none with kind := .primitive 'J', accessFlags := 0x411 }
/-- [J -/
def k10 : Class := { plain "[J" (some 0) with kind := .array 9 .long, interfaces := #[3, 4], accessFlags := 1041 }

def heap : Heap := #[]
def classes : Array Class := #[k0, k1, k2, k3, k4, k5, k6, k7, k8, k9, k10]
def interned : List (Array UInt16 × Addr) := []
def slotsUsed : Nat := 0
def theMethod : MethodId := ⟨1, 1⟩
def args0 : Array Value := #[.long 5, .long 3, .long 9, .int 4]
def aboutOver (below : List Frame) : State where
  vm := { classes := classes, interned := interned.toArray }
  heap := heap
  slotsUsed := slotsUsed
  threads := #[{ frames := .invoking theMethod args0 :: below }]
def below0 : List Frame := [.native { method := ⟨0, 0⟩, args := #[] }]
def about1 : State := aboutOver below0
def p0 : Program := .bare "" "" ""
def e0 : Env := launch0.env 0 0 0
theorem w_frames : about1.frames = Frame.invoking theMethod args0 :: below0 := rfl
set_option maxRecDepth 65536 in
theorem w_args : argsFit about1.vm theMethod args0 = true := by decide +kernel
set_option maxRecDepth 65536 in
theorem w_heap : heapFits about1 = true := by decide +kernel
set_option maxRecDepth 65536 in
theorem w_runnable : about1.curStatus? = some .runnable := by decide +kernel
set_option maxRecDepth 65536 in
theorem w_alone : about1.alone = true := by decide +kernel
set_option maxRecDepth 65536 in
theorem w_named : about1.methodNamed? x = some theMethod := by decide +kernel
set_option maxRecDepth 65536 in
theorem w_hears : about1.hears theMethod below0 = true := by decide +kernel
set_option maxRecDepth 65536 in
theorem w_ripe : about1.ripe theMethod args0 below0 = true := by decide +kernel
theorem w_running : about1.status = .running := rfl
set_option maxRecDepth 65536 in
theorem w_room : about1.hasRoom e0.platform room_1 = true :=
  launch0.hasRoom_least _ room_1 (by decide +kernel) (by decide +kernel) (by decide +kernel) (by decide +kernel) (by decide +kernel) (by decide +kernel)
theorem allAtoms_all (ts : List Jvm.Cond) (a : Array Jvm.Value) (st : Jvm.State) : (allAtoms ts).before a st = ts.all (fun c => c.before a st) := by
  induction ts with
  | nil => rfl
  | cons c t ih =>
    show (Jvm.Cond.and c (allAtoms t)).before a st = _
    rw [Jvm.Cond.before_and, ih, List.all_cons]
def words1 : List Jvm.Cond := Jvm.Cond.code x code maxLocals ret :: tables_1
/-- a 'code' word, met by the world's own term for the bytes: nothing is compared byte by byte -/
theorem code_word {y : MethodName} {bytes : ByteArray} {mx : Nat} {rt : Option FieldType} {a : Array Value} {s : State} {m : MethodId} {meth : Method} {c : Code} (h1 : s.methodNamed? y = some m) (h2 : s.vm.method? m = some meth) (h3 : meth.code = some c) (h4 : c.code = bytes)
    (h5 : (c.maxLocals == mx && c.exceptionTable.isEmpty && decide (c.maxStack ≤ mostOperands) && decide (meth.sig.returnType = rt) && !meth.locks && decide (parseMethodDescriptor y.desc = some meth.sig)) = true) : (Jvm.Cond.code y bytes mx rt).before a s = true := by
  simp only [Bool.and_eq_true, beq_iff_eq, Bool.not_eq_true', decide_eq_true_eq] at h5
  obtain ⟨⟨⟨⟨⟨g1, g2⟩, g3⟩, g4⟩, g5⟩, g6⟩ := h5
  simp [Cond.before, Cond.holds, Cond.value, h1, h2, h3, h4, g1, g2, g3, g4, g5, g6]
def isCode : Jvm.Cond → Bool
  | .code _ _ _ _ => true
  | _ => false
theorem all_split {L : List Jvm.Cond} {P : Jvm.Cond → Bool} (h1 : L.all (fun c => isCode c || P c) = true) (h2 : ∀ c ∈ L.filter isCode, P c = true) : L.all P = true := by
  refine List.all_eq_true.mpr fun c hc => ?_
  have h := List.all_eq_true.mp h1 c hc
  rcases Bool.eq_false_or_eq_true (isCode c) with hi | hi
  · exact h2 c (List.mem_filter.mpr ⟨hc, hi⟩)
  · simpa [hi] using h
set_option maxRecDepth 65536 in
theorem w_c0 : (Jvm.Cond.code x code maxLocals ret).before args0 about1 = true := code_word (m := ⟨1, 1⟩) (meth := k1m1) (c := k1c1) (by decide +kernel) rfl rfl rfl (by decide +kernel)
set_option maxRecDepth 65536 in
theorem w_c1 : (Jvm.Cond.code ({ cls := "com/example/wildebeest/wildebeest/inference/Spreads", name := "work", desc := "([J)D" } : Jvm.MethodName) prog_48_method_2_code (8 : Nat) (Option.some Jvm.ClassFile.FieldType.double)).before args0 about1 = true := code_word (m := ⟨2, 0⟩) (meth := k2m0) (c := k2c0) (by decide +kernel) rfl rfl rfl (by decide +kernel)
def codes1 : List Jvm.Cond := [Jvm.Cond.code x code maxLocals ret, Jvm.Cond.code ({ cls := "com/example/wildebeest/wildebeest/inference/Spreads", name := "work", desc := "([J)D" } : Jvm.MethodName) prog_48_method_2_code (8 : Nat) (Option.some Jvm.ClassFile.FieldType.double)]
set_option maxRecDepth 65536 in
theorem codes_eq : words1.filter isCode = codes1 := rfl
theorem w_codes : ∀ c ∈ words1.filter isCode, c.before args0 about1 = true := by
  rw [codes_eq]
  intro c hc
  simp only [codes1, List.mem_cons, List.not_mem_nil, or_false] at hc
  rcases hc with rfl | rfl
  · exact w_c0
  · exact w_c1
set_option maxRecDepth 65536 in
theorem w_t1 : words1.all (fun c => isCode c || c.before args0 about1) = true := by decide +kernel
theorem w_tables : (allAtoms (Jvm.Cond.code x code maxLocals ret :: tables_1)).before args0 about1 = true := by
  rw [allAtoms_all]
  show words1.all (fun c => c.before args0 about1) = true
  refine all_split ?_ w_codes
  rw [w_t1]
set_option maxRecDepth 65536 in
theorem w_case : (Jvm.Cond.and given_1 narrow_1).before args0 about1 = true := by decide +kernel
theorem w_applies : (headSpec (Jvm.Cond.code x code maxLocals ret :: tables_1) room_1).applies x e0.platform about1 = true :=
  (Spec.applies_iff w_frames).mpr ⟨w_running, w_runnable, w_alone, w_named, w_hears, w_ripe, w_room, w_tables⟩
theorem atStart : AtStart classFile x code maxLocals ret World_1 tables_1 room_1 Calls_1 rest_1 Pre_1 launch0 p0 e0 about1 theMethod args0 below0 :=
  ⟨lists_1, trivial, launch0.admits_env _ _ _, launch0.least_env, fairChoices_fair.cas, fairChoices_fair.clock, w_frames, w_args, w_heap, w_applies, trivial, trivial, w_case⟩
end start1
theorem witness_1 : WitnessClaimed_1 := ⟨start1.p0, start1.e0, start1.about1, start1.theMethod, start1.args0, start1.below0, start1.atStart⟩
end Jvm.Pilot.@@N@@
