import JvmDerived
import JvmDerived.Pilot.@@N@@Statement
import JvmDerived.Pilot.@@N@@Code
set_option linter.unusedVariables false
set_option linter.unusedSimpArgs false
namespace Jvm.RoadKit
open Sem ClassFile Op Lib Jvm.Stand Jvm.Free Jvm.LawKit
section New
variable {p : Program} {l : Launch} {e : Env} {R : Room} {s : State} {m : MethodId} {args : Array Value} {below : List Frame} {meth : Method} {c : Code} {T : State} {locs : List Loc} {cells slots : Nat}
theorem retI (X : Stand p l e R s m args below meth c T locs cells slots) (hx : p.tables.exec = Jvm.exec) {pc : Nat} {Ls : Array Slot} {z : Int32} {rest : List Value} (hret : meth.sig.returnType = some .int) (hd : decode c.code pc = .ok (.ireturn, 1)) {fs : List Frame}
    (hl : ∀ (f : JFrame) (acts : List Action), f.method = m → f.locked = none → f.entered = [] → (doReturn e (T.setTop f) acts (some (.int z))).1 = T.setFrames fs) : Steps p.tables e below (T.setTop (mkF m pc Ls (.int z :: rest))) (T.setFrames fs) := by
  have hm' : T.vm.method? m = some meth := X.method'
  have hn : narrow .int (.int z) = .int z := rfl
  show Steps p.tables e below (T.setTop { method := m, pc := pc, locals := Ls, stack := _ :: rest, locked := none }) _
  jvm_step X.here [X.here.top, hx, hd, hm', hret, hn]
  first | (intro acts; rw [hl _ acts rfl rfl rfl]) | rw [hl _ _ rfl rfl rfl]
  exact Steps.refl _
theorem retD (X : Stand p l e R s m args below meth c T locs cells slots) (hx : p.tables.exec = Jvm.exec) {pc : Nat} {Ls : Array Slot} {z : UInt64} {rest : List Value} (hret : meth.sig.returnType = some .double) (hd : decode c.code pc = .ok (.dreturn, 1)) {fs : List Frame}
    (hl : ∀ (f : JFrame) (acts : List Action), f.method = m → f.locked = none → f.entered = [] → (doReturn e (T.setTop f) acts (some (.double z))).1 = T.setFrames fs) : Steps p.tables e below (T.setTop (mkF m pc Ls (.double z :: rest))) (T.setFrames fs) := by
  have hm' : T.vm.method? m = some meth := X.method'
  have hn : narrow .double (.double z) = .double z := rfl
  show Steps p.tables e below (T.setTop { method := m, pc := pc, locals := Ls, stack := _ :: rest, locked := none }) _
  jvm_step X.here [X.here.top, hx, hd, hm', hret, hn]
  first | (intro acts; rw [hl _ acts rfl rfl rfl]) | rw [hl _ _ rfl rfl rfl]
  exact Steps.refl _
theorem retJ (X : Stand p l e R s m args below meth c T locs cells slots) (hx : p.tables.exec = Jvm.exec) {pc : Nat} {Ls : Array Slot} {z : Int64} {rest : List Value} (hret : meth.sig.returnType = some .long) (hd : decode c.code pc = .ok (.lreturn, 1)) {fs : List Frame}
    (hl : ∀ (f : JFrame) (acts : List Action), f.method = m → f.locked = none → f.entered = [] → (doReturn e (T.setTop f) acts (some (.long z))).1 = T.setFrames fs) : Steps p.tables e below (T.setTop (mkF m pc Ls (.long z :: rest))) (T.setFrames fs) := by
  have hm' : T.vm.method? m = some meth := X.method'
  have hn : narrow .long (.long z) = .long z := rfl
  show Steps p.tables e below (T.setTop { method := m, pc := pc, locals := Ls, stack := _ :: rest, locked := none }) _
  jvm_step X.here [X.here.top, hx, hd, hm', hret, hn]
  first | (intro acts; rw [hl _ acts rfl rfl rfl]) | rw [hl _ _ rfl rfl rfl]
  exact Steps.refl _
end New
end Jvm.RoadKit
namespace Jvm.Pilot.@@N@@
open Jvm Jvm.ClassFile Sem Op Lib Jvm.Free Jvm.Stand Jvm.LawKit Jvm.RoadKit Bundle Jvm.Pilot.@@N@@.Jvm.D Jvm.Free.Fl
open Jvm.Free.XT (n32 succ32 add32n lt32 nlt32)

theorem own_cl (r : Option Ordering) : cmpValue r .l = 0 ↔ r = some .eq := by rcases r with _ | (_ | _ | _) <;> decide
theorem own_cl_pos (r : Option Ordering) : 0 < cmpValue r .l ↔ r = some .gt := by rcases r with _ | (_ | _ | _) <;> decide
theorem own_dconst0 : FP.Core.DInt 0 FP.dconst0 := FP.Core.i2d_int 0
theorem own_i2d_pos (a : Int32) : 0 < cmpValue (FP.dcmp (FP.i2d a) FP.dconst0) .l ↔ 0 < a := by
  rw [own_cl_pos, show FP.dcmp (FP.i2d a) FP.dconst0 = _ from FP.Core.dcmp_int (FP.Core.i2d_int a) own_dconst0, Option.some.injEq, FP.Core.compare_gt_iff, Int32.lt_iff_toInt_lt]
  rfl

theorem own_cl_npos (r : Option Ordering) : ¬ 0 < cmpValue r .l ↔ r ≠ some .gt := by rw [own_cl_pos]
def own_share (x : Int32) : Int32 := if x &&& 1 = 0 then 0 else ((x.toUInt32 >>> ((1 : Int32) &&& 31).toUInt32).toInt32 &&& (65535 : Int32))
theorem own_share_b (x : Int32) : 0 ≤ (own_share x).toInt ∧ (own_share x).toInt ≤ 65535 := by
  unfold own_share
  split
  · exact ⟨by decide, by decide⟩
  · exact c_and _ 65535 (by decide)
theorem own_add32 {P s : Int32} (h1 : 0 ≤ P.toInt) (h2 : P.toInt ≤ 1000000) (h3 : 0 ≤ s.toInt) (h4 : s.toInt ≤ 1000000) : (P + s).toInt = P.toInt + s.toInt := by
  have := c_iadd P s; have := rng32 (P + s); omega
theorem own_dbl32 {P : Int32} (h1 : 0 ≤ P.toInt) (h2 : P.toInt ≤ 1000000) : (2 * P).toInt = 2 * P.toInt := by
  have h := c_imul 2 P
  have e : (2 : Int32).toInt = 2 := by decide
  rw [e] at h
  have := rng32 (2 * P); omega
theorem own_dadd {P s : Int32} (h1 : 0 ≤ P.toInt) (h2 : P.toInt ≤ 1000000) (h3 : 0 ≤ s.toInt) (h4 : s.toInt ≤ 1000000) : FP.dadd (FP.i2d P) (FP.i2d s) = FP.i2d (P + s) := by
  rw [i2d_w, i2d_w, i2d_w, dadd_w ⟨by rw [c_i2l]; omega, by rw [c_i2l]; omega⟩ ⟨by rw [c_i2l]; omega, by rw [c_i2l]; omega⟩]
  congr 1
  apply Int64.toInt_inj.mp
  rw [c_i2l, own_add32 h1 h2 h3 h4]
  have := c_ladd P.toInt64 s.toInt64
  rw [c_i2l, c_i2l] at this
  have := rng64 (P.toInt64 + s.toInt64); omega
theorem own_dadd_nn {P s : Int32} (h1 : 0 ≤ P.toInt) (h2 : P.toInt ≤ 1000000) (h3 : 0 ≤ s.toInt) (h4 : s.toInt ≤ 1000000) : NoNaN64 (FP.dadd (FP.i2d P) (FP.i2d s)) := by
  rw [own_dadd h1 h2 h3 h4]; exact (i2d_fin _).noNaN
theorem own_two : FP.Core.val64 4611686018427387904 = .fin false (2 ^ 52) (((1 : Nat) : Int) - 52) := by decide +kernel
theorem own_two_fin : Fin64 4611686018427387904 := by unfold Fin64; decide
theorem own_two_nz : Nz64 4611686018427387904 := by unfold Nz64; decide
theorem own_half_nn (t : Int32) : NoNaN64 (FP.ddiv (FP.i2d t) (4611686018427387904 : UInt64)) := ddiv_out (i2d_fin t).noNaN own_two_fin own_two_nz
theorem own_div_fin {a b : UInt64} {s : Bool} {c : Nat} {q : Int} (k : Nat) (ha : FP.Core.val64 a = .fin s c q) (hb : FP.Core.val64 b = .fin false (2 ^ 52) ((k : Int) - 52)) (hq : FP.Core.b64.qmin + k ≤ q) (hc : FP.Core.b64.tails ≤ c) :
    FP.Core.val64 (FP.ddiv a b) = .fin s c (q - k) := by
  have hf := FP.Core.val64_fits a
  rw [ha] at hf
  obtain ⟨f1, f2, f3, f4⟩ := hf
  show FP.Core.val64 (FP.Core.ddiv a b) = _
  rw [FP.Core.val64_ddiv, ha, hb]
  show (if (2 : Nat) ^ 52 = 0 then (if c = 0 then FP.Core.Datum.nan else FP.Core.Datum.inf (s != false)) else FP.Core.roundRatio FP.Core.b64 (s != false) c (2 ^ 52) (q - ((k : Int) - 52))) = _
  rw [if_neg (by decide), Bool.bne_false]
  rw [FP.Core.roundRatio_congr (B := 2 ^ 52) (A' := c) (B' := 1) (e' := q - k) (by decide) (by decide) (by
    have e1 : (q - ((k : Int) - 52) - (q - k)).toNat = 52 := by omega
    have e2 : (q - k - (q - ((k : Int) - 52))).toNat = 0 := by omega
    rw [e1, e2, Nat.mul_one, Nat.pow_zero, Nat.mul_one])]
  exact FP.Core.round_of_fits FP.Core.good_b64 (d := .fin s c (q - k)) ⟨f1, by omega, by omega, Or.inr hc⟩
theorem own_pow_lt {c E B : Nat} (hc : c < 2 ^ FP.Core.b64.p) (hE : E + 53 ≤ B) : c * 2 ^ E < 2 ^ B := by
  have h1 : c * 2 ^ E < 2 ^ FP.Core.b64.p * 2 ^ E := Nat.mul_lt_mul_of_pos_right hc (Nat.two_pow_pos _)
  rw [← Nat.pow_add] at h1
  exact Nat.lt_of_lt_of_le h1 (Nat.pow_le_pow_right (by decide) (by show 53 + E ≤ B; omega))
theorem own_dint_fin {n : Int} {a : UInt64} (h : FP.Core.DInt n a) (hn : n ≠ 0) : ∃ s c q, FP.Core.val64 a = .fin s c q ∧ FP.Core.b64.tails ≤ c ∧ -53 ≤ q := by
  have hz := FP.Core.DInt_zval h
  have hf := FP.Core.val64_fits a
  unfold FP.Core.DInt at h
  cases hv : FP.Core.val64 a with
  | nan => rw [hv] at h; exact h.elim
  | inf s => rw [hv] at h; exact h.elim
  | fin s c q =>
    rw [hv] at hf hz
    obtain ⟨f1, f2, f3, f4⟩ := hf
    refine ⟨s, c, q, rfl, ?_⟩
    have hu : c * 2 ^ (q - FP.Core.b64.qmin).toNat = n.natAbs * FP.Core.one64 := by
      have := congrArg Int.natAbs hz
      rw [Int.natAbs_mul, Int.natAbs_natCast] at this
      rw [← this]
      show _ = (FP.Core.signed s (FP.Core.inUnits c q FP.Core.b64.qmin)).natAbs
      rw [FP.Core.natAbs_signed]; rfl
    have h1 : FP.Core.one64 ≤ n.natAbs * FP.Core.one64 := Nat.le_mul_of_pos_left _ (by omega)
    have hp : (2 : Nat) ^ (-FP.Core.b64.qmin).toNat = FP.Core.one64 := FP.Core.pow_qmin64
    have e0 : FP.Core.b64.qmin = -1074 := FP.Core.qmin_b64
    have hq : -53 ≤ q := by
      refine Int.not_lt.mp fun hlt => ?_
      have h2 := own_pow_lt (c := c) (E := (q - FP.Core.b64.qmin).toNat) (B := (-FP.Core.b64.qmin).toNat) f1 (by omega)
      rw [hp, hu] at h2
      exact Nat.lt_irrefl _ (Nat.lt_of_lt_of_le h2 h1)
    refine ⟨?_, hq⟩
    rcases f4 with f4 | f4
    · omega
    · exact f4

theorem own_half_zval (t : Int32) : 2 * FP.Core.zval FP.Core.b64 (FP.Core.val64 (FP.ddiv (FP.i2d t) (4611686018427387904 : UInt64))) = t.toInt * (FP.Core.one64 : Int) := by
  by_cases h : t = 0
  · subst h; decide +kernel
  · have hn : t.toInt ≠ 0 := fun e => h (Int32.toInt_inj.mp e)
    have hz := FP.Core.DInt_zval (FP.Core.i2d_int t)
    obtain ⟨s, c, q, h1, h2, h3⟩ := own_dint_fin (FP.Core.i2d_int t) hn
    have e0 : FP.Core.b64.qmin = -1074 := FP.Core.qmin_b64
    rw [own_div_fin 1 h1 own_two (by omega) h2, ← hz, h1]
    show 2 * FP.Core.signed s (FP.Core.inUnits c (q - 1) FP.Core.b64.qmin) = FP.Core.signed s (FP.Core.inUnits c q FP.Core.b64.qmin)
    unfold FP.Core.inUnits
    have e1 : (q - FP.Core.b64.qmin).toNat = (q - 1 - FP.Core.b64.qmin).toNat + 1 := by omega
    rw [e1, Nat.pow_succ, ← Nat.mul_assoc, FP.Core.signed_mul s (c * 2 ^ (q - 1 - FP.Core.b64.qmin).toNat) 2]
    exact Int.mul_comm _ _
theorem own_gt_half {P t : Int32} (h1 : 0 ≤ P.toInt) (h2 : P.toInt ≤ 1000000) : 0 < cmpValue (FP.dcmp (FP.i2d P) (FP.ddiv (FP.i2d t) (4611686018427387904 : UInt64))) .l ↔ t < 2 * P := by
  rw [own_cl_pos]
  have n1 : FP.Core.val64 (FP.i2d P) ≠ .nan := FP.Core.DInt_ne_nan (FP.Core.i2d_int P)
  have n2 : FP.Core.val64 (FP.ddiv (FP.i2d t) (4611686018427387904 : UInt64)) ≠ .nan := (FP.Core.notNaN_iff _).mp (noNaN64_no.mp (own_half_nn t))
  rw [show FP.dcmp (FP.i2d P) (FP.ddiv (FP.i2d t) (4611686018427387904 : UInt64)) = _ from FP.Core.dcmp_zval n1 n2, Option.some.injEq, FP.Core.compare_gt_iff, FP.Core.DInt_zval (FP.Core.i2d_int P), Int32.lt_iff_toInt_lt, own_dbl32 h1 h2]
  have hz := own_half_zval t
  have ho : 0 < (FP.Core.one64 : Int) := by exact_mod_cast FP.Core.one64_pos
  generalize FP.Core.zval FP.Core.b64 (FP.Core.val64 (FP.ddiv (FP.i2d t) (4611686018427387904 : UInt64))) = y at hz ⊢
  generalize (FP.Core.one64 : Int) = o at hz ho ⊢
  constructor
  · intro h
    refine Int.lt_of_mul_lt_mul_right (a := o) ?_ (Int.le_of_lt ho)
    rw [← hz, Int.mul_assoc]; omega
  · intro h
    have := Int.mul_lt_mul_of_pos_right h ho
    rw [← hz, Int.mul_assoc] at this
    omega
def own_go (t : Int32) : Nat → Int32 → Int32 → List Int32 → Int32
  | _, _, last, [] => last
  | i, P, last, s :: r => if 0 < s then (if t < 2 * (P + s) then Int32.ofNat i else own_go t (i + 1) (P + s) (Int32.ofNat i) r) else own_go t (i + 1) P last r
def own_exp (t s0 s1 s2 s3 : Int32) : Int32 :=
  if 0 < s0 ∧ t < 2 * s0 then 0 else if 0 < s1 ∧ t < 2 * (s0 + s1) then 1 else if 0 < s2 ∧ t < 2 * (s0 + s1 + s2) then 2 else if 0 < s3 ∧ t < 2 * (s0 + s1 + s2 + s3) then 3
  else if 0 < s3 then 3 else if 0 < s2 then 2 else if 0 < s1 then 1 else 0
theorem own_zero_of {s : Int32} (h : ¬ 0 < s) (h0 : 0 ≤ s.toInt) : s = 0 := by
  rw [Int32.lt_iff_toInt_lt] at h
  have e : (0 : Int32).toInt = 0 := by decide
  exact Int32.toInt_inj.mp (by omega)
theorem own_law (t s0 s1 s2 s3 : Int32) (b0 : 0 ≤ s0.toInt) (b1 : 0 ≤ s1.toInt) (b2 : 0 ≤ s2.toInt) (b3 : 0 ≤ s3.toInt) (hp : ¬ s0 + s1 + s2 + s3 = 0) : own_go t 0 0 (-1) [s0, s1, s2, s3] = own_exp t s0 s1 s2 s3 := by
  have z (x : Int32) : (0 : Int32) + x = x := Int32.zero_add x
  have z' (x : Int32) : x + (0 : Int32) = x := Int32.add_zero x
  simp only [own_go, own_exp, z]
  by_cases q0 : 0 < s0
  · by_cases q1 : 0 < s1 <;> by_cases q2 : 0 < s2 <;> by_cases q3 : 0 < s3 <;>
      (try have e1 := own_zero_of q1 b1) <;> (try have e2 := own_zero_of q2 b2) <;> (try have e3 := own_zero_of q3 b3) <;>
      simp_all <;> (repeat' split) <;> first | rfl | omega | simp_all
  · have e0 := own_zero_of q0 b0
    by_cases q1 : 0 < s1 <;> by_cases q2 : 0 < s2 <;> by_cases q3 : 0 < s3 <;>
      (try have e1 := own_zero_of q1 b1) <;> (try have e2 := own_zero_of q2 b2) <;> (try have e3 := own_zero_of q3 b3) <;>
      simp_all <;> (repeat' split) <;> first | rfl | omega | simp_all
theorem d1_0 : decode method_2_code 0 = .ok (.iload_n 0, 1) := by decide +kernel
theorem d1_1 : decode method_2_code 1 = .ok (.iconst 1, 1) := by decide +kernel
theorem d1_2 : decode method_2_code 2 = .ok (.iand, 1) := by decide +kernel
theorem d1_3 : decode method_2_code 3 = .ok (.ifCond .ne 7, 3) := by decide +kernel
theorem d1_6 : decode method_2_code 6 = .ok (.iconst 0, 1) := by decide +kernel
theorem d1_7 : decode method_2_code 7 = .ok (.goto 9, 3) := by decide +kernel
theorem d1_10 : decode method_2_code 10 = .ok (.iload_n 0, 1) := by decide +kernel
theorem d1_11 : decode method_2_code 11 = .ok (.iconst 1, 1) := by decide +kernel
theorem d1_12 : decode method_2_code 12 = .ok (.iushr, 1) := by decide +kernel
theorem d1_13 : decode method_2_code 13 = .ok (.ldc 7, 2) := by decide +kernel
theorem d1_15 : decode method_2_code 15 = .ok (.iand, 1) := by decide +kernel
theorem d1_16 : decode method_2_code 16 = .ok (.ireturn, 1) := by decide +kernel
theorem pn_1 : plainName "com/example/cairnwise/cairnwise/cluster/KmeansPlusPlusDrawPinLaw" = true := by first | (simp [plainName, overriddenIn]; done) | decide +kernel
theorem ef_1 (m : MethodId) (x0 : Int32) : entryFrame m #[(.int x0)] 1 = mkF m 0 #[.val (.int x0)] [] := by first | (simp [entryFrame, mkF, argsToLocals, Value.category]; done) | rfl
def Q1 (Z : State) (x1 : Int32) (h0 : Heap) (n0 : Nat) (v : Option Value) (h : Heap) (L : List Loc) : Prop := v = some (.int (own_share x1)) ∧ Fr n0 L ∧ h = h0
set_option maxRecDepth 65536 in
set_option maxHeartbeats 40000000 in
theorem rm1 (l : Launch) (Z : State) (a0 : Array Value) (hw : ∀ d ∈ tables_1, d.before a0 Z = true) (ws : List Jvm.Cond) (x1 : Int32) (h0 : Heap) (n0 : Nat) (Z0 : n0 ≤ h0.size)  :
    MetFree l (⟨"com/example/cairnwise/cairnwise/cluster/KmeansPlusPlusDrawPinLaw", "share", "(I)I"⟩ : MethodName) (head1 (Jvm.Cond.code (⟨"com/example/cairnwise/cairnwise/cluster/KmeansPlusPlusDrawPinLaw", "share", "(I)I"⟩ : MethodName) method_2_code 1 (some .int) :: ws) ({ frames := 0, cells := 0, slots := 0, locals := 0 } : Room)) (fun a U => a = #[(.int x1)] ∧ Z.Warmed39 U.vm ∧ U.heap = h0) (fun _ _ _ _ _ => True) (fun _ U o U' => ∃ v L, o = .returned v ∧ Q1 Z x1 h0 n0 v U'.heap L ∧ FrameEnd U o U' L ({ frames := 0, cells := 0, slots := 0, locals := 0 } : Room).cells ({ frames := 0, cells := 0, slots := 0, locals := 0 } : Room).slots) := by
  refine MetFree.of_bodySF (plainFor_of_name pn_1) hisR ?_
  intro p e s m args below meth c s₁ Bd hml0 hP hK
  obtain ⟨rfl, hZ, hh⟩ := hP
  have hx := Bd.exec
  have hby := Bd.bytes
  have hml : c.maxLocals = 1 := hml0
  have hown : s.vm.findClass "com/example/cairnwise/cairnwise/cluster/KmeansPlusPlusDrawPinLaw" = some m.cls := findClass_of_methodNamed Bd.named
  have hnm := (name_of_methodNamed Bd.named Bd.method).1
  have X0 : Stand p l e ({ frames := 0, cells := 0, slots := 0, locals := 0 } : Room) s m #[(.int x1)] below meth c s₁ [] 0 0 := Stand.of_body Bd
  have e0 : s₁.heap = h0 := by rw [← hh, Bd.state]; rfl
  have N0 := Fr.nil n0
  have pre0 : ∀ t, Steps p.tables e below (s₁.setTop (mkF m 0 #[.val (.int x1)] [])) t → Steps p.tables e below (s₁.setTop (entryFrame m #[(.int x1)] 1)) t := fun t k => castTop (ef_1 m x1) k
  have sg1 : ∀ t, Steps p.tables e below (s₁.setTop (mkF m 3 #[.val (.int x1)] [(.int (x1 &&& (1 : Int32)))])) t → Steps p.tables e below (s₁.setTop (mkF m 0 #[.val (.int x1)] [])) t := by
    intro t kt
    refine XS.iloadN X0.here hx rfl (hb hby d1_0) rfl ?_
    show Steps p.tables e below (s₁.setTop (mkF m 1 #[.val (.int x1)] [(.int x1)])) _
    refine XS.iconst X0.here hx rfl (hb hby d1_1) ?_
    show Steps p.tables e below (s₁.setTop (mkF m 2 #[.val (.int x1)] [(.int (1 : Int32)), (.int x1)])) _
    refine XS.iand X0.here hx rfl (hb hby d1_2) rfl ?_
    exact kt
  by_cases c3 : x1 &&& (1 : Int32) = 0
  · have sg2 : ∀ t, Steps p.tables e below (s₁.setTop (mkF m 16 #[.val (.int x1)] [(.int (0 : Int32))])) t → Steps p.tables e below (s₁.setTop (mkF m 3 #[.val (.int x1)] [(.int (x1 &&& (1 : Int32)))])) t := by
      intro t kt
      refine XS.ifNo X0.here hx rfl (hb hby d1_3) rfl ((if0 _ _).trans (teq (c3 : (x1 &&& (1 : Int32)) = (0 : Int32))).2) ?_
      show Steps p.tables e below (s₁.setTop (mkF m 6 #[.val (.int x1)] [])) _
      refine XS.iconst X0.here hx rfl (hb hby d1_6) ?_
      show Steps p.tables e below (s₁.setTop (mkF m 7 #[.val (.int x1)] [(.int (0 : Int32))])) _
      refine XS.goto X0.here hx rfl (pc0 := 7) (pc' := 16) rfl (hb hby d1_7) (by decide) (by decide) ?_
      exact kt
    obtain ⟨fs, hr, hrun, hended, hW, hsame⟩ := X0.leave (v := some (.int (0 : Int32))) (fun h => by rw [Bd.returns] at h; cases h)
    refine ⟨_, _, pre0 _ ?_, hrun, hended, _, _, rfl, ?_, ⟨_, rfl⟩, hW, hsame.mono (by decide) (by decide)⟩
    · refine sg1 _ ?_
      refine sg2 _ ?_
      exact retI X0 hx Bd.returns (hb hby d1_16) hr
    · show Q1 Z x1 h0 n0 _ s₁.heap _
      rw [e0]; exact ⟨by simp [own_share, c3], N0, rfl⟩
  · have sg2 : ∀ t, Steps p.tables e below (s₁.setTop (mkF m 16 #[.val (.int x1)] [(.int (((x1.toUInt32 >>> ((1 : Int32) &&& 31).toUInt32).toInt32) &&& (65535 : Int32)))])) t → Steps p.tables e below (s₁.setTop (mkF m 3 #[.val (.int x1)] [(.int (x1 &&& (1 : Int32)))])) t := by
      intro t kt
      refine XS.ifYes X0.here hx rfl (pc0 := 3) (pc' := 10) rfl (hb hby d1_3) rfl ((if0 _ _).trans (feq (c3 : ¬ ((x1 &&& (1 : Int32)) = (0 : Int32)))).2) (by decide) (by decide) ?_
      show Steps p.tables e below (s₁.setTop (mkF m 10 #[.val (.int x1)] [])) _
      refine XS.iloadN X0.here hx rfl (hb hby d1_10) rfl ?_
      show Steps p.tables e below (s₁.setTop (mkF m 11 #[.val (.int x1)] [(.int x1)])) _
      refine XS.iconst X0.here hx rfl (hb hby d1_11) ?_
      show Steps p.tables e below (s₁.setTop (mkF m 12 #[.val (.int x1)] [(.int (1 : Int32)), (.int x1)])) _
      refine XS.iushr X0.here hx rfl (hb hby d1_12) rfl ?_
      show Steps p.tables e below (s₁.setTop (mkF m 13 #[.val (.int x1)] [(.int ((x1.toUInt32 >>> ((1 : Int32) &&& 31).toUInt32).toInt32))])) _
      refine X0.ldcInt hx hown (mvT hZ (hw _ (List.mem_of_getElem? (i := 4) rfl))) (g := (mkF m 13 #[.val (.int x1)] [(.int ((x1.toUInt32 >>> ((1 : Int32) &&& 31).toUInt32).toInt32))])) rfl (hb hby d1_13) _ ?_
      show Steps p.tables e below (s₁.setTop (mkF m 15 #[.val (.int x1)] [(.int (65535 : Int32)), (.int ((x1.toUInt32 >>> ((1 : Int32) &&& 31).toUInt32).toInt32))])) _
      refine XS.iand X0.here hx rfl (hb hby d1_15) rfl ?_
      exact kt
    obtain ⟨fs, hr, hrun, hended, hW, hsame⟩ := X0.leave (v := some (.int (((x1.toUInt32 >>> ((1 : Int32) &&& 31).toUInt32).toInt32) &&& (65535 : Int32)))) (fun h => by rw [Bd.returns] at h; cases h)
    refine ⟨_, _, pre0 _ ?_, hrun, hended, _, _, rfl, ?_, ⟨_, rfl⟩, hW, hsame.mono (by decide) (by decide)⟩
    · refine sg1 _ ?_
      refine sg2 _ ?_
      exact retI X0 hx Bd.returns (hb hby d1_16) hr
    · show Q1 Z x1 h0 n0 _ s₁.heap _
      rw [e0]; exact ⟨by simp [own_share, c3], N0, rfl⟩
theorem d2_0 : decode prog_18_method_6_code 0 = .ok (.dconst 0, 1) := by decide +kernel
theorem d2_1 : decode prog_18_method_6_code 1 = .ok (.dstore_n 3, 1) := by decide +kernel
theorem d2_2 : decode prog_18_method_6_code 2 = .ok (.iconst (-1), 1) := by decide +kernel
theorem d2_3 : decode prog_18_method_6_code 3 = .ok (.istore 5, 2) := by decide +kernel
theorem d2_5 : decode prog_18_method_6_code 5 = .ok (.iconst 0, 1) := by decide +kernel
theorem d2_6 : decode prog_18_method_6_code 6 = .ok (.istore 6, 2) := by decide +kernel
theorem d2_8 : decode prog_18_method_6_code 8 = .ok (.iload 6, 2) := by decide +kernel
theorem d2_10 : decode prog_18_method_6_code 10 = .ok (.aload_n 0, 1) := by decide +kernel
theorem d2_11 : decode prog_18_method_6_code 11 = .ok (.arraylength, 1) := by decide +kernel
theorem d2_12 : decode prog_18_method_6_code 12 = .ok (.if_icmp .ge 38, 3) := by decide +kernel
theorem d2_15 : decode prog_18_method_6_code 15 = .ok (.aload_n 0, 1) := by decide +kernel
theorem d2_16 : decode prog_18_method_6_code 16 = .ok (.iload 6, 2) := by decide +kernel
theorem d2_18 : decode prog_18_method_6_code 18 = .ok (.daload, 1) := by decide +kernel
theorem d2_19 : decode prog_18_method_6_code 19 = .ok (.dconst 0, 1) := by decide +kernel
theorem d2_20 : decode prog_18_method_6_code 20 = .ok (.dcmp .l, 1) := by decide +kernel
theorem d2_21 : decode prog_18_method_6_code 21 = .ok (.ifCond .le 23, 3) := by decide +kernel
theorem d2_24 : decode prog_18_method_6_code 24 = .ok (.dload_n 3, 1) := by decide +kernel
theorem d2_25 : decode prog_18_method_6_code 25 = .ok (.aload_n 0, 1) := by decide +kernel
theorem d2_26 : decode prog_18_method_6_code 26 = .ok (.iload 6, 2) := by decide +kernel
theorem d2_28 : decode prog_18_method_6_code 28 = .ok (.daload, 1) := by decide +kernel
theorem d2_29 : decode prog_18_method_6_code 29 = .ok (.dadd, 1) := by decide +kernel
theorem d2_30 : decode prog_18_method_6_code 30 = .ok (.dstore_n 3, 1) := by decide +kernel
theorem d2_31 : decode prog_18_method_6_code 31 = .ok (.dload_n 3, 1) := by decide +kernel
theorem d2_32 : decode prog_18_method_6_code 32 = .ok (.dload_n 1, 1) := by decide +kernel
theorem d2_33 : decode prog_18_method_6_code 33 = .ok (.dcmp .l, 1) := by decide +kernel
theorem d2_34 : decode prog_18_method_6_code 34 = .ok (.ifCond .le 6, 3) := by decide +kernel
theorem d2_37 : decode prog_18_method_6_code 37 = .ok (.iload 6, 2) := by decide +kernel
theorem d2_39 : decode prog_18_method_6_code 39 = .ok (.ireturn, 1) := by decide +kernel
theorem d2_40 : decode prog_18_method_6_code 40 = .ok (.iload 6, 2) := by decide +kernel
theorem d2_42 : decode prog_18_method_6_code 42 = .ok (.istore 5, 2) := by decide +kernel
theorem d2_44 : decode prog_18_method_6_code 44 = .ok (.iinc 6 1, 3) := by decide +kernel
theorem d2_47 : decode prog_18_method_6_code 47 = .ok (.goto (-39), 3) := by decide +kernel
theorem d2_50 : decode prog_18_method_6_code 50 = .ok (.iload 5, 2) := by decide +kernel
theorem d2_52 : decode prog_18_method_6_code 52 = .ok (.ireturn, 1) := by decide +kernel
theorem pn_2 : plainName "com/example/cairnwise/cairnwise/cluster/KmeansPlusPlus" = true := by first | (simp [plainName, overriddenIn]; done) | decide +kernel
theorem ef_2 (m : MethodId) (x0 : Addr) (x1 : UInt64) : entryFrame m #[(.ref x0), (.double x1)] 7 = mkF m 0 #[.val (.ref x0), .val (.double x1), .second, .unset, .unset, .unset, .unset] [] := by first | (simp [entryFrame, mkF, argsToLocals, Value.category]; done) | rfl
set_option maxRecDepth 65536 in
set_option maxHeartbeats 40000000 in
theorem own_loop (t0 : Int32) {p : Program} {l : Launch} {e : Env} {R : Room} {s : State} {m : MethodId} {args : Array Value} {below : List Frame} {meth : Method} {c : Code} {T0 : State} {locs : List Loc} {cells slots : Nat} {Z : State} {h0 : Heap} (a1 : Addr) (cl : Cell) (tg : UInt64) (htg : tg = (FP.ddiv (FP.i2d t0) (4611686018427387904 : UInt64))) (X0 : Stand p l e R s m args below meth c T0 locs cells slots) (hx : p.tables.exec = Jvm.exec) (hZ : Z.Warmed39 s.vm) (hby : c.code = prog_18_method_6_code) (e0 : T0.heap = h0) (Ar : Arr Z h0 a1 cl .double) (S1 : cl.slots.size = (4 : Int32).toNatClampNeg) : ∀ (r : List Int32) (i : Nat) (P la : Int32), i + r.length = 4 → 0 ≤ P.toInt → P.toInt + 65535 * r.length ≤ 262140 → (∀ x ∈ r, 0 ≤ x.toInt ∧ x.toInt ≤ 65535) → (∀ j, j < r.length → cl.slots[i + j]? = some (.double (FP.i2d (r.getD j 0)))) →
    ∃ pc Ls, (pc = 39 ∨ pc = 52) ∧ ∀ t, Steps p.tables e below (T0.setTop (mkF m pc Ls [(.int (own_go t0 i P la r))])) t → Steps p.tables e below (T0.setTop (mkF m 8 #[.val (.ref a1), .val (.double tg), .second, .val (.double (FP.i2d P)), .second, .val (.int la), .val (.int (Int32.ofNat i))] [])) t := by
  intro r
  induction r with
  | nil =>
    intro i P la hi hP hbd hr ha
    have hi4 : i = 4 := by simpa using hi
    subst hi4
    have hge : ¬ (Int32.ofNat 4 < (4 : Int32)) := by decide
    refine ⟨52, #[.val (.ref a1), .val (.double tg), .second, .val (.double (FP.i2d P)), .second, .val (.int la), .val (.int (Int32.ofNat 4))], Or.inr rfl, fun t kt => ?_⟩
    refine XS.iload X0.here hx rfl (hb hby d2_8) rfl ?_
    show Steps p.tables e below (T0.setTop (mkF m 10 #[.val (.ref a1), .val (.double tg), .second, .val (.double (FP.i2d P)), .second, .val (.int la), .val (.int (Int32.ofNat 4))] [(.int (Int32.ofNat 4))])) _
    refine XS.aloadN X0.here hx rfl (hb hby d2_10) rfl rfl ?_
    show Steps p.tables e below (T0.setTop (mkF m 11 #[.val (.ref a1), .val (.double tg), .second, .val (.double (FP.i2d P)), .second, .val (.int la), .val (.int (Int32.ofNat 4))] [(.ref a1), (.int (Int32.ofNat 4))])) _
    refine X0.arraylength hx (by rw [e0]; exact Ar.1) (State.isArrayOf_alike hZ.alike Ar.2.1) (g := (mkF m 11 #[.val (.ref a1), .val (.double tg), .second, .val (.double (FP.i2d P)), .second, .val (.int la), .val (.int (Int32.ofNat 4))] [(.ref a1), (.int (Int32.ofNat 4))])) rfl rfl (hb hby d2_11) _ ?_
    rw [len_of S1 (by decide)]
    show Steps p.tables e below (T0.setTop (mkF m 12 #[.val (.ref a1), .val (.double tg), .second, .val (.double (FP.i2d P)), .second, .val (.int la), .val (.int (Int32.ofNat 4))] [(.int (4 : Int32)), (.int (Int32.ofNat 4))])) _
    refine XS.icmpYes X0.here hx rfl (pc0 := 12) (pc' := 50) rfl (hb hby d2_12) rfl (flt (hge : ¬ ((Int32.ofNat 4) < (4 : Int32)))).2.1 (by decide) (by decide) ?_
    show Steps p.tables e below (T0.setTop (mkF m 50 #[.val (.ref a1), .val (.double tg), .second, .val (.double (FP.i2d P)), .second, .val (.int la), .val (.int (Int32.ofNat 4))] [])) _
    refine XS.iload X0.here hx rfl (hb hby d2_50) rfl ?_
    exact kt
  | cons s1 r ih =>
    intro i P la hi hP hbd hr ha
    have hi' : i + 1 + r.length = 4 := by simp only [List.length_cons] at hi; omega
    have hlt : Int32.ofNat i < (4 : Int32) := lt32 (b := 4) (by decide) (by omega)
    have b1 := (hr s1 (List.mem_cons_self ..)).1
    have b2 := (hr s1 (List.mem_cons_self ..)).2
    have hr' : ∀ x ∈ r, 0 ≤ x.toInt ∧ x.toInt ≤ 65535 := fun x hx => hr x (List.mem_cons_of_mem _ hx)
    have hb' : P.toInt + 65535 * r.length + 65535 ≤ 262140 := by simp only [List.length_cons] at hbd; omega
    have hl0 : (0 : Int) ≤ r.length := by omega
    have hn : (Int32.ofNat i).toNatClampNeg = i := n32 (by omega)
    have hin : ¬ (Int32.ofNat i < 0 ∨ cl.slots.size ≤ (Int32.ofNat i).toNatClampNeg) := by
      rw [hn, S1]
      have : (4 : Int32).toNatClampNeg = 4 := by decide
      rintro (q | q)
      · exact nlt32 (a := i) (b := 0) (by omega) (by omega) q
      · omega
    have hat : cl.slots[(Int32.ofNat i).toNatClampNeg]? = some (.double (FP.i2d s1)) := by
      rw [hn]; have := ha 0 (by simp); simpa using this
    have ha' : ∀ j, j < r.length → cl.slots[i + 1 + j]? = some (.double (FP.i2d (r.getD j 0))) := by
      intro j hj
      have := ha (j + 1) (by simp; omega)
      rw [show i + 1 + j = i + (j + 1) by omega]; simpa using this
    have ea : (P + s1).toInt = P.toInt + s1.toInt := own_add32 hP (by omega) b1 (by omega)
    have nn := own_dadd_nn (P := P) (s := s1) hP (by omega) b1 (by omega)
    have va := own_dadd (P := P) (s := s1) hP (by omega) b1 (by omega)
    have es := succ32 i
    by_cases c1 : 0 < s1
    · have k1 := (own_i2d_pos s1).mpr c1
      have g := own_gt_half (P := P + s1) (t := t0) (by omega) (by omega)
      rw [← htg] at g
      by_cases c2 : t0 < 2 * (P + s1)
      · have k2 := g.mpr c2
        refine ⟨39, #[.val (.ref a1), .val (.double tg), .second, .val (.double (FP.i2d (P + s1))), .second, .val (.int la), .val (.int (Int32.ofNat i))], Or.inl rfl, fun t kt => ?_⟩
        rw [own_go, if_pos c1, if_pos c2] at kt
        show Steps p.tables e below (T0.setTop (mkF m 8 #[.val (.ref a1), .val (.double tg), .second, .val (.double (FP.i2d P)), .second, .val (.int la), .val (.int (Int32.ofNat i))] [])) _
        refine XS.iload X0.here hx rfl (hb hby d2_8) rfl ?_
        show Steps p.tables e below (T0.setTop (mkF m 10 #[.val (.ref a1), .val (.double tg), .second, .val (.double (FP.i2d P)), .second, .val (.int la), .val (.int (Int32.ofNat i))] [(.int (Int32.ofNat i))])) _
        refine XS.aloadN X0.here hx rfl (hb hby d2_10) rfl rfl ?_
        show Steps p.tables e below (T0.setTop (mkF m 11 #[.val (.ref a1), .val (.double tg), .second, .val (.double (FP.i2d P)), .second, .val (.int la), .val (.int (Int32.ofNat i))] [(.ref a1), (.int (Int32.ofNat i))])) _
        refine X0.arraylength hx (by rw [e0]; exact Ar.1) (State.isArrayOf_alike hZ.alike Ar.2.1) (g := (mkF m 11 #[.val (.ref a1), .val (.double tg), .second, .val (.double (FP.i2d P)), .second, .val (.int la), .val (.int (Int32.ofNat i))] [(.ref a1), (.int (Int32.ofNat i))])) rfl rfl (hb hby d2_11) _ ?_
        rw [len_of S1 (by decide)]
        show Steps p.tables e below (T0.setTop (mkF m 12 #[.val (.ref a1), .val (.double tg), .second, .val (.double (FP.i2d P)), .second, .val (.int la), .val (.int (Int32.ofNat i))] [(.int (4 : Int32)), (.int (Int32.ofNat i))])) _
        refine XS.icmpNo X0.here hx rfl (hb hby d2_12) rfl (tlt (hlt : (Int32.ofNat i) < (4 : Int32))).2.1 ?_
        show Steps p.tables e below (T0.setTop (mkF m 15 #[.val (.ref a1), .val (.double tg), .second, .val (.double (FP.i2d P)), .second, .val (.int la), .val (.int (Int32.ofNat i))] [])) _
        refine XS.aloadN X0.here hx rfl (hb hby d2_15) rfl rfl ?_
        show Steps p.tables e below (T0.setTop (mkF m 16 #[.val (.ref a1), .val (.double tg), .second, .val (.double (FP.i2d P)), .second, .val (.int la), .val (.int (Int32.ofNat i))] [(.ref a1)])) _
        refine XS.iload X0.here hx rfl (hb hby d2_16) rfl ?_
        show Steps p.tables e below (T0.setTop (mkF m 18 #[.val (.ref a1), .val (.double tg), .second, .val (.double (FP.i2d P)), .second, .val (.int la), .val (.int (Int32.ofNat i))] [(.int (Int32.ofNat i)), (.ref a1)])) _
        refine X0.daload hx (j := (Int32.ofNat i)) (v := (.double (FP.i2d s1))) (by rw [e0]; exact Ar.1) (State.isArrayOf_alike hZ.alike Ar.2.1) Ar.2.2 hin hat (g := (mkF m 18 #[.val (.ref a1), .val (.double tg), .second, .val (.double (FP.i2d P)), .second, .val (.int la), .val (.int (Int32.ofNat i))] [(.int (Int32.ofNat i)), (.ref a1)])) rfl rfl (hb hby d2_18) _ ?_
        show Steps p.tables e below (T0.setTop (mkF m 19 #[.val (.ref a1), .val (.double tg), .second, .val (.double (FP.i2d P)), .second, .val (.int la), .val (.int (Int32.ofNat i))] [(.double (FP.i2d s1))])) _
        refine XS.dconst0 X0.here hx rfl (hb hby d2_19) (v := (FP.dconst0)) rfl ?_
        show Steps p.tables e below (T0.setTop (mkF m 20 #[.val (.ref a1), .val (.double tg), .second, .val (.double (FP.i2d P)), .second, .val (.int la), .val (.int (Int32.ofNat i))] [(.double (FP.dconst0)), (.double (FP.i2d s1))])) _
        refine XS.dcmpS X0.here hx rfl (hb hby d2_20) rfl (v := (cmpValue (FP.dcmp (FP.i2d s1) (FP.dconst0)) .l)) rfl ?_
        show Steps p.tables e below (T0.setTop (mkF m 21 #[.val (.ref a1), .val (.double tg), .second, .val (.double (FP.i2d P)), .second, .val (.int la), .val (.int (Int32.ofNat i))] [(.int (cmpValue (FP.dcmp (FP.i2d s1) (FP.dconst0)) .l))])) _
        refine XS.ifNo X0.here hx rfl (hb hby d2_21) rfl ((if0 _ _).trans (tlt (k1 : (0 : Int32) < (cmpValue (FP.dcmp (FP.i2d s1) (FP.dconst0)) .l))).2.2.2) ?_
        show Steps p.tables e below (T0.setTop (mkF m 24 #[.val (.ref a1), .val (.double tg), .second, .val (.double (FP.i2d P)), .second, .val (.int la), .val (.int (Int32.ofNat i))] [])) _
        refine XS.dloadN X0.here hx rfl (hb hby d2_24) rfl ?_
        show Steps p.tables e below (T0.setTop (mkF m 25 #[.val (.ref a1), .val (.double tg), .second, .val (.double (FP.i2d P)), .second, .val (.int la), .val (.int (Int32.ofNat i))] [(.double (FP.i2d P))])) _
        refine XS.aloadN X0.here hx rfl (hb hby d2_25) rfl rfl ?_
        show Steps p.tables e below (T0.setTop (mkF m 26 #[.val (.ref a1), .val (.double tg), .second, .val (.double (FP.i2d P)), .second, .val (.int la), .val (.int (Int32.ofNat i))] [(.ref a1), (.double (FP.i2d P))])) _
        refine XS.iload X0.here hx rfl (hb hby d2_26) rfl ?_
        show Steps p.tables e below (T0.setTop (mkF m 28 #[.val (.ref a1), .val (.double tg), .second, .val (.double (FP.i2d P)), .second, .val (.int la), .val (.int (Int32.ofNat i))] [(.int (Int32.ofNat i)), (.ref a1), (.double (FP.i2d P))])) _
        refine X0.daload hx (j := (Int32.ofNat i)) (v := (.double (FP.i2d s1))) (by rw [e0]; exact Ar.1) (State.isArrayOf_alike hZ.alike Ar.2.1) Ar.2.2 hin hat (g := (mkF m 28 #[.val (.ref a1), .val (.double tg), .second, .val (.double (FP.i2d P)), .second, .val (.int la), .val (.int (Int32.ofNat i))] [(.int (Int32.ofNat i)), (.ref a1), (.double (FP.i2d P))])) rfl rfl (hb hby d2_28) _ ?_
        show Steps p.tables e below (T0.setTop (mkF m 29 #[.val (.ref a1), .val (.double tg), .second, .val (.double (FP.i2d P)), .second, .val (.int la), .val (.int (Int32.ofNat i))] [(.double (FP.i2d s1)), (.double (FP.i2d P))])) _
        refine XS.daddS X0.here hx rfl (hb hby d2_29) rfl nn (v := (FP.i2d (P + s1))) va ?_
        show Steps p.tables e below (T0.setTop (mkF m 30 #[.val (.ref a1), .val (.double tg), .second, .val (.double (FP.i2d P)), .second, .val (.int la), .val (.int (Int32.ofNat i))] [(.double (FP.i2d (P + s1)))])) _
        refine XS.dstoreN X0.here hx rfl (hb hby d2_30) rfl (l' := #[.val (.ref a1), .val (.double tg), .second, .val (.double (FP.i2d (P + s1))), .second, .val (.int la), .val (.int (Int32.ofNat i))]) rfl ?_
        show Steps p.tables e below (T0.setTop (mkF m 31 #[.val (.ref a1), .val (.double tg), .second, .val (.double (FP.i2d (P + s1))), .second, .val (.int la), .val (.int (Int32.ofNat i))] [])) _
        refine XS.dloadN X0.here hx rfl (hb hby d2_31) rfl ?_
        show Steps p.tables e below (T0.setTop (mkF m 32 #[.val (.ref a1), .val (.double tg), .second, .val (.double (FP.i2d (P + s1))), .second, .val (.int la), .val (.int (Int32.ofNat i))] [(.double (FP.i2d (P + s1)))])) _
        refine XS.dloadN X0.here hx rfl (hb hby d2_32) rfl ?_
        show Steps p.tables e below (T0.setTop (mkF m 33 #[.val (.ref a1), .val (.double tg), .second, .val (.double (FP.i2d (P + s1))), .second, .val (.int la), .val (.int (Int32.ofNat i))] [(.double tg), (.double (FP.i2d (P + s1)))])) _
        refine XS.dcmpS X0.here hx rfl (hb hby d2_33) rfl (v := (cmpValue (FP.dcmp (FP.i2d (P + s1)) tg) .l)) rfl ?_
        show Steps p.tables e below (T0.setTop (mkF m 34 #[.val (.ref a1), .val (.double tg), .second, .val (.double (FP.i2d (P + s1))), .second, .val (.int la), .val (.int (Int32.ofNat i))] [(.int (cmpValue (FP.dcmp (FP.i2d (P + s1)) tg) .l))])) _
        refine XS.ifNo X0.here hx rfl (hb hby d2_34) rfl ((if0 _ _).trans (tlt (k2 : (0 : Int32) < (cmpValue (FP.dcmp (FP.i2d (P + s1)) tg) .l))).2.2.2) ?_
        show Steps p.tables e below (T0.setTop (mkF m 37 #[.val (.ref a1), .val (.double tg), .second, .val (.double (FP.i2d (P + s1))), .second, .val (.int la), .val (.int (Int32.ofNat i))] [])) _
        refine XS.iload X0.here hx rfl (hb hby d2_37) rfl ?_
        exact kt
      · have k2 : ¬ _ := fun q => c2 (g.mp q)
        obtain ⟨pc, Ls, hpc, hk⟩ := ih (i + 1) (P + s1) (Int32.ofNat i) hi' (by omega) (by omega) hr' ha'
        refine ⟨pc, Ls, hpc, fun t kt => ?_⟩
        rw [own_go, if_pos c1, if_neg c2] at kt
        have kt2 := hk t kt
        rw [← es] at kt2
        refine XS.iload X0.here hx rfl (hb hby d2_8) rfl ?_
        show Steps p.tables e below (T0.setTop (mkF m 10 #[.val (.ref a1), .val (.double tg), .second, .val (.double (FP.i2d P)), .second, .val (.int la), .val (.int (Int32.ofNat i))] [(.int (Int32.ofNat i))])) _
        refine XS.aloadN X0.here hx rfl (hb hby d2_10) rfl rfl ?_
        show Steps p.tables e below (T0.setTop (mkF m 11 #[.val (.ref a1), .val (.double tg), .second, .val (.double (FP.i2d P)), .second, .val (.int la), .val (.int (Int32.ofNat i))] [(.ref a1), (.int (Int32.ofNat i))])) _
        refine X0.arraylength hx (by rw [e0]; exact Ar.1) (State.isArrayOf_alike hZ.alike Ar.2.1) (g := (mkF m 11 #[.val (.ref a1), .val (.double tg), .second, .val (.double (FP.i2d P)), .second, .val (.int la), .val (.int (Int32.ofNat i))] [(.ref a1), (.int (Int32.ofNat i))])) rfl rfl (hb hby d2_11) _ ?_
        rw [len_of S1 (by decide)]
        show Steps p.tables e below (T0.setTop (mkF m 12 #[.val (.ref a1), .val (.double tg), .second, .val (.double (FP.i2d P)), .second, .val (.int la), .val (.int (Int32.ofNat i))] [(.int (4 : Int32)), (.int (Int32.ofNat i))])) _
        refine XS.icmpNo X0.here hx rfl (hb hby d2_12) rfl (tlt (hlt : (Int32.ofNat i) < (4 : Int32))).2.1 ?_
        show Steps p.tables e below (T0.setTop (mkF m 15 #[.val (.ref a1), .val (.double tg), .second, .val (.double (FP.i2d P)), .second, .val (.int la), .val (.int (Int32.ofNat i))] [])) _
        refine XS.aloadN X0.here hx rfl (hb hby d2_15) rfl rfl ?_
        show Steps p.tables e below (T0.setTop (mkF m 16 #[.val (.ref a1), .val (.double tg), .second, .val (.double (FP.i2d P)), .second, .val (.int la), .val (.int (Int32.ofNat i))] [(.ref a1)])) _
        refine XS.iload X0.here hx rfl (hb hby d2_16) rfl ?_
        show Steps p.tables e below (T0.setTop (mkF m 18 #[.val (.ref a1), .val (.double tg), .second, .val (.double (FP.i2d P)), .second, .val (.int la), .val (.int (Int32.ofNat i))] [(.int (Int32.ofNat i)), (.ref a1)])) _
        refine X0.daload hx (j := (Int32.ofNat i)) (v := (.double (FP.i2d s1))) (by rw [e0]; exact Ar.1) (State.isArrayOf_alike hZ.alike Ar.2.1) Ar.2.2 hin hat (g := (mkF m 18 #[.val (.ref a1), .val (.double tg), .second, .val (.double (FP.i2d P)), .second, .val (.int la), .val (.int (Int32.ofNat i))] [(.int (Int32.ofNat i)), (.ref a1)])) rfl rfl (hb hby d2_18) _ ?_
        show Steps p.tables e below (T0.setTop (mkF m 19 #[.val (.ref a1), .val (.double tg), .second, .val (.double (FP.i2d P)), .second, .val (.int la), .val (.int (Int32.ofNat i))] [(.double (FP.i2d s1))])) _
        refine XS.dconst0 X0.here hx rfl (hb hby d2_19) (v := (FP.dconst0)) rfl ?_
        show Steps p.tables e below (T0.setTop (mkF m 20 #[.val (.ref a1), .val (.double tg), .second, .val (.double (FP.i2d P)), .second, .val (.int la), .val (.int (Int32.ofNat i))] [(.double (FP.dconst0)), (.double (FP.i2d s1))])) _
        refine XS.dcmpS X0.here hx rfl (hb hby d2_20) rfl (v := (cmpValue (FP.dcmp (FP.i2d s1) (FP.dconst0)) .l)) rfl ?_
        show Steps p.tables e below (T0.setTop (mkF m 21 #[.val (.ref a1), .val (.double tg), .second, .val (.double (FP.i2d P)), .second, .val (.int la), .val (.int (Int32.ofNat i))] [(.int (cmpValue (FP.dcmp (FP.i2d s1) (FP.dconst0)) .l))])) _
        refine XS.ifNo X0.here hx rfl (hb hby d2_21) rfl ((if0 _ _).trans (tlt (k1 : (0 : Int32) < (cmpValue (FP.dcmp (FP.i2d s1) (FP.dconst0)) .l))).2.2.2) ?_
        show Steps p.tables e below (T0.setTop (mkF m 24 #[.val (.ref a1), .val (.double tg), .second, .val (.double (FP.i2d P)), .second, .val (.int la), .val (.int (Int32.ofNat i))] [])) _
        refine XS.dloadN X0.here hx rfl (hb hby d2_24) rfl ?_
        show Steps p.tables e below (T0.setTop (mkF m 25 #[.val (.ref a1), .val (.double tg), .second, .val (.double (FP.i2d P)), .second, .val (.int la), .val (.int (Int32.ofNat i))] [(.double (FP.i2d P))])) _
        refine XS.aloadN X0.here hx rfl (hb hby d2_25) rfl rfl ?_
        show Steps p.tables e below (T0.setTop (mkF m 26 #[.val (.ref a1), .val (.double tg), .second, .val (.double (FP.i2d P)), .second, .val (.int la), .val (.int (Int32.ofNat i))] [(.ref a1), (.double (FP.i2d P))])) _
        refine XS.iload X0.here hx rfl (hb hby d2_26) rfl ?_
        show Steps p.tables e below (T0.setTop (mkF m 28 #[.val (.ref a1), .val (.double tg), .second, .val (.double (FP.i2d P)), .second, .val (.int la), .val (.int (Int32.ofNat i))] [(.int (Int32.ofNat i)), (.ref a1), (.double (FP.i2d P))])) _
        refine X0.daload hx (j := (Int32.ofNat i)) (v := (.double (FP.i2d s1))) (by rw [e0]; exact Ar.1) (State.isArrayOf_alike hZ.alike Ar.2.1) Ar.2.2 hin hat (g := (mkF m 28 #[.val (.ref a1), .val (.double tg), .second, .val (.double (FP.i2d P)), .second, .val (.int la), .val (.int (Int32.ofNat i))] [(.int (Int32.ofNat i)), (.ref a1), (.double (FP.i2d P))])) rfl rfl (hb hby d2_28) _ ?_
        show Steps p.tables e below (T0.setTop (mkF m 29 #[.val (.ref a1), .val (.double tg), .second, .val (.double (FP.i2d P)), .second, .val (.int la), .val (.int (Int32.ofNat i))] [(.double (FP.i2d s1)), (.double (FP.i2d P))])) _
        refine XS.daddS X0.here hx rfl (hb hby d2_29) rfl nn (v := (FP.i2d (P + s1))) va ?_
        show Steps p.tables e below (T0.setTop (mkF m 30 #[.val (.ref a1), .val (.double tg), .second, .val (.double (FP.i2d P)), .second, .val (.int la), .val (.int (Int32.ofNat i))] [(.double (FP.i2d (P + s1)))])) _
        refine XS.dstoreN X0.here hx rfl (hb hby d2_30) rfl (l' := #[.val (.ref a1), .val (.double tg), .second, .val (.double (FP.i2d (P + s1))), .second, .val (.int la), .val (.int (Int32.ofNat i))]) rfl ?_
        show Steps p.tables e below (T0.setTop (mkF m 31 #[.val (.ref a1), .val (.double tg), .second, .val (.double (FP.i2d (P + s1))), .second, .val (.int la), .val (.int (Int32.ofNat i))] [])) _
        refine XS.dloadN X0.here hx rfl (hb hby d2_31) rfl ?_
        show Steps p.tables e below (T0.setTop (mkF m 32 #[.val (.ref a1), .val (.double tg), .second, .val (.double (FP.i2d (P + s1))), .second, .val (.int la), .val (.int (Int32.ofNat i))] [(.double (FP.i2d (P + s1)))])) _
        refine XS.dloadN X0.here hx rfl (hb hby d2_32) rfl ?_
        show Steps p.tables e below (T0.setTop (mkF m 33 #[.val (.ref a1), .val (.double tg), .second, .val (.double (FP.i2d (P + s1))), .second, .val (.int la), .val (.int (Int32.ofNat i))] [(.double tg), (.double (FP.i2d (P + s1)))])) _
        refine XS.dcmpS X0.here hx rfl (hb hby d2_33) rfl (v := (cmpValue (FP.dcmp (FP.i2d (P + s1)) tg) .l)) rfl ?_
        show Steps p.tables e below (T0.setTop (mkF m 34 #[.val (.ref a1), .val (.double tg), .second, .val (.double (FP.i2d (P + s1))), .second, .val (.int la), .val (.int (Int32.ofNat i))] [(.int (cmpValue (FP.dcmp (FP.i2d (P + s1)) tg) .l))])) _
        refine XS.ifYes X0.here hx rfl (pc0 := 34) (pc' := 40) rfl (hb hby d2_34) rfl ((if0 _ _).trans (flt (k2 : ¬ ((0 : Int32) < (cmpValue (FP.dcmp (FP.i2d (P + s1)) tg) .l)))).2.2.2) (by decide) (by decide) ?_
        show Steps p.tables e below (T0.setTop (mkF m 40 #[.val (.ref a1), .val (.double tg), .second, .val (.double (FP.i2d (P + s1))), .second, .val (.int la), .val (.int (Int32.ofNat i))] [])) _
        refine XS.iload X0.here hx rfl (hb hby d2_40) rfl ?_
        show Steps p.tables e below (T0.setTop (mkF m 42 #[.val (.ref a1), .val (.double tg), .second, .val (.double (FP.i2d (P + s1))), .second, .val (.int la), .val (.int (Int32.ofNat i))] [(.int (Int32.ofNat i))])) _
        refine XS.istore X0.here hx rfl (hb hby d2_42) rfl (l' := #[.val (.ref a1), .val (.double tg), .second, .val (.double (FP.i2d (P + s1))), .second, .val (.int (Int32.ofNat i)), .val (.int (Int32.ofNat i))]) rfl ?_
        show Steps p.tables e below (T0.setTop (mkF m 44 #[.val (.ref a1), .val (.double tg), .second, .val (.double (FP.i2d (P + s1))), .second, .val (.int (Int32.ofNat i)), .val (.int (Int32.ofNat i))] [])) _
        refine XS.iinc X0.here hx rfl (hb hby d2_44) rfl (l' := #[.val (.ref a1), .val (.double tg), .second, .val (.double (FP.i2d (P + s1))), .second, .val (.int (Int32.ofNat i)), .val (.int ((Int32.ofNat i) + (1 : Int32)))]) rfl ?_
        show Steps p.tables e below (T0.setTop (mkF m 47 #[.val (.ref a1), .val (.double tg), .second, .val (.double (FP.i2d (P + s1))), .second, .val (.int (Int32.ofNat i)), .val (.int ((Int32.ofNat i) + (1 : Int32)))] [])) _
        refine XS.goto X0.here hx rfl (pc0 := 47) (pc' := 8) rfl (hb hby d2_47) (by decide) (by decide) ?_
        exact kt2
    · have k1 : ¬ _ := fun q => c1 ((own_i2d_pos s1).mp q)
      obtain ⟨pc, Ls, hpc, hk⟩ := ih (i + 1) P la hi' hP (by omega) hr' ha'
      refine ⟨pc, Ls, hpc, fun t kt => ?_⟩
      rw [own_go, if_neg c1] at kt
      have kt2 := hk t kt
      rw [← es] at kt2
      refine XS.iload X0.here hx rfl (hb hby d2_8) rfl ?_
      show Steps p.tables e below (T0.setTop (mkF m 10 #[.val (.ref a1), .val (.double tg), .second, .val (.double (FP.i2d P)), .second, .val (.int la), .val (.int (Int32.ofNat i))] [(.int (Int32.ofNat i))])) _
      refine XS.aloadN X0.here hx rfl (hb hby d2_10) rfl rfl ?_
      show Steps p.tables e below (T0.setTop (mkF m 11 #[.val (.ref a1), .val (.double tg), .second, .val (.double (FP.i2d P)), .second, .val (.int la), .val (.int (Int32.ofNat i))] [(.ref a1), (.int (Int32.ofNat i))])) _
      refine X0.arraylength hx (by rw [e0]; exact Ar.1) (State.isArrayOf_alike hZ.alike Ar.2.1) (g := (mkF m 11 #[.val (.ref a1), .val (.double tg), .second, .val (.double (FP.i2d P)), .second, .val (.int la), .val (.int (Int32.ofNat i))] [(.ref a1), (.int (Int32.ofNat i))])) rfl rfl (hb hby d2_11) _ ?_
      rw [len_of S1 (by decide)]
      show Steps p.tables e below (T0.setTop (mkF m 12 #[.val (.ref a1), .val (.double tg), .second, .val (.double (FP.i2d P)), .second, .val (.int la), .val (.int (Int32.ofNat i))] [(.int (4 : Int32)), (.int (Int32.ofNat i))])) _
      refine XS.icmpNo X0.here hx rfl (hb hby d2_12) rfl (tlt (hlt : (Int32.ofNat i) < (4 : Int32))).2.1 ?_
      show Steps p.tables e below (T0.setTop (mkF m 15 #[.val (.ref a1), .val (.double tg), .second, .val (.double (FP.i2d P)), .second, .val (.int la), .val (.int (Int32.ofNat i))] [])) _
      refine XS.aloadN X0.here hx rfl (hb hby d2_15) rfl rfl ?_
      show Steps p.tables e below (T0.setTop (mkF m 16 #[.val (.ref a1), .val (.double tg), .second, .val (.double (FP.i2d P)), .second, .val (.int la), .val (.int (Int32.ofNat i))] [(.ref a1)])) _
      refine XS.iload X0.here hx rfl (hb hby d2_16) rfl ?_
      show Steps p.tables e below (T0.setTop (mkF m 18 #[.val (.ref a1), .val (.double tg), .second, .val (.double (FP.i2d P)), .second, .val (.int la), .val (.int (Int32.ofNat i))] [(.int (Int32.ofNat i)), (.ref a1)])) _
      refine X0.daload hx (j := (Int32.ofNat i)) (v := (.double (FP.i2d s1))) (by rw [e0]; exact Ar.1) (State.isArrayOf_alike hZ.alike Ar.2.1) Ar.2.2 hin hat (g := (mkF m 18 #[.val (.ref a1), .val (.double tg), .second, .val (.double (FP.i2d P)), .second, .val (.int la), .val (.int (Int32.ofNat i))] [(.int (Int32.ofNat i)), (.ref a1)])) rfl rfl (hb hby d2_18) _ ?_
      show Steps p.tables e below (T0.setTop (mkF m 19 #[.val (.ref a1), .val (.double tg), .second, .val (.double (FP.i2d P)), .second, .val (.int la), .val (.int (Int32.ofNat i))] [(.double (FP.i2d s1))])) _
      refine XS.dconst0 X0.here hx rfl (hb hby d2_19) (v := (FP.dconst0)) rfl ?_
      show Steps p.tables e below (T0.setTop (mkF m 20 #[.val (.ref a1), .val (.double tg), .second, .val (.double (FP.i2d P)), .second, .val (.int la), .val (.int (Int32.ofNat i))] [(.double (FP.dconst0)), (.double (FP.i2d s1))])) _
      refine XS.dcmpS X0.here hx rfl (hb hby d2_20) rfl (v := (cmpValue (FP.dcmp (FP.i2d s1) (FP.dconst0)) .l)) rfl ?_
      show Steps p.tables e below (T0.setTop (mkF m 21 #[.val (.ref a1), .val (.double tg), .second, .val (.double (FP.i2d P)), .second, .val (.int la), .val (.int (Int32.ofNat i))] [(.int (cmpValue (FP.dcmp (FP.i2d s1) (FP.dconst0)) .l))])) _
      refine XS.ifYes X0.here hx rfl (pc0 := 21) (pc' := 44) rfl (hb hby d2_21) rfl ((if0 _ _).trans (flt (k1 : ¬ ((0 : Int32) < (cmpValue (FP.dcmp (FP.i2d s1) (FP.dconst0)) .l)))).2.2.2) (by decide) (by decide) ?_
      show Steps p.tables e below (T0.setTop (mkF m 44 #[.val (.ref a1), .val (.double tg), .second, .val (.double (FP.i2d P)), .second, .val (.int la), .val (.int (Int32.ofNat i))] [])) _
      refine XS.iinc X0.here hx rfl (hb hby d2_44) rfl (l' := #[.val (.ref a1), .val (.double tg), .second, .val (.double (FP.i2d P)), .second, .val (.int la), .val (.int ((Int32.ofNat i) + (1 : Int32)))]) rfl ?_
      show Steps p.tables e below (T0.setTop (mkF m 47 #[.val (.ref a1), .val (.double tg), .second, .val (.double (FP.i2d P)), .second, .val (.int la), .val (.int ((Int32.ofNat i) + (1 : Int32)))] [])) _
      refine XS.goto X0.here hx rfl (pc0 := 47) (pc' := 8) rfl (hb hby d2_47) (by decide) (by decide) ?_
      exact kt2
def Q2 (Z : State) (a1 : Addr) (tg : UInt64) (t0 s0 s1 s2 s3 : Int32) (kk : ClassId) (h0 : Heap) (n0 : Nat) (v : Option Value) (h : Heap) (L : List Loc) : Prop := v = some (.int (own_go t0 0 0 (-1) [s0, s1, s2, s3])) ∧ Fr n0 L ∧ h = h0
set_option maxRecDepth 65536 in
set_option maxHeartbeats 40000000 in
theorem rm2 (l : Launch) (Z : State) (a0 : Array Value) (hw : ∀ d ∈ tables_1, d.before a0 Z = true) (ws : List Jvm.Cond) (a1 : Addr) (tg : UInt64) (t0 s0 s1 s2 s3 : Int32) (kk : ClassId) (h0 : Heap) (n0 : Nat) (Z0 : n0 ≤ h0.size) (htg : tg = (FP.ddiv (FP.i2d t0) (4611686018427387904 : UInt64))) (V1 : Arv Z h0 a1 kk .double (4 : Int32) [(.double (FP.i2d s0)), (.double (FP.i2d s1)), (.double (FP.i2d s2)), (.double (FP.i2d s3))] (.double (0 : UInt64))) (hs : ∀ x ∈ [s0, s1, s2, s3], 0 ≤ x.toInt ∧ x.toInt ≤ 65535) :
    MetFree l (⟨"com/example/cairnwise/cairnwise/cluster/KmeansPlusPlus", "draw", "([DD)I"⟩ : MethodName) (head1 (Jvm.Cond.code (⟨"com/example/cairnwise/cairnwise/cluster/KmeansPlusPlus", "draw", "([DD)I"⟩ : MethodName) prog_18_method_6_code 7 (some .int) :: ws) ({ frames := 0, cells := 0, slots := 0, locals := 0 } : Room)) (fun a U => a = #[(.ref a1), (.double tg)] ∧ Z.Warmed39 U.vm ∧ U.heap = h0) (fun _ _ _ _ _ => True) (fun _ U o U' => ∃ v L, o = .returned v ∧ Q2 Z a1 tg t0 s0 s1 s2 s3 kk h0 n0 v U'.heap L ∧ FrameEnd U o U' L ({ frames := 0, cells := 0, slots := 0, locals := 0 } : Room).cells ({ frames := 0, cells := 0, slots := 0, locals := 0 } : Room).slots) := by
  refine MetFree.of_bodySF (plainFor_of_name pn_2) hisR ?_
  intro p e s m args below meth c s₁ Bd hml0 hP hK
  obtain ⟨rfl, hZ, hh⟩ := hP
  have hx := Bd.exec
  have hby := Bd.bytes
  have hml : c.maxLocals = 7 := hml0
  have hown : s.vm.findClass "com/example/cairnwise/cairnwise/cluster/KmeansPlusPlus" = some m.cls := findClass_of_methodNamed Bd.named
  have hnm := (name_of_methodNamed Bd.named Bd.method).1
  have X0 : Stand p l e ({ frames := 0, cells := 0, slots := 0, locals := 0 } : Room) s m #[(.ref a1), (.double tg)] below meth c s₁ [] 0 0 := Stand.of_body Bd
  have e0 : s₁.heap = h0 := by rw [← hh, Bd.state]; rfl
  have N0 := Fr.nil n0
  have pre0 : ∀ t, Steps p.tables e below (s₁.setTop (mkF m 0 #[.val (.ref a1), .val (.double tg), .second, .unset, .unset, .unset, .unset] [])) t → Steps p.tables e below (s₁.setTop (entryFrame m #[(.ref a1), (.double tg)] 7)) t := fun t k => castTop (ef_2 m a1 tg) k
  have sg1 : ∀ t, Steps p.tables e below (s₁.setTop (mkF m 8 #[.val (.ref a1), .val (.double tg), .second, .val (.double (FP.i2d 0)), .second, .val (.int (-1 : Int32)), .val (.int (0 : Int32))] [])) t → Steps p.tables e below (s₁.setTop (mkF m 0 #[.val (.ref a1), .val (.double tg), .second, .unset, .unset, .unset, .unset] [])) t := by
    intro t kt
    refine XS.dconst0 X0.here hx rfl (hb hby d2_0) (v := (FP.i2d 0)) (by decide +kernel) ?_
    show Steps p.tables e below (s₁.setTop (mkF m 1 #[.val (.ref a1), .val (.double tg), .second, .unset, .unset, .unset, .unset] [(.double (FP.i2d 0))])) _
    refine XS.dstoreN X0.here hx rfl (hb hby d2_1) rfl (l' := #[.val (.ref a1), .val (.double tg), .second, .val (.double (FP.i2d 0)), .second, .unset, .unset]) rfl ?_
    show Steps p.tables e below (s₁.setTop (mkF m 2 #[.val (.ref a1), .val (.double tg), .second, .val (.double (FP.i2d 0)), .second, .unset, .unset] [])) _
    refine XS.iconst X0.here hx rfl (hb hby d2_2) ?_
    show Steps p.tables e below (s₁.setTop (mkF m 3 #[.val (.ref a1), .val (.double tg), .second, .val (.double (FP.i2d 0)), .second, .unset, .unset] [(.int (-1 : Int32))])) _
    refine XS.istore X0.here hx rfl (hb hby d2_3) rfl (l' := #[.val (.ref a1), .val (.double tg), .second, .val (.double (FP.i2d 0)), .second, .val (.int (-1 : Int32)), .unset]) rfl ?_
    show Steps p.tables e below (s₁.setTop (mkF m 5 #[.val (.ref a1), .val (.double tg), .second, .val (.double (FP.i2d 0)), .second, .val (.int (-1 : Int32)), .unset] [])) _
    refine XS.iconst X0.here hx rfl (hb hby d2_5) ?_
    show Steps p.tables e below (s₁.setTop (mkF m 6 #[.val (.ref a1), .val (.double tg), .second, .val (.double (FP.i2d 0)), .second, .val (.int (-1 : Int32)), .unset] [(.int (0 : Int32))])) _
    refine XS.istore X0.here hx rfl (hb hby d2_6) rfl (l' := #[.val (.ref a1), .val (.double tg), .second, .val (.double (FP.i2d 0)), .second, .val (.int (-1 : Int32)), .val (.int (0 : Int32))]) rfl ?_
    exact kt
  obtain ⟨cl, Ar, -, S1, -, H1, -⟩ := V1
  obtain ⟨pc, Ls, hpc, hk⟩ := own_loop t0 a1 cl tg htg X0 hx hZ hby e0 Ar S1 [s0, s1, s2, s3] 0 0 (-1) rfl (by decide) (by show (0 : Int32).toInt + 65535 * ((4 : Nat) : Int) ≤ 262140; decide) hs (by
    intro j hj
    rw [Nat.zero_add, H1 j (by rw [S1]; exact hj)]
    match j, hj with
    | 0, _ => rfl
    | 1, _ => rfl
    | 2, _ => rfl
    | 3, _ => rfl)
  have hd : decode c.code pc = .ok (.ireturn, 1) := by
    rcases hpc with rfl | rfl
    · exact hb hby d2_39
    · exact hb hby d2_52
  obtain ⟨fs, hr, hrun, hended, hW, hsame⟩ := X0.leave (v := some (.int (own_go t0 0 0 (-1) [s0, s1, s2, s3]))) (fun h => by rw [Bd.returns] at h; cases h)
  refine ⟨_, _, pre0 _ ?_, hrun, hended, _, _, rfl, ?_, ⟨_, rfl⟩, hW, hsame.mono (by decide) (by decide)⟩
  · refine sg1 _ ?_
    refine hk _ ?_
    exact retI X0 hx Bd.returns hd hr
  · show Q2 Z a1 tg t0 s0 s1 s2 s3 kk h0 n0 _ s₁.heap _
    rw [e0]; exact ⟨rfl, N0, rfl⟩
theorem pn_0 : plainName "com/example/cairnwise/cairnwise/cluster/KmeansPlusPlusDrawPinLaw" = true := by first | (simp [plainName, overriddenIn]; done) | decide +kernel
theorem ef_0 (m : MethodId) (x0 : Int32) (x1 : Int32) (x2 : Int32) (x3 : Int32) (x4 : Int32) (x5 : Int32) : entryFrame m #[(.int x0), (.int x1), (.int x2), (.int x3), (.int x4), (.int x5)] maxLocals = mkF m 0 #[.val (.int x0), .val (.int x1), .val (.int x2), .val (.int x3), .val (.int x4), .val (.int x5), .unset, .unset, .unset, .unset, .unset, .unset, .unset, .unset, .unset, .unset, .unset, .unset] [] := by first | (simp [entryFrame, mkF, argsToLocals, Value.category, maxLocals]; done) | rfl
theorem pd_0 : parseMethodDescriptor "(I)I" = some ⟨[.int], some .int⟩ := by decide +kernel
theorem pd_1 : parseMethodDescriptor "([DD)I" = some ⟨[(.array .double), .double], some .int⟩ := by decide +kernel
def Q0 (Z : State) (i0 i1 i2 i3 i4 i5 : Int32) (h0 : Heap) (n0 : Nat) (v : Option Value) (h : Heap) (L : List Loc) : Prop := v = some (.int 1) ∧ Fr n0 L
set_option maxRecDepth 65536 in
set_option maxHeartbeats 40000000 in
theorem rm0 (l : Launch) (Z : State) (a0 : Array Value) (hw : ∀ d ∈ tables_1, d.before a0 Z = true) (ws : List Jvm.Cond) (i0 i1 i2 i3 i4 i5 : Int32) (h0 : Heap) (n0 : Nat) (Z0 : n0 ≤ h0.size)  :
    MetFree l x (head1 (Jvm.Cond.code x code maxLocals ret :: ws) room_1) (fun a U => a = #[(.int i0), (.int i1), (.int i2), (.int i3), (.int i4), (.int i5)] ∧ Z.Warmed39 U.vm ∧ U.heap = h0) (fun _ _ _ _ _ => True) (fun _ U o U' => ∃ v L, o = .returned v ∧ Q0 Z i0 i1 i2 i3 i4 i5 h0 n0 v U'.heap L ∧ FrameEnd U o U' L 1 4) := by
  refine MetFree.of_bodySF (plainFor_of_name pn_0) hisR ?_
  intro p e s m args below meth c s₁ Bd hml0 hP hK
  obtain ⟨rfl, hZ, hh⟩ := hP
  have hx := Bd.exec
  have hby := Bd.bytes
  have hml : c.maxLocals = 18 := hml0
  have hown : s.vm.findClass "com/example/cairnwise/cairnwise/cluster/KmeansPlusPlusDrawPinLaw" = some m.cls := findClass_of_methodNamed Bd.named
  have hnm := (name_of_methodNamed Bd.named Bd.method).1
  have X0 : Stand p l e room_1 s m #[(.int i0), (.int i1), (.int i2), (.int i3), (.int i4), (.int i5)] below meth c s₁ [] 0 0 := Stand.of_body Bd
  have e0 : s₁.heap = h0 := by rw [← hh, Bd.state]; rfl
  have N0 := Fr.nil n0
  have pre0 : ∀ t, Steps p.tables e below (s₁.setTop (mkF m 0 #[.val (.int i0), .val (.int i1), .val (.int i2), .val (.int i3), .val (.int i4), .val (.int i5), .unset, .unset, .unset, .unset, .unset, .unset, .unset, .unset, .unset, .unset, .unset, .unset] [])) t → Steps p.tables e below (s₁.setTop (entryFrame m #[(.int i0), (.int i1), (.int i2), (.int i3), (.int i4), (.int i5)] maxLocals)) t := fun t k => castTop (ef_0 m i0 i1 i2 i3 i4 i5) k
  have sg1 : ∀ t, Steps p.tables e below (s₁.setTop (mkF m 1 #[.val (.int i0), .val (.int i1), .val (.int i2), .val (.int i3), .val (.int i4), .val (.int i5), .unset, .unset, .unset, .unset, .unset, .unset, .unset, .unset, .unset, .unset, .unset, .unset] [(.int i0)])) t → Steps p.tables e below (s₁.setTop (mkF m 0 #[.val (.int i0), .val (.int i1), .val (.int i2), .val (.int i3), .val (.int i4), .val (.int i5), .unset, .unset, .unset, .unset, .unset, .unset, .unset, .unset, .unset, .unset, .unset, .unset] [])) t := by
    intro t kt
    refine XS.iloadN X0.here hx rfl (hb hby at_0) rfl ?_
    exact kt
  obtain ⟨_, _, ⟨T2, L2, k2, n2⟩, -, X2, ⟨Lc2, hQ2, l2, y2, z2⟩, st2⟩ := Jvm.LawKit.callS X0 hx (y := (⟨"com/example/cairnwise/cairnwise/cluster/KmeansPlusPlusDrawPinLaw", "share", "(I)I"⟩ : MethodName)) hown (mvT hZ (hw _ (List.mem_of_getElem? (i := 0) rfl))) (mvT hZ (hw _ (List.mem_of_getElem? (i := 1) rfl))) (mvT hZ (hw _ (List.mem_of_getElem? (i := 2) rfl))) (mvT hZ (hw _ (List.mem_of_getElem? (i := 3) rfl))) (by decide) (backOf (W := 0) (rm1 l Z a0 hw [] i0 h0 n0 Z0 ) hZ (hw _ (List.mem_of_getElem? (i := 3) rfl)) (hw _ (List.mem_of_getElem? (i := 2) rfl)) (by decide) (by decide)) (g := (mkF m 1 #[.val (.int i0), .val (.int i1), .val (.int i2), .val (.int i3), .val (.int i4), .val (.int i5), .unset, .unset, .unset, .unset, .unset, .unset, .unset, .unset, .unset, .unset, .unset, .unset] [(.int i0)])) rfl (by rw [hml]; rfl) (argsL := [(.int i0)]) (rest := []) (lenOf pd_0 rfl) rfl (by show 2 * 0 + _ ≤ _; exact Nat.le_of_eq rfl) (hb hby at_1) (fun _ _ => ⟨rfl, e0, (by decide : 0 + 0 ≤ _), (by decide : 0 + 0 ≤ _)⟩)
  dsimp only [Pt.U, Pt.locs, Pt.cells, Pt.slots] at X2 l2 y2 z2 st2 hQ2
  subst l2 y2 z2
  obtain ⟨rfl, Nq2, eq2⟩ := hQ2
  have N2 := Fr.app N0 Nq2
  have sg3 : ∀ t, Steps p.tables e below (T2.setTop (mkF m 7 #[.val (.int i0), .val (.int i1), .val (.int i2), .val (.int i3), .val (.int i4), .val (.int i5), .val (.int (own_share i0)), .unset, .unset, .unset, .unset, .unset, .unset, .unset, .unset, .unset, .unset, .unset] [(.int i1)])) t → Steps p.tables e below (T2.setTop (mkF m 4 #[.val (.int i0), .val (.int i1), .val (.int i2), .val (.int i3), .val (.int i4), .val (.int i5), .unset, .unset, .unset, .unset, .unset, .unset, .unset, .unset, .unset, .unset, .unset, .unset] [(.int (own_share i0))])) t := by
    intro t kt
    refine XS.istore X2.here hx rfl (hb hby at_4) rfl (l' := #[.val (.int i0), .val (.int i1), .val (.int i2), .val (.int i3), .val (.int i4), .val (.int i5), .val (.int (own_share i0)), .unset, .unset, .unset, .unset, .unset, .unset, .unset, .unset, .unset, .unset, .unset]) rfl ?_
    show Steps p.tables e below (T2.setTop (mkF m 6 #[.val (.int i0), .val (.int i1), .val (.int i2), .val (.int i3), .val (.int i4), .val (.int i5), .val (.int (own_share i0)), .unset, .unset, .unset, .unset, .unset, .unset, .unset, .unset, .unset, .unset, .unset] [])) _
    refine XS.iloadN X2.here hx rfl (hb hby at_6) rfl ?_
    exact kt
  obtain ⟨_, _, ⟨T4, L4, k4, n4⟩, -, X4, ⟨Lc4, hQ4, l4, y4, z4⟩, st4⟩ := Jvm.LawKit.callS X2 hx (y := (⟨"com/example/cairnwise/cairnwise/cluster/KmeansPlusPlusDrawPinLaw", "share", "(I)I"⟩ : MethodName)) hown (mvT hZ (hw _ (List.mem_of_getElem? (i := 0) rfl))) (mvT hZ (hw _ (List.mem_of_getElem? (i := 1) rfl))) (mvT hZ (hw _ (List.mem_of_getElem? (i := 2) rfl))) (mvT hZ (hw _ (List.mem_of_getElem? (i := 3) rfl))) (by decide) (backOf (W := 0) (rm1 l Z a0 hw [] i1 h0 n0 Z0 ) hZ (hw _ (List.mem_of_getElem? (i := 3) rfl)) (hw _ (List.mem_of_getElem? (i := 2) rfl)) (by decide) (by decide)) (g := (mkF m 7 #[.val (.int i0), .val (.int i1), .val (.int i2), .val (.int i3), .val (.int i4), .val (.int i5), .val (.int (own_share i0)), .unset, .unset, .unset, .unset, .unset, .unset, .unset, .unset, .unset, .unset, .unset] [(.int i1)])) rfl (by rw [hml]; rfl) (argsL := [(.int i1)]) (rest := []) (lenOf pd_0 rfl) rfl (by show 2 * 0 + _ ≤ _; exact Nat.le_of_eq rfl) (hb hby at_7) (fun _ _ => ⟨rfl, eq2, (by decide : 0 + 0 ≤ _), (by decide : 0 + 0 ≤ _)⟩)
  dsimp only [Pt.U, Pt.locs, Pt.cells, Pt.slots] at X4 l4 y4 z4 st4 hQ4
  subst l4 y4 z4
  obtain ⟨rfl, Nq4, eq4⟩ := hQ4
  have N4 := Fr.app N2 Nq4
  have sg5 : ∀ t, Steps p.tables e below (T4.setTop (mkF m 13 #[.val (.int i0), .val (.int i1), .val (.int i2), .val (.int i3), .val (.int i4), .val (.int i5), .val (.int (own_share i0)), .val (.int (own_share i1)), .unset, .unset, .unset, .unset, .unset, .unset, .unset, .unset, .unset, .unset] [(.int i2)])) t → Steps p.tables e below (T4.setTop (mkF m 10 #[.val (.int i0), .val (.int i1), .val (.int i2), .val (.int i3), .val (.int i4), .val (.int i5), .val (.int (own_share i0)), .unset, .unset, .unset, .unset, .unset, .unset, .unset, .unset, .unset, .unset, .unset] [(.int (own_share i1))])) t := by
    intro t kt
    refine XS.istore X4.here hx rfl (hb hby at_10) rfl (l' := #[.val (.int i0), .val (.int i1), .val (.int i2), .val (.int i3), .val (.int i4), .val (.int i5), .val (.int (own_share i0)), .val (.int (own_share i1)), .unset, .unset, .unset, .unset, .unset, .unset, .unset, .unset, .unset, .unset]) rfl ?_
    show Steps p.tables e below (T4.setTop (mkF m 12 #[.val (.int i0), .val (.int i1), .val (.int i2), .val (.int i3), .val (.int i4), .val (.int i5), .val (.int (own_share i0)), .val (.int (own_share i1)), .unset, .unset, .unset, .unset, .unset, .unset, .unset, .unset, .unset, .unset] [])) _
    refine XS.iloadN X4.here hx rfl (hb hby at_12) rfl ?_
    exact kt
  obtain ⟨_, _, ⟨T6, L6, k6, n6⟩, -, X6, ⟨Lc6, hQ6, l6, y6, z6⟩, st6⟩ := Jvm.LawKit.callS X4 hx (y := (⟨"com/example/cairnwise/cairnwise/cluster/KmeansPlusPlusDrawPinLaw", "share", "(I)I"⟩ : MethodName)) hown (mvT hZ (hw _ (List.mem_of_getElem? (i := 0) rfl))) (mvT hZ (hw _ (List.mem_of_getElem? (i := 1) rfl))) (mvT hZ (hw _ (List.mem_of_getElem? (i := 2) rfl))) (mvT hZ (hw _ (List.mem_of_getElem? (i := 3) rfl))) (by decide) (backOf (W := 0) (rm1 l Z a0 hw [] i2 h0 n0 Z0 ) hZ (hw _ (List.mem_of_getElem? (i := 3) rfl)) (hw _ (List.mem_of_getElem? (i := 2) rfl)) (by decide) (by decide)) (g := (mkF m 13 #[.val (.int i0), .val (.int i1), .val (.int i2), .val (.int i3), .val (.int i4), .val (.int i5), .val (.int (own_share i0)), .val (.int (own_share i1)), .unset, .unset, .unset, .unset, .unset, .unset, .unset, .unset, .unset, .unset] [(.int i2)])) rfl (by rw [hml]; rfl) (argsL := [(.int i2)]) (rest := []) (lenOf pd_0 rfl) rfl (by show 2 * 0 + _ ≤ _; exact Nat.le_of_eq rfl) (hb hby at_13) (fun _ _ => ⟨rfl, eq4, (by decide : 0 + 0 ≤ _), (by decide : 0 + 0 ≤ _)⟩)
  dsimp only [Pt.U, Pt.locs, Pt.cells, Pt.slots] at X6 l6 y6 z6 st6 hQ6
  subst l6 y6 z6
  obtain ⟨rfl, Nq6, eq6⟩ := hQ6
  have N6 := Fr.app N4 Nq6
  have sg7 : ∀ t, Steps p.tables e below (T6.setTop (mkF m 19 #[.val (.int i0), .val (.int i1), .val (.int i2), .val (.int i3), .val (.int i4), .val (.int i5), .val (.int (own_share i0)), .val (.int (own_share i1)), .val (.int (own_share i2)), .unset, .unset, .unset, .unset, .unset, .unset, .unset, .unset, .unset] [(.int i3)])) t → Steps p.tables e below (T6.setTop (mkF m 16 #[.val (.int i0), .val (.int i1), .val (.int i2), .val (.int i3), .val (.int i4), .val (.int i5), .val (.int (own_share i0)), .val (.int (own_share i1)), .unset, .unset, .unset, .unset, .unset, .unset, .unset, .unset, .unset, .unset] [(.int (own_share i2))])) t := by
    intro t kt
    refine XS.istore X6.here hx rfl (hb hby at_16) rfl (l' := #[.val (.int i0), .val (.int i1), .val (.int i2), .val (.int i3), .val (.int i4), .val (.int i5), .val (.int (own_share i0)), .val (.int (own_share i1)), .val (.int (own_share i2)), .unset, .unset, .unset, .unset, .unset, .unset, .unset, .unset, .unset]) rfl ?_
    show Steps p.tables e below (T6.setTop (mkF m 18 #[.val (.int i0), .val (.int i1), .val (.int i2), .val (.int i3), .val (.int i4), .val (.int i5), .val (.int (own_share i0)), .val (.int (own_share i1)), .val (.int (own_share i2)), .unset, .unset, .unset, .unset, .unset, .unset, .unset, .unset, .unset] [])) _
    refine XS.iloadN X6.here hx rfl (hb hby at_18) rfl ?_
    exact kt
  obtain ⟨_, _, ⟨T8, L8, k8, n8⟩, -, X8, ⟨Lc8, hQ8, l8, y8, z8⟩, st8⟩ := Jvm.LawKit.callS X6 hx (y := (⟨"com/example/cairnwise/cairnwise/cluster/KmeansPlusPlusDrawPinLaw", "share", "(I)I"⟩ : MethodName)) hown (mvT hZ (hw _ (List.mem_of_getElem? (i := 0) rfl))) (mvT hZ (hw _ (List.mem_of_getElem? (i := 1) rfl))) (mvT hZ (hw _ (List.mem_of_getElem? (i := 2) rfl))) (mvT hZ (hw _ (List.mem_of_getElem? (i := 3) rfl))) (by decide) (backOf (W := 0) (rm1 l Z a0 hw [] i3 h0 n0 Z0 ) hZ (hw _ (List.mem_of_getElem? (i := 3) rfl)) (hw _ (List.mem_of_getElem? (i := 2) rfl)) (by decide) (by decide)) (g := (mkF m 19 #[.val (.int i0), .val (.int i1), .val (.int i2), .val (.int i3), .val (.int i4), .val (.int i5), .val (.int (own_share i0)), .val (.int (own_share i1)), .val (.int (own_share i2)), .unset, .unset, .unset, .unset, .unset, .unset, .unset, .unset, .unset] [(.int i3)])) rfl (by rw [hml]; rfl) (argsL := [(.int i3)]) (rest := []) (lenOf pd_0 rfl) rfl (by show 2 * 0 + _ ≤ _; exact Nat.le_of_eq rfl) (hb hby at_19) (fun _ _ => ⟨rfl, eq6, (by decide : 0 + 0 ≤ _), (by decide : 0 + 0 ≤ _)⟩)
  dsimp only [Pt.U, Pt.locs, Pt.cells, Pt.slots] at X8 l8 y8 z8 st8 hQ8
  subst l8 y8 z8
  obtain ⟨rfl, Nq8, eq8⟩ := hQ8
  have N8 := Fr.app N6 Nq8
  have sg9 : ∀ t, Steps p.tables e below (T8.setTop (mkF m 24 #[.val (.int i0), .val (.int i1), .val (.int i2), .val (.int i3), .val (.int i4), .val (.int i5), .val (.int (own_share i0)), .val (.int (own_share i1)), .val (.int (own_share i2)), .val (.int (own_share i3)), .unset, .unset, .unset, .unset, .unset, .unset, .unset, .unset] [])) t → Steps p.tables e below (T8.setTop (mkF m 22 #[.val (.int i0), .val (.int i1), .val (.int i2), .val (.int i3), .val (.int i4), .val (.int i5), .val (.int (own_share i0)), .val (.int (own_share i1)), .val (.int (own_share i2)), .unset, .unset, .unset, .unset, .unset, .unset, .unset, .unset, .unset] [(.int (own_share i3))])) t := by
    intro t kt
    refine XS.istore X8.here hx rfl (hb hby at_22) rfl (l' := #[.val (.int i0), .val (.int i1), .val (.int i2), .val (.int i3), .val (.int i4), .val (.int i5), .val (.int (own_share i0)), .val (.int (own_share i1)), .val (.int (own_share i2)), .val (.int (own_share i3)), .unset, .unset, .unset, .unset, .unset, .unset, .unset, .unset]) rfl ?_
    exact kt
  obtain ⟨s0, hs0⟩ : ∃ z, z = (own_share i0) := ⟨_, rfl⟩
  obtain ⟨s1, hs1⟩ : ∃ z, z = (own_share i1) := ⟨_, rfl⟩
  obtain ⟨s2, hs2⟩ : ∃ z, z = (own_share i2) := ⟨_, rfl⟩
  obtain ⟨s3, hs3⟩ : ∃ z, z = (own_share i3) := ⟨_, rfl⟩
  have cv10 : ∀ t, Steps p.tables e below (T8.setTop (mkF m 24 #[.val (.int i0), .val (.int i1), .val (.int i2), .val (.int i3), .val (.int i4), .val (.int i5), .val (.int s0), .val (.int s1), .val (.int s2), .val (.int s3), .unset, .unset, .unset, .unset, .unset, .unset, .unset, .unset] [])) t → Steps p.tables e below (T8.setTop (mkF m 24 #[.val (.int i0), .val (.int i1), .val (.int i2), .val (.int i3), .val (.int i4), .val (.int i5), .val (.int (own_share i0)), .val (.int (own_share i1)), .val (.int (own_share i2)), .val (.int (own_share i3)), .unset, .unset, .unset, .unset, .unset, .unset, .unset, .unset] [])) t := fun t kt => by subst hs0 hs1 hs2 hs3; exact kt
  have hb0 := own_share_b i0
  rw [← hs0] at hb0
  have hb1 := own_share_b i1
  rw [← hs1] at hb1
  have hb2 := own_share_b i2
  rw [← hs2] at hb2
  have hb3 := own_share_b i3
  rw [← hs3] at hb3
  have sg11 : ∀ t, Steps p.tables e below (T8.setTop (mkF m 49 #[.val (.int i0), .val (.int i1), .val (.int i2), .val (.int i3), .val (.int i4), .val (.int i5), .val (.int s0), .val (.int s1), .val (.int s2), .val (.int s3), .val (.int s0), .val (.int (s0 + s1)), .val (.int ((s0 + s1) + s2)), .val (.int (((s0 + s1) + s2) + s3)), .unset, .unset, .unset, .unset] [])) t → Steps p.tables e below (T8.setTop (mkF m 24 #[.val (.int i0), .val (.int i1), .val (.int i2), .val (.int i3), .val (.int i4), .val (.int i5), .val (.int s0), .val (.int s1), .val (.int s2), .val (.int s3), .unset, .unset, .unset, .unset, .unset, .unset, .unset, .unset] [])) t := by
    intro t kt
    refine XS.iload X8.here hx rfl (hb hby at_24) rfl ?_
    show Steps p.tables e below (T8.setTop (mkF m 26 #[.val (.int i0), .val (.int i1), .val (.int i2), .val (.int i3), .val (.int i4), .val (.int i5), .val (.int s0), .val (.int s1), .val (.int s2), .val (.int s3), .unset, .unset, .unset, .unset, .unset, .unset, .unset, .unset] [(.int s0)])) _
    refine XS.istore X8.here hx rfl (hb hby at_26) rfl (l' := #[.val (.int i0), .val (.int i1), .val (.int i2), .val (.int i3), .val (.int i4), .val (.int i5), .val (.int s0), .val (.int s1), .val (.int s2), .val (.int s3), .val (.int s0), .unset, .unset, .unset, .unset, .unset, .unset, .unset]) rfl ?_
    show Steps p.tables e below (T8.setTop (mkF m 28 #[.val (.int i0), .val (.int i1), .val (.int i2), .val (.int i3), .val (.int i4), .val (.int i5), .val (.int s0), .val (.int s1), .val (.int s2), .val (.int s3), .val (.int s0), .unset, .unset, .unset, .unset, .unset, .unset, .unset] [])) _
    refine XS.iload X8.here hx rfl (hb hby at_28) rfl ?_
    show Steps p.tables e below (T8.setTop (mkF m 30 #[.val (.int i0), .val (.int i1), .val (.int i2), .val (.int i3), .val (.int i4), .val (.int i5), .val (.int s0), .val (.int s1), .val (.int s2), .val (.int s3), .val (.int s0), .unset, .unset, .unset, .unset, .unset, .unset, .unset] [(.int s0)])) _
    refine XS.iload X8.here hx rfl (hb hby at_30) rfl ?_
    show Steps p.tables e below (T8.setTop (mkF m 32 #[.val (.int i0), .val (.int i1), .val (.int i2), .val (.int i3), .val (.int i4), .val (.int i5), .val (.int s0), .val (.int s1), .val (.int s2), .val (.int s3), .val (.int s0), .unset, .unset, .unset, .unset, .unset, .unset, .unset] [(.int s1), (.int s0)])) _
    refine XS.iadd X8.here hx rfl (hb hby at_32) rfl ?_
    show Steps p.tables e below (T8.setTop (mkF m 33 #[.val (.int i0), .val (.int i1), .val (.int i2), .val (.int i3), .val (.int i4), .val (.int i5), .val (.int s0), .val (.int s1), .val (.int s2), .val (.int s3), .val (.int s0), .unset, .unset, .unset, .unset, .unset, .unset, .unset] [(.int (s0 + s1))])) _
    refine XS.istore X8.here hx rfl (hb hby at_33) rfl (l' := #[.val (.int i0), .val (.int i1), .val (.int i2), .val (.int i3), .val (.int i4), .val (.int i5), .val (.int s0), .val (.int s1), .val (.int s2), .val (.int s3), .val (.int s0), .val (.int (s0 + s1)), .unset, .unset, .unset, .unset, .unset, .unset]) rfl ?_
    show Steps p.tables e below (T8.setTop (mkF m 35 #[.val (.int i0), .val (.int i1), .val (.int i2), .val (.int i3), .val (.int i4), .val (.int i5), .val (.int s0), .val (.int s1), .val (.int s2), .val (.int s3), .val (.int s0), .val (.int (s0 + s1)), .unset, .unset, .unset, .unset, .unset, .unset] [])) _
    refine XS.iload X8.here hx rfl (hb hby at_35) rfl ?_
    show Steps p.tables e below (T8.setTop (mkF m 37 #[.val (.int i0), .val (.int i1), .val (.int i2), .val (.int i3), .val (.int i4), .val (.int i5), .val (.int s0), .val (.int s1), .val (.int s2), .val (.int s3), .val (.int s0), .val (.int (s0 + s1)), .unset, .unset, .unset, .unset, .unset, .unset] [(.int (s0 + s1))])) _
    refine XS.iload X8.here hx rfl (hb hby at_37) rfl ?_
    show Steps p.tables e below (T8.setTop (mkF m 39 #[.val (.int i0), .val (.int i1), .val (.int i2), .val (.int i3), .val (.int i4), .val (.int i5), .val (.int s0), .val (.int s1), .val (.int s2), .val (.int s3), .val (.int s0), .val (.int (s0 + s1)), .unset, .unset, .unset, .unset, .unset, .unset] [(.int s2), (.int (s0 + s1))])) _
    refine XS.iadd X8.here hx rfl (hb hby at_39) rfl ?_
    show Steps p.tables e below (T8.setTop (mkF m 40 #[.val (.int i0), .val (.int i1), .val (.int i2), .val (.int i3), .val (.int i4), .val (.int i5), .val (.int s0), .val (.int s1), .val (.int s2), .val (.int s3), .val (.int s0), .val (.int (s0 + s1)), .unset, .unset, .unset, .unset, .unset, .unset] [(.int ((s0 + s1) + s2))])) _
    refine XS.istore X8.here hx rfl (hb hby at_40) rfl (l' := #[.val (.int i0), .val (.int i1), .val (.int i2), .val (.int i3), .val (.int i4), .val (.int i5), .val (.int s0), .val (.int s1), .val (.int s2), .val (.int s3), .val (.int s0), .val (.int (s0 + s1)), .val (.int ((s0 + s1) + s2)), .unset, .unset, .unset, .unset, .unset]) rfl ?_
    show Steps p.tables e below (T8.setTop (mkF m 42 #[.val (.int i0), .val (.int i1), .val (.int i2), .val (.int i3), .val (.int i4), .val (.int i5), .val (.int s0), .val (.int s1), .val (.int s2), .val (.int s3), .val (.int s0), .val (.int (s0 + s1)), .val (.int ((s0 + s1) + s2)), .unset, .unset, .unset, .unset, .unset] [])) _
    refine XS.iload X8.here hx rfl (hb hby at_42) rfl ?_
    show Steps p.tables e below (T8.setTop (mkF m 44 #[.val (.int i0), .val (.int i1), .val (.int i2), .val (.int i3), .val (.int i4), .val (.int i5), .val (.int s0), .val (.int s1), .val (.int s2), .val (.int s3), .val (.int s0), .val (.int (s0 + s1)), .val (.int ((s0 + s1) + s2)), .unset, .unset, .unset, .unset, .unset] [(.int ((s0 + s1) + s2))])) _
    refine XS.iload X8.here hx rfl (hb hby at_44) rfl ?_
    show Steps p.tables e below (T8.setTop (mkF m 46 #[.val (.int i0), .val (.int i1), .val (.int i2), .val (.int i3), .val (.int i4), .val (.int i5), .val (.int s0), .val (.int s1), .val (.int s2), .val (.int s3), .val (.int s0), .val (.int (s0 + s1)), .val (.int ((s0 + s1) + s2)), .unset, .unset, .unset, .unset, .unset] [(.int s3), (.int ((s0 + s1) + s2))])) _
    refine XS.iadd X8.here hx rfl (hb hby at_46) rfl ?_
    show Steps p.tables e below (T8.setTop (mkF m 47 #[.val (.int i0), .val (.int i1), .val (.int i2), .val (.int i3), .val (.int i4), .val (.int i5), .val (.int s0), .val (.int s1), .val (.int s2), .val (.int s3), .val (.int s0), .val (.int (s0 + s1)), .val (.int ((s0 + s1) + s2)), .unset, .unset, .unset, .unset, .unset] [(.int (((s0 + s1) + s2) + s3))])) _
    refine XS.istore X8.here hx rfl (hb hby at_47) rfl (l' := #[.val (.int i0), .val (.int i1), .val (.int i2), .val (.int i3), .val (.int i4), .val (.int i5), .val (.int s0), .val (.int s1), .val (.int s2), .val (.int s3), .val (.int s0), .val (.int (s0 + s1)), .val (.int ((s0 + s1) + s2)), .val (.int (((s0 + s1) + s2) + s3)), .unset, .unset, .unset, .unset]) rfl ?_
    exact kt
  have sg12 : ∀ t, Steps p.tables e below (T8.setTop (mkF m 51 #[.val (.int i0), .val (.int i1), .val (.int i2), .val (.int i3), .val (.int i4), .val (.int i5), .val (.int s0), .val (.int s1), .val (.int s2), .val (.int s3), .val (.int s0), .val (.int (s0 + s1)), .val (.int ((s0 + s1) + s2)), .val (.int (((s0 + s1) + s2) + s3)), .unset, .unset, .unset, .unset] [(.int (((s0 + s1) + s2) + s3))])) t → Steps p.tables e below (T8.setTop (mkF m 49 #[.val (.int i0), .val (.int i1), .val (.int i2), .val (.int i3), .val (.int i4), .val (.int i5), .val (.int s0), .val (.int s1), .val (.int s2), .val (.int s3), .val (.int s0), .val (.int (s0 + s1)), .val (.int ((s0 + s1) + s2)), .val (.int (((s0 + s1) + s2) + s3)), .unset, .unset, .unset, .unset] [])) t := by
    intro t kt
    refine XS.iload X8.here hx rfl (hb hby at_49) rfl ?_
    exact kt
  have e1 : (s0 + s1).toInt = s0.toInt + s1.toInt := own_add32 (by omega) (by omega) (by omega) (by omega)
  have e2 : (s0 + s1 + s2).toInt = (s0 + s1).toInt + s2.toInt := own_add32 (by omega) (by omega) (by omega) (by omega)
  have e3 : (s0 + s1 + s2 + s3).toInt = (s0 + s1 + s2).toInt + s3.toInt := own_add32 (by omega) (by omega) (by omega) (by omega)
  by_cases c51 : (((s0 + s1) + s2) + s3) = 0
  · have sg13 : ∀ t, Steps p.tables e below (T8.setTop (mkF m 55 #[.val (.int i0), .val (.int i1), .val (.int i2), .val (.int i3), .val (.int i4), .val (.int i5), .val (.int s0), .val (.int s1), .val (.int s2), .val (.int s3), .val (.int s0), .val (.int (s0 + s1)), .val (.int ((s0 + s1) + s2)), .val (.int (((s0 + s1) + s2) + s3)), .unset, .unset, .unset, .unset] [(.int (1 : Int32))])) t → Steps p.tables e below (T8.setTop (mkF m 51 #[.val (.int i0), .val (.int i1), .val (.int i2), .val (.int i3), .val (.int i4), .val (.int i5), .val (.int s0), .val (.int s1), .val (.int s2), .val (.int s3), .val (.int s0), .val (.int (s0 + s1)), .val (.int ((s0 + s1) + s2)), .val (.int (((s0 + s1) + s2) + s3)), .unset, .unset, .unset, .unset] [(.int (((s0 + s1) + s2) + s3))])) t := by
      intro t kt
      refine XS.ifNo X8.here hx rfl (hb hby at_51) rfl ((if0 _ _).trans (teq (c51 : (((s0 + s1) + s2) + s3) = (0 : Int32))).2) ?_
      show Steps p.tables e below (T8.setTop (mkF m 54 #[.val (.int i0), .val (.int i1), .val (.int i2), .val (.int i3), .val (.int i4), .val (.int i5), .val (.int s0), .val (.int s1), .val (.int s2), .val (.int s3), .val (.int s0), .val (.int (s0 + s1)), .val (.int ((s0 + s1) + s2)), .val (.int (((s0 + s1) + s2) + s3)), .unset, .unset, .unset, .unset] [])) _
      refine XS.iconst X8.here hx rfl (hb hby at_54) ?_
      exact kt
    obtain ⟨fs, hr, hrun, hended, hW, hsame⟩ := X8.leave (v := some (.int (1 : Int32))) (fun h => by rw [Bd.returns] at h; cases h)
    refine ⟨_, _, pre0 _ ?_, hrun, hended, _, _, rfl, ?_, ⟨_, rfl⟩, hW, hsame.mono (by decide) (by decide)⟩
    · refine sg1 _ ?_
      refine st2 _ ?_
      refine sg3 _ ?_
      refine st4 _ ?_
      refine sg5 _ ?_
      refine st6 _ ?_
      refine sg7 _ ?_
      refine st8 _ ?_
      refine sg9 _ ?_
      refine cv10 _ ?_
      refine sg11 _ ?_
      refine sg12 _ ?_
      refine sg13 _ ?_
      exact retN X8 hx (t := .boolean) Bd.returns (by simp) (hb hby at_55) hr
    · show Q0 Z i0 i1 i2 i3 i4 i5 h0 n0 _ T8.heap _
      rw [eq8]; exact ⟨rfl, N8⟩
  · have sg13 : ∀ t, Steps p.tables e below (T8.setTop (mkF m 56 #[.val (.int i0), .val (.int i1), .val (.int i2), .val (.int i3), .val (.int i4), .val (.int i5), .val (.int s0), .val (.int s1), .val (.int s2), .val (.int s3), .val (.int s0), .val (.int (s0 + s1)), .val (.int ((s0 + s1) + s2)), .val (.int (((s0 + s1) + s2) + s3)), .unset, .unset, .unset, .unset] [])) t → Steps p.tables e below (T8.setTop (mkF m 51 #[.val (.int i0), .val (.int i1), .val (.int i2), .val (.int i3), .val (.int i4), .val (.int i5), .val (.int s0), .val (.int s1), .val (.int s2), .val (.int s3), .val (.int s0), .val (.int (s0 + s1)), .val (.int ((s0 + s1) + s2)), .val (.int (((s0 + s1) + s2) + s3)), .unset, .unset, .unset, .unset] [(.int (((s0 + s1) + s2) + s3))])) t := by
      intro t kt
      refine XS.ifYes X8.here hx rfl (pc0 := 51) (pc' := 56) rfl (hb hby at_51) rfl ((if0 _ _).trans (feq (c51 : ¬ ((((s0 + s1) + s2) + s3) = (0 : Int32)))).2) (by decide) (by decide) ?_
      exact kt
    have hnz : ¬ ((2 : Int32) * (((s0 + s1) + s2) + s3) + (1 : Int32)) = 0 := by
      intro q
      have q1 := own_dbl32 (P := (((s0 + s1) + s2) + s3)) (by omega) (by omega)
      have q2 := c_iadd (2 * (((s0 + s1) + s2) + s3)) 1
      rw [q] at q2
      have z1 : (1 : Int32).toInt = 1 := by decide
      have z0 : (0 : Int32).toInt = 0 := by decide
      omega
    obtain ⟨t0, ht_st⟩ : ∃ t0 : Int32, ∀ t, Steps p.tables e below (T8.setTop (mkF m 84 #[.val (.int i0), .val (.int i1), .val (.int i2), .val (.int i3), .val (.int i4), .val (.int i5), .val (.int s0), .val (.int s1), .val (.int s2), .val (.int s3), .val (.int s0), .val (.int (s0 + s1)), .val (.int ((s0 + s1) + s2)), .val (.int (((s0 + s1) + s2) + s3)), .val (.int t0), .unset, .unset, .unset] [])) t → Steps p.tables e below (T8.setTop (mkF m 56 #[.val (.int i0), .val (.int i1), .val (.int i2), .val (.int i3), .val (.int i4), .val (.int i5), .val (.int s0), .val (.int s1), .val (.int s2), .val (.int s3), .val (.int s0), .val (.int (s0 + s1)), .val (.int ((s0 + s1) + s2)), .val (.int (((s0 + s1) + s2) + s3)), .unset, .unset, .unset, .unset] [])) t := by
      by_cases c60 : i5 &&& (3 : Int32) = 0
      · refine ⟨((2 : Int32) * (((s0 + s1) + s2) + s3)), fun t kt => ?_⟩
        refine XS.iload X8.here hx rfl (hb hby at_56) rfl ?_
        show Steps p.tables e below (T8.setTop (mkF m 58 #[.val (.int i0), .val (.int i1), .val (.int i2), .val (.int i3), .val (.int i4), .val (.int i5), .val (.int s0), .val (.int s1), .val (.int s2), .val (.int s3), .val (.int s0), .val (.int (s0 + s1)), .val (.int ((s0 + s1) + s2)), .val (.int (((s0 + s1) + s2) + s3)), .unset, .unset, .unset, .unset] [(.int i5)])) _
        refine XS.iconst X8.here hx rfl (hb hby at_58) ?_
        show Steps p.tables e below (T8.setTop (mkF m 59 #[.val (.int i0), .val (.int i1), .val (.int i2), .val (.int i3), .val (.int i4), .val (.int i5), .val (.int s0), .val (.int s1), .val (.int s2), .val (.int s3), .val (.int s0), .val (.int (s0 + s1)), .val (.int ((s0 + s1) + s2)), .val (.int (((s0 + s1) + s2) + s3)), .unset, .unset, .unset, .unset] [(.int (3 : Int32)), (.int i5)])) _
        refine XS.iand X8.here hx rfl (hb hby at_59) rfl ?_
        show Steps p.tables e below (T8.setTop (mkF m 60 #[.val (.int i0), .val (.int i1), .val (.int i2), .val (.int i3), .val (.int i4), .val (.int i5), .val (.int s0), .val (.int s1), .val (.int s2), .val (.int s3), .val (.int s0), .val (.int (s0 + s1)), .val (.int ((s0 + s1) + s2)), .val (.int (((s0 + s1) + s2) + s3)), .unset, .unset, .unset, .unset] [(.int (i5 &&& (3 : Int32)))])) _
        refine XS.ifNo X8.here hx rfl (hb hby at_60) rfl ((if0 _ _).trans (teq (c60 : (i5 &&& (3 : Int32)) = (0 : Int32))).2) ?_
        show Steps p.tables e below (T8.setTop (mkF m 63 #[.val (.int i0), .val (.int i1), .val (.int i2), .val (.int i3), .val (.int i4), .val (.int i5), .val (.int s0), .val (.int s1), .val (.int s2), .val (.int s3), .val (.int s0), .val (.int (s0 + s1)), .val (.int ((s0 + s1) + s2)), .val (.int (((s0 + s1) + s2) + s3)), .unset, .unset, .unset, .unset] [])) _
        refine XS.iconst X8.here hx rfl (hb hby at_63) ?_
        show Steps p.tables e below (T8.setTop (mkF m 64 #[.val (.int i0), .val (.int i1), .val (.int i2), .val (.int i3), .val (.int i4), .val (.int i5), .val (.int s0), .val (.int s1), .val (.int s2), .val (.int s3), .val (.int s0), .val (.int (s0 + s1)), .val (.int ((s0 + s1) + s2)), .val (.int (((s0 + s1) + s2) + s3)), .unset, .unset, .unset, .unset] [(.int (2 : Int32))])) _
        refine XS.iload X8.here hx rfl (hb hby at_64) rfl ?_
        show Steps p.tables e below (T8.setTop (mkF m 66 #[.val (.int i0), .val (.int i1), .val (.int i2), .val (.int i3), .val (.int i4), .val (.int i5), .val (.int s0), .val (.int s1), .val (.int s2), .val (.int s3), .val (.int s0), .val (.int (s0 + s1)), .val (.int ((s0 + s1) + s2)), .val (.int (((s0 + s1) + s2) + s3)), .unset, .unset, .unset, .unset] [(.int (((s0 + s1) + s2) + s3)), (.int (2 : Int32))])) _
        refine XS.imul X8.here hx rfl (hb hby at_66) rfl ?_
        show Steps p.tables e below (T8.setTop (mkF m 67 #[.val (.int i0), .val (.int i1), .val (.int i2), .val (.int i3), .val (.int i4), .val (.int i5), .val (.int s0), .val (.int s1), .val (.int s2), .val (.int s3), .val (.int s0), .val (.int (s0 + s1)), .val (.int ((s0 + s1) + s2)), .val (.int (((s0 + s1) + s2) + s3)), .unset, .unset, .unset, .unset] [(.int ((2 : Int32) * (((s0 + s1) + s2) + s3)))])) _
        refine XS.goto X8.here hx rfl (pc0 := 67) (pc' := 82) rfl (hb hby at_67) (by decide) (by decide) ?_
        show Steps p.tables e below (T8.setTop (mkF m 82 #[.val (.int i0), .val (.int i1), .val (.int i2), .val (.int i3), .val (.int i4), .val (.int i5), .val (.int s0), .val (.int s1), .val (.int s2), .val (.int s3), .val (.int s0), .val (.int (s0 + s1)), .val (.int ((s0 + s1) + s2)), .val (.int (((s0 + s1) + s2) + s3)), .unset, .unset, .unset, .unset] [(.int ((2 : Int32) * (((s0 + s1) + s2) + s3)))])) _
        refine XS.istore X8.here hx rfl (hb hby at_82) rfl (l' := #[.val (.int i0), .val (.int i1), .val (.int i2), .val (.int i3), .val (.int i4), .val (.int i5), .val (.int s0), .val (.int s1), .val (.int s2), .val (.int s3), .val (.int s0), .val (.int (s0 + s1)), .val (.int ((s0 + s1) + s2)), .val (.int (((s0 + s1) + s2) + s3)), .val (.int ((2 : Int32) * (((s0 + s1) + s2) + s3))), .unset, .unset, .unset]) rfl ?_
        exact kt
      · refine ⟨((i4 &&& (2147483647 : Int32)) % (((2 : Int32) * (((s0 + s1) + s2) + s3)) + (1 : Int32))), fun t kt => ?_⟩
        refine XS.iload X8.here hx rfl (hb hby at_56) rfl ?_
        show Steps p.tables e below (T8.setTop (mkF m 58 #[.val (.int i0), .val (.int i1), .val (.int i2), .val (.int i3), .val (.int i4), .val (.int i5), .val (.int s0), .val (.int s1), .val (.int s2), .val (.int s3), .val (.int s0), .val (.int (s0 + s1)), .val (.int ((s0 + s1) + s2)), .val (.int (((s0 + s1) + s2) + s3)), .unset, .unset, .unset, .unset] [(.int i5)])) _
        refine XS.iconst X8.here hx rfl (hb hby at_58) ?_
        show Steps p.tables e below (T8.setTop (mkF m 59 #[.val (.int i0), .val (.int i1), .val (.int i2), .val (.int i3), .val (.int i4), .val (.int i5), .val (.int s0), .val (.int s1), .val (.int s2), .val (.int s3), .val (.int s0), .val (.int (s0 + s1)), .val (.int ((s0 + s1) + s2)), .val (.int (((s0 + s1) + s2) + s3)), .unset, .unset, .unset, .unset] [(.int (3 : Int32)), (.int i5)])) _
        refine XS.iand X8.here hx rfl (hb hby at_59) rfl ?_
        show Steps p.tables e below (T8.setTop (mkF m 60 #[.val (.int i0), .val (.int i1), .val (.int i2), .val (.int i3), .val (.int i4), .val (.int i5), .val (.int s0), .val (.int s1), .val (.int s2), .val (.int s3), .val (.int s0), .val (.int (s0 + s1)), .val (.int ((s0 + s1) + s2)), .val (.int (((s0 + s1) + s2) + s3)), .unset, .unset, .unset, .unset] [(.int (i5 &&& (3 : Int32)))])) _
        refine XS.ifYes X8.here hx rfl (pc0 := 60) (pc' := 70) rfl (hb hby at_60) rfl ((if0 _ _).trans (feq (c60 : ¬ ((i5 &&& (3 : Int32)) = (0 : Int32)))).2) (by decide) (by decide) ?_
        show Steps p.tables e below (T8.setTop (mkF m 70 #[.val (.int i0), .val (.int i1), .val (.int i2), .val (.int i3), .val (.int i4), .val (.int i5), .val (.int s0), .val (.int s1), .val (.int s2), .val (.int s3), .val (.int s0), .val (.int (s0 + s1)), .val (.int ((s0 + s1) + s2)), .val (.int (((s0 + s1) + s2) + s3)), .unset, .unset, .unset, .unset] [])) _
        refine XS.iload X8.here hx rfl (hb hby at_70) rfl ?_
        show Steps p.tables e below (T8.setTop (mkF m 72 #[.val (.int i0), .val (.int i1), .val (.int i2), .val (.int i3), .val (.int i4), .val (.int i5), .val (.int s0), .val (.int s1), .val (.int s2), .val (.int s3), .val (.int s0), .val (.int (s0 + s1)), .val (.int ((s0 + s1) + s2)), .val (.int (((s0 + s1) + s2) + s3)), .unset, .unset, .unset, .unset] [(.int i4)])) _
        refine X8.ldcInt hx hown (mvT hZ (hw _ (List.mem_of_getElem? (i := 5) rfl))) (g := (mkF m 72 #[.val (.int i0), .val (.int i1), .val (.int i2), .val (.int i3), .val (.int i4), .val (.int i5), .val (.int s0), .val (.int s1), .val (.int s2), .val (.int s3), .val (.int s0), .val (.int (s0 + s1)), .val (.int ((s0 + s1) + s2)), .val (.int (((s0 + s1) + s2) + s3)), .unset, .unset, .unset, .unset] [(.int i4)])) rfl (hb hby at_72) _ ?_
        show Steps p.tables e below (T8.setTop (mkF m 74 #[.val (.int i0), .val (.int i1), .val (.int i2), .val (.int i3), .val (.int i4), .val (.int i5), .val (.int s0), .val (.int s1), .val (.int s2), .val (.int s3), .val (.int s0), .val (.int (s0 + s1)), .val (.int ((s0 + s1) + s2)), .val (.int (((s0 + s1) + s2) + s3)), .unset, .unset, .unset, .unset] [(.int (2147483647 : Int32)), (.int i4)])) _
        refine XS.iand X8.here hx rfl (hb hby at_74) rfl ?_
        show Steps p.tables e below (T8.setTop (mkF m 75 #[.val (.int i0), .val (.int i1), .val (.int i2), .val (.int i3), .val (.int i4), .val (.int i5), .val (.int s0), .val (.int s1), .val (.int s2), .val (.int s3), .val (.int s0), .val (.int (s0 + s1)), .val (.int ((s0 + s1) + s2)), .val (.int (((s0 + s1) + s2) + s3)), .unset, .unset, .unset, .unset] [(.int (i4 &&& (2147483647 : Int32)))])) _
        refine XS.iconst X8.here hx rfl (hb hby at_75) ?_
        show Steps p.tables e below (T8.setTop (mkF m 76 #[.val (.int i0), .val (.int i1), .val (.int i2), .val (.int i3), .val (.int i4), .val (.int i5), .val (.int s0), .val (.int s1), .val (.int s2), .val (.int s3), .val (.int s0), .val (.int (s0 + s1)), .val (.int ((s0 + s1) + s2)), .val (.int (((s0 + s1) + s2) + s3)), .unset, .unset, .unset, .unset] [(.int (2 : Int32)), (.int (i4 &&& (2147483647 : Int32)))])) _
        refine XS.iload X8.here hx rfl (hb hby at_76) rfl ?_
        show Steps p.tables e below (T8.setTop (mkF m 78 #[.val (.int i0), .val (.int i1), .val (.int i2), .val (.int i3), .val (.int i4), .val (.int i5), .val (.int s0), .val (.int s1), .val (.int s2), .val (.int s3), .val (.int s0), .val (.int (s0 + s1)), .val (.int ((s0 + s1) + s2)), .val (.int (((s0 + s1) + s2) + s3)), .unset, .unset, .unset, .unset] [(.int (((s0 + s1) + s2) + s3)), (.int (2 : Int32)), (.int (i4 &&& (2147483647 : Int32)))])) _
        refine XS.imul X8.here hx rfl (hb hby at_78) rfl ?_
        show Steps p.tables e below (T8.setTop (mkF m 79 #[.val (.int i0), .val (.int i1), .val (.int i2), .val (.int i3), .val (.int i4), .val (.int i5), .val (.int s0), .val (.int s1), .val (.int s2), .val (.int s3), .val (.int s0), .val (.int (s0 + s1)), .val (.int ((s0 + s1) + s2)), .val (.int (((s0 + s1) + s2) + s3)), .unset, .unset, .unset, .unset] [(.int ((2 : Int32) * (((s0 + s1) + s2) + s3))), (.int (i4 &&& (2147483647 : Int32)))])) _
        refine XS.iconst X8.here hx rfl (hb hby at_79) ?_
        show Steps p.tables e below (T8.setTop (mkF m 80 #[.val (.int i0), .val (.int i1), .val (.int i2), .val (.int i3), .val (.int i4), .val (.int i5), .val (.int s0), .val (.int s1), .val (.int s2), .val (.int s3), .val (.int s0), .val (.int (s0 + s1)), .val (.int ((s0 + s1) + s2)), .val (.int (((s0 + s1) + s2) + s3)), .unset, .unset, .unset, .unset] [(.int (1 : Int32)), (.int ((2 : Int32) * (((s0 + s1) + s2) + s3))), (.int (i4 &&& (2147483647 : Int32)))])) _
        refine XS.iadd X8.here hx rfl (hb hby at_80) rfl ?_
        show Steps p.tables e below (T8.setTop (mkF m 81 #[.val (.int i0), .val (.int i1), .val (.int i2), .val (.int i3), .val (.int i4), .val (.int i5), .val (.int s0), .val (.int s1), .val (.int s2), .val (.int s3), .val (.int s0), .val (.int (s0 + s1)), .val (.int ((s0 + s1) + s2)), .val (.int (((s0 + s1) + s2) + s3)), .unset, .unset, .unset, .unset] [(.int (((2 : Int32) * (((s0 + s1) + s2) + s3)) + (1 : Int32))), (.int (i4 &&& (2147483647 : Int32)))])) _
        refine iremM X8 hx rfl (hb hby at_81) rfl hnz ?_
        show Steps p.tables e below (T8.setTop (mkF m 82 #[.val (.int i0), .val (.int i1), .val (.int i2), .val (.int i3), .val (.int i4), .val (.int i5), .val (.int s0), .val (.int s1), .val (.int s2), .val (.int s3), .val (.int s0), .val (.int (s0 + s1)), .val (.int ((s0 + s1) + s2)), .val (.int (((s0 + s1) + s2) + s3)), .unset, .unset, .unset, .unset] [(.int ((i4 &&& (2147483647 : Int32)) % (((2 : Int32) * (((s0 + s1) + s2) + s3)) + (1 : Int32))))])) _
        refine XS.istore X8.here hx rfl (hb hby at_82) rfl (l' := #[.val (.int i0), .val (.int i1), .val (.int i2), .val (.int i3), .val (.int i4), .val (.int i5), .val (.int s0), .val (.int s1), .val (.int s2), .val (.int s3), .val (.int s0), .val (.int (s0 + s1)), .val (.int ((s0 + s1) + s2)), .val (.int (((s0 + s1) + s2) + s3)), .val (.int ((i4 &&& (2147483647 : Int32)) % (((2 : Int32) * (((s0 + s1) + s2) + s3)) + (1 : Int32)))), .unset, .unset, .unset]) rfl ?_
        exact kt
    have sg14 : ∀ t, Steps p.tables e below (T8.setTop (mkF m 85 #[.val (.int i0), .val (.int i1), .val (.int i2), .val (.int i3), .val (.int i4), .val (.int i5), .val (.int s0), .val (.int s1), .val (.int s2), .val (.int s3), .val (.int s0), .val (.int (s0 + s1)), .val (.int ((s0 + s1) + s2)), .val (.int (((s0 + s1) + s2) + s3)), .val (.int t0), .unset, .unset, .unset] [(.int (4 : Int32))])) t → Steps p.tables e below (T8.setTop (mkF m 84 #[.val (.int i0), .val (.int i1), .val (.int i2), .val (.int i3), .val (.int i4), .val (.int i5), .val (.int s0), .val (.int s1), .val (.int s2), .val (.int s3), .val (.int s0), .val (.int (s0 + s1)), .val (.int ((s0 + s1) + s2)), .val (.int (((s0 + s1) + s2) + s3)), .val (.int t0), .unset, .unset, .unset] [])) t := by
      intro t kt
      refine XS.iconst X8.here hx rfl (hb hby at_84) ?_
      exact kt
    obtain ⟨T15, h15, k15, X15, e15, E15, A15, st15⟩ := newP X8 hx hZ (hw _ (List.mem_of_getElem? (i := 6) rfl)) eq8 (g := (mkF m 85 #[.val (.int i0), .val (.int i1), .val (.int i2), .val (.int i3), .val (.int i4), .val (.int i5), .val (.int s0), .val (.int s1), .val (.int s2), .val (.int s3), .val (.int s0), .val (.int (s0 + s1)), .val (.int ((s0 + s1) + s2)), .val (.int (((s0 + s1) + s2) + s3)), .val (.int t0), .unset, .unset, .unset] [(.int (4 : Int32))])) rfl (hb hby at_85) rfl (by decide) (cap := 4) (by decide) (by decide) (by decide) (by decide)
    obtain ⟨b16, g15⟩ : ∃ z, z = h0.size := ⟨_, rfl⟩
    rw [← g15] at A15 st15
    have g_b16 : n0 ≤ b16 := Nat.le_trans Z0 (Nat.le_of_eq g15.symm)
    have Zs17 : n0 ≤ h15.size := Nat.le_trans Z0 E15.1
    have f18 : Arv Z h15 b16 k15 .double (4 : Int32) [(.double (0 : UInt64)), (.double (0 : UInt64)), (.double (0 : UInt64)), (.double (0 : UInt64))] (.double (0 : UInt64)) := (Arv.new A15 (by decide)).pad (pad_rep [] (.double (0 : UInt64)) 4)
    have sg19 : ∀ t, Steps p.tables e below (T15.setTop (mkF m 92 #[.val (.int i0), .val (.int i1), .val (.int i2), .val (.int i3), .val (.int i4), .val (.int i5), .val (.int s0), .val (.int s1), .val (.int s2), .val (.int s3), .val (.int s0), .val (.int (s0 + s1)), .val (.int ((s0 + s1) + s2)), .val (.int (((s0 + s1) + s2) + s3)), .val (.int t0), .unset, .unset, .unset] [(.double (FP.i2d s0)), (.int (0 : Int32)), (.ref b16), (.ref b16)])) t → Steps p.tables e below (T15.setTop (mkF m 87 #[.val (.int i0), .val (.int i1), .val (.int i2), .val (.int i3), .val (.int i4), .val (.int i5), .val (.int s0), .val (.int s1), .val (.int s2), .val (.int s3), .val (.int s0), .val (.int (s0 + s1)), .val (.int ((s0 + s1) + s2)), .val (.int (((s0 + s1) + s2) + s3)), .val (.int t0), .unset, .unset, .unset] [(.ref b16)])) t := by
      intro t kt
      refine XS.dup X15.here hx rfl (hb hby at_87) rfl rfl ?_
      show Steps p.tables e below (T15.setTop (mkF m 88 #[.val (.int i0), .val (.int i1), .val (.int i2), .val (.int i3), .val (.int i4), .val (.int i5), .val (.int s0), .val (.int s1), .val (.int s2), .val (.int s3), .val (.int s0), .val (.int (s0 + s1)), .val (.int ((s0 + s1) + s2)), .val (.int (((s0 + s1) + s2) + s3)), .val (.int t0), .unset, .unset, .unset] [(.ref b16), (.ref b16)])) _
      refine XS.iconst X15.here hx rfl (hb hby at_88) ?_
      show Steps p.tables e below (T15.setTop (mkF m 89 #[.val (.int i0), .val (.int i1), .val (.int i2), .val (.int i3), .val (.int i4), .val (.int i5), .val (.int s0), .val (.int s1), .val (.int s2), .val (.int s3), .val (.int s0), .val (.int (s0 + s1)), .val (.int ((s0 + s1) + s2)), .val (.int (((s0 + s1) + s2) + s3)), .val (.int t0), .unset, .unset, .unset] [(.int (0 : Int32)), (.ref b16), (.ref b16)])) _
      refine XS.iload X15.here hx rfl (hb hby at_89) rfl ?_
      show Steps p.tables e below (T15.setTop (mkF m 91 #[.val (.int i0), .val (.int i1), .val (.int i2), .val (.int i3), .val (.int i4), .val (.int i5), .val (.int s0), .val (.int s1), .val (.int s2), .val (.int s3), .val (.int s0), .val (.int (s0 + s1)), .val (.int ((s0 + s1) + s2)), .val (.int (((s0 + s1) + s2) + s3)), .val (.int t0), .unset, .unset, .unset] [(.int s0), (.int (0 : Int32)), (.ref b16), (.ref b16)])) _
      refine XS.i2dS X15.here hx rfl (hb hby at_91) rfl (v := (FP.i2d s0)) rfl ?_
      exact kt
    obtain ⟨clu20, Aru20, qu20, Su20, Ngu20, Hu20, Gu20⟩ := f18
    have hinu20 : ¬ ((0 : Int32) < 0 ∨ clu20.slots.size ≤ ((0 : Int32)).toNatClampNeg) := inb_of Su20 ⟨by decide, by decide⟩
    obtain ⟨T21, h21, X21, e21, W21, st21⟩ := stD X15 hx hZ e15 Aru20 (j := (0 : Int32)) hinu20 (g := (mkF m 92 #[.val (.int i0), .val (.int i1), .val (.int i2), .val (.int i3), .val (.int i4), .val (.int i5), .val (.int s0), .val (.int s1), .val (.int s2), .val (.int s3), .val (.int s0), .val (.int (s0 + s1)), .val (.int ((s0 + s1) + s2)), .val (.int (((s0 + s1) + s2) + s3)), .val (.int t0), .unset, .unset, .unset] [(.double (FP.i2d s0)), (.int (0 : Int32)), (.ref b16), (.ref b16)])) rfl rfl (hb hby at_92)
    have f22 := Arv.set Aru20 qu20 Su20 Ngu20 Hu20 Gu20 rfl W21 0 rfl (Nat.le_of_ble_eq_true rfl)
    have Zs23 : n0 ≤ h21.size := by rw [W21.size]; exact Zs17
    have N21 := Fr.snoc X21 N8 g_b16
    have sg24 : ∀ t, Steps p.tables e below (T21.setTop (mkF m 98 #[.val (.int i0), .val (.int i1), .val (.int i2), .val (.int i3), .val (.int i4), .val (.int i5), .val (.int s0), .val (.int s1), .val (.int s2), .val (.int s3), .val (.int s0), .val (.int (s0 + s1)), .val (.int ((s0 + s1) + s2)), .val (.int (((s0 + s1) + s2) + s3)), .val (.int t0), .unset, .unset, .unset] [(.double (FP.i2d s1)), (.int (1 : Int32)), (.ref b16), (.ref b16)])) t → Steps p.tables e below (T21.setTop (mkF m 93 #[.val (.int i0), .val (.int i1), .val (.int i2), .val (.int i3), .val (.int i4), .val (.int i5), .val (.int s0), .val (.int s1), .val (.int s2), .val (.int s3), .val (.int s0), .val (.int (s0 + s1)), .val (.int ((s0 + s1) + s2)), .val (.int (((s0 + s1) + s2) + s3)), .val (.int t0), .unset, .unset, .unset] [(.ref b16)])) t := by
      intro t kt
      refine XS.dup X21.here hx rfl (hb hby at_93) rfl rfl ?_
      show Steps p.tables e below (T21.setTop (mkF m 94 #[.val (.int i0), .val (.int i1), .val (.int i2), .val (.int i3), .val (.int i4), .val (.int i5), .val (.int s0), .val (.int s1), .val (.int s2), .val (.int s3), .val (.int s0), .val (.int (s0 + s1)), .val (.int ((s0 + s1) + s2)), .val (.int (((s0 + s1) + s2) + s3)), .val (.int t0), .unset, .unset, .unset] [(.ref b16), (.ref b16)])) _
      refine XS.iconst X21.here hx rfl (hb hby at_94) ?_
      show Steps p.tables e below (T21.setTop (mkF m 95 #[.val (.int i0), .val (.int i1), .val (.int i2), .val (.int i3), .val (.int i4), .val (.int i5), .val (.int s0), .val (.int s1), .val (.int s2), .val (.int s3), .val (.int s0), .val (.int (s0 + s1)), .val (.int ((s0 + s1) + s2)), .val (.int (((s0 + s1) + s2) + s3)), .val (.int t0), .unset, .unset, .unset] [(.int (1 : Int32)), (.ref b16), (.ref b16)])) _
      refine XS.iload X21.here hx rfl (hb hby at_95) rfl ?_
      show Steps p.tables e below (T21.setTop (mkF m 97 #[.val (.int i0), .val (.int i1), .val (.int i2), .val (.int i3), .val (.int i4), .val (.int i5), .val (.int s0), .val (.int s1), .val (.int s2), .val (.int s3), .val (.int s0), .val (.int (s0 + s1)), .val (.int ((s0 + s1) + s2)), .val (.int (((s0 + s1) + s2) + s3)), .val (.int t0), .unset, .unset, .unset] [(.int s1), (.int (1 : Int32)), (.ref b16), (.ref b16)])) _
      refine XS.i2dS X21.here hx rfl (hb hby at_97) rfl (v := (FP.i2d s1)) rfl ?_
      exact kt
    obtain ⟨clu25, Aru25, qu25, Su25, Ngu25, Hu25, Gu25⟩ := f22
    have hinu25 : ¬ ((1 : Int32) < 0 ∨ clu25.slots.size ≤ ((1 : Int32)).toNatClampNeg) := inb_of Su25 ⟨by decide, by decide⟩
    obtain ⟨T26, h26, X26, e26, W26, st26⟩ := stD X21 hx hZ e21 Aru25 (j := (1 : Int32)) hinu25 (g := (mkF m 98 #[.val (.int i0), .val (.int i1), .val (.int i2), .val (.int i3), .val (.int i4), .val (.int i5), .val (.int s0), .val (.int s1), .val (.int s2), .val (.int s3), .val (.int s0), .val (.int (s0 + s1)), .val (.int ((s0 + s1) + s2)), .val (.int (((s0 + s1) + s2) + s3)), .val (.int t0), .unset, .unset, .unset] [(.double (FP.i2d s1)), (.int (1 : Int32)), (.ref b16), (.ref b16)])) rfl rfl (hb hby at_98)
    have f27 := Arv.set Aru25 qu25 Su25 Ngu25 Hu25 Gu25 rfl W26 1 rfl (Nat.le_of_ble_eq_true rfl)
    have Zs28 : n0 ≤ h26.size := by rw [W26.size]; exact Zs23
    have N26 := Fr.snoc X26 N21 g_b16
    have sg29 : ∀ t, Steps p.tables e below (T26.setTop (mkF m 104 #[.val (.int i0), .val (.int i1), .val (.int i2), .val (.int i3), .val (.int i4), .val (.int i5), .val (.int s0), .val (.int s1), .val (.int s2), .val (.int s3), .val (.int s0), .val (.int (s0 + s1)), .val (.int ((s0 + s1) + s2)), .val (.int (((s0 + s1) + s2) + s3)), .val (.int t0), .unset, .unset, .unset] [(.double (FP.i2d s2)), (.int (2 : Int32)), (.ref b16), (.ref b16)])) t → Steps p.tables e below (T26.setTop (mkF m 99 #[.val (.int i0), .val (.int i1), .val (.int i2), .val (.int i3), .val (.int i4), .val (.int i5), .val (.int s0), .val (.int s1), .val (.int s2), .val (.int s3), .val (.int s0), .val (.int (s0 + s1)), .val (.int ((s0 + s1) + s2)), .val (.int (((s0 + s1) + s2) + s3)), .val (.int t0), .unset, .unset, .unset] [(.ref b16)])) t := by
      intro t kt
      refine XS.dup X26.here hx rfl (hb hby at_99) rfl rfl ?_
      show Steps p.tables e below (T26.setTop (mkF m 100 #[.val (.int i0), .val (.int i1), .val (.int i2), .val (.int i3), .val (.int i4), .val (.int i5), .val (.int s0), .val (.int s1), .val (.int s2), .val (.int s3), .val (.int s0), .val (.int (s0 + s1)), .val (.int ((s0 + s1) + s2)), .val (.int (((s0 + s1) + s2) + s3)), .val (.int t0), .unset, .unset, .unset] [(.ref b16), (.ref b16)])) _
      refine XS.iconst X26.here hx rfl (hb hby at_100) ?_
      show Steps p.tables e below (T26.setTop (mkF m 101 #[.val (.int i0), .val (.int i1), .val (.int i2), .val (.int i3), .val (.int i4), .val (.int i5), .val (.int s0), .val (.int s1), .val (.int s2), .val (.int s3), .val (.int s0), .val (.int (s0 + s1)), .val (.int ((s0 + s1) + s2)), .val (.int (((s0 + s1) + s2) + s3)), .val (.int t0), .unset, .unset, .unset] [(.int (2 : Int32)), (.ref b16), (.ref b16)])) _
      refine XS.iload X26.here hx rfl (hb hby at_101) rfl ?_
      show Steps p.tables e below (T26.setTop (mkF m 103 #[.val (.int i0), .val (.int i1), .val (.int i2), .val (.int i3), .val (.int i4), .val (.int i5), .val (.int s0), .val (.int s1), .val (.int s2), .val (.int s3), .val (.int s0), .val (.int (s0 + s1)), .val (.int ((s0 + s1) + s2)), .val (.int (((s0 + s1) + s2) + s3)), .val (.int t0), .unset, .unset, .unset] [(.int s2), (.int (2 : Int32)), (.ref b16), (.ref b16)])) _
      refine XS.i2dS X26.here hx rfl (hb hby at_103) rfl (v := (FP.i2d s2)) rfl ?_
      exact kt
    obtain ⟨clu30, Aru30, qu30, Su30, Ngu30, Hu30, Gu30⟩ := f27
    have hinu30 : ¬ ((2 : Int32) < 0 ∨ clu30.slots.size ≤ ((2 : Int32)).toNatClampNeg) := inb_of Su30 ⟨by decide, by decide⟩
    obtain ⟨T31, h31, X31, e31, W31, st31⟩ := stD X26 hx hZ e26 Aru30 (j := (2 : Int32)) hinu30 (g := (mkF m 104 #[.val (.int i0), .val (.int i1), .val (.int i2), .val (.int i3), .val (.int i4), .val (.int i5), .val (.int s0), .val (.int s1), .val (.int s2), .val (.int s3), .val (.int s0), .val (.int (s0 + s1)), .val (.int ((s0 + s1) + s2)), .val (.int (((s0 + s1) + s2) + s3)), .val (.int t0), .unset, .unset, .unset] [(.double (FP.i2d s2)), (.int (2 : Int32)), (.ref b16), (.ref b16)])) rfl rfl (hb hby at_104)
    have f32 := Arv.set Aru30 qu30 Su30 Ngu30 Hu30 Gu30 rfl W31 2 rfl (Nat.le_of_ble_eq_true rfl)
    have Zs33 : n0 ≤ h31.size := by rw [W31.size]; exact Zs28
    have N31 := Fr.snoc X31 N26 g_b16
    have sg34 : ∀ t, Steps p.tables e below (T31.setTop (mkF m 110 #[.val (.int i0), .val (.int i1), .val (.int i2), .val (.int i3), .val (.int i4), .val (.int i5), .val (.int s0), .val (.int s1), .val (.int s2), .val (.int s3), .val (.int s0), .val (.int (s0 + s1)), .val (.int ((s0 + s1) + s2)), .val (.int (((s0 + s1) + s2) + s3)), .val (.int t0), .unset, .unset, .unset] [(.double (FP.i2d s3)), (.int (3 : Int32)), (.ref b16), (.ref b16)])) t → Steps p.tables e below (T31.setTop (mkF m 105 #[.val (.int i0), .val (.int i1), .val (.int i2), .val (.int i3), .val (.int i4), .val (.int i5), .val (.int s0), .val (.int s1), .val (.int s2), .val (.int s3), .val (.int s0), .val (.int (s0 + s1)), .val (.int ((s0 + s1) + s2)), .val (.int (((s0 + s1) + s2) + s3)), .val (.int t0), .unset, .unset, .unset] [(.ref b16)])) t := by
      intro t kt
      refine XS.dup X31.here hx rfl (hb hby at_105) rfl rfl ?_
      show Steps p.tables e below (T31.setTop (mkF m 106 #[.val (.int i0), .val (.int i1), .val (.int i2), .val (.int i3), .val (.int i4), .val (.int i5), .val (.int s0), .val (.int s1), .val (.int s2), .val (.int s3), .val (.int s0), .val (.int (s0 + s1)), .val (.int ((s0 + s1) + s2)), .val (.int (((s0 + s1) + s2) + s3)), .val (.int t0), .unset, .unset, .unset] [(.ref b16), (.ref b16)])) _
      refine XS.iconst X31.here hx rfl (hb hby at_106) ?_
      show Steps p.tables e below (T31.setTop (mkF m 107 #[.val (.int i0), .val (.int i1), .val (.int i2), .val (.int i3), .val (.int i4), .val (.int i5), .val (.int s0), .val (.int s1), .val (.int s2), .val (.int s3), .val (.int s0), .val (.int (s0 + s1)), .val (.int ((s0 + s1) + s2)), .val (.int (((s0 + s1) + s2) + s3)), .val (.int t0), .unset, .unset, .unset] [(.int (3 : Int32)), (.ref b16), (.ref b16)])) _
      refine XS.iload X31.here hx rfl (hb hby at_107) rfl ?_
      show Steps p.tables e below (T31.setTop (mkF m 109 #[.val (.int i0), .val (.int i1), .val (.int i2), .val (.int i3), .val (.int i4), .val (.int i5), .val (.int s0), .val (.int s1), .val (.int s2), .val (.int s3), .val (.int s0), .val (.int (s0 + s1)), .val (.int ((s0 + s1) + s2)), .val (.int (((s0 + s1) + s2) + s3)), .val (.int t0), .unset, .unset, .unset] [(.int s3), (.int (3 : Int32)), (.ref b16), (.ref b16)])) _
      refine XS.i2dS X31.here hx rfl (hb hby at_109) rfl (v := (FP.i2d s3)) rfl ?_
      exact kt
    obtain ⟨clu35, Aru35, qu35, Su35, Ngu35, Hu35, Gu35⟩ := f32
    have hinu35 : ¬ ((3 : Int32) < 0 ∨ clu35.slots.size ≤ ((3 : Int32)).toNatClampNeg) := inb_of Su35 ⟨by decide, by decide⟩
    obtain ⟨T36, h36, X36, e36, W36, st36⟩ := stD X31 hx hZ e31 Aru35 (j := (3 : Int32)) hinu35 (g := (mkF m 110 #[.val (.int i0), .val (.int i1), .val (.int i2), .val (.int i3), .val (.int i4), .val (.int i5), .val (.int s0), .val (.int s1), .val (.int s2), .val (.int s3), .val (.int s0), .val (.int (s0 + s1)), .val (.int ((s0 + s1) + s2)), .val (.int (((s0 + s1) + s2) + s3)), .val (.int t0), .unset, .unset, .unset] [(.double (FP.i2d s3)), (.int (3 : Int32)), (.ref b16), (.ref b16)])) rfl rfl (hb hby at_110)
    have f37 := Arv.set Aru35 qu35 Su35 Ngu35 Hu35 Gu35 rfl W36 3 rfl (Nat.le_of_ble_eq_true rfl)
    have Zs38 : n0 ≤ h36.size := by rw [W36.size]; exact Zs33
    have N36 := Fr.snoc X36 N31 g_b16
    have sg39 : ∀ t, Steps p.tables e below (T36.setTop (mkF m 122 #[.val (.int i0), .val (.int i1), .val (.int i2), .val (.int i3), .val (.int i4), .val (.int i5), .val (.int s0), .val (.int s1), .val (.int s2), .val (.int s3), .val (.int s0), .val (.int (s0 + s1)), .val (.int ((s0 + s1) + s2)), .val (.int (((s0 + s1) + s2) + s3)), .val (.int t0), .val (.ref b16), .unset, .unset] [(.double (FP.ddiv (FP.i2d t0) (4611686018427387904 : UInt64))), (.ref b16)])) t → Steps p.tables e below (T36.setTop (mkF m 111 #[.val (.int i0), .val (.int i1), .val (.int i2), .val (.int i3), .val (.int i4), .val (.int i5), .val (.int s0), .val (.int s1), .val (.int s2), .val (.int s3), .val (.int s0), .val (.int (s0 + s1)), .val (.int ((s0 + s1) + s2)), .val (.int (((s0 + s1) + s2) + s3)), .val (.int t0), .unset, .unset, .unset] [(.ref b16)])) t := by
      intro t kt
      refine XS.astore X36.here hx rfl (hb hby at_111) rfl rfl (l' := #[.val (.int i0), .val (.int i1), .val (.int i2), .val (.int i3), .val (.int i4), .val (.int i5), .val (.int s0), .val (.int s1), .val (.int s2), .val (.int s3), .val (.int s0), .val (.int (s0 + s1)), .val (.int ((s0 + s1) + s2)), .val (.int (((s0 + s1) + s2) + s3)), .val (.int t0), .val (.ref b16), .unset, .unset]) rfl ?_
      show Steps p.tables e below (T36.setTop (mkF m 113 #[.val (.int i0), .val (.int i1), .val (.int i2), .val (.int i3), .val (.int i4), .val (.int i5), .val (.int s0), .val (.int s1), .val (.int s2), .val (.int s3), .val (.int s0), .val (.int (s0 + s1)), .val (.int ((s0 + s1) + s2)), .val (.int (((s0 + s1) + s2) + s3)), .val (.int t0), .val (.ref b16), .unset, .unset] [])) _
      refine XS.aload X36.here hx rfl (hb hby at_113) rfl rfl ?_
      show Steps p.tables e below (T36.setTop (mkF m 115 #[.val (.int i0), .val (.int i1), .val (.int i2), .val (.int i3), .val (.int i4), .val (.int i5), .val (.int s0), .val (.int s1), .val (.int s2), .val (.int s3), .val (.int s0), .val (.int (s0 + s1)), .val (.int ((s0 + s1) + s2)), .val (.int (((s0 + s1) + s2) + s3)), .val (.int t0), .val (.ref b16), .unset, .unset] [(.ref b16)])) _
      refine XS.iload X36.here hx rfl (hb hby at_115) rfl ?_
      show Steps p.tables e below (T36.setTop (mkF m 117 #[.val (.int i0), .val (.int i1), .val (.int i2), .val (.int i3), .val (.int i4), .val (.int i5), .val (.int s0), .val (.int s1), .val (.int s2), .val (.int s3), .val (.int s0), .val (.int (s0 + s1)), .val (.int ((s0 + s1) + s2)), .val (.int (((s0 + s1) + s2) + s3)), .val (.int t0), .val (.ref b16), .unset, .unset] [(.int t0), (.ref b16)])) _
      refine XS.i2dS X36.here hx rfl (hb hby at_117) rfl (v := (FP.i2d t0)) rfl ?_
      show Steps p.tables e below (T36.setTop (mkF m 118 #[.val (.int i0), .val (.int i1), .val (.int i2), .val (.int i3), .val (.int i4), .val (.int i5), .val (.int s0), .val (.int s1), .val (.int s2), .val (.int s3), .val (.int s0), .val (.int (s0 + s1)), .val (.int ((s0 + s1) + s2)), .val (.int (((s0 + s1) + s2) + s3)), .val (.int t0), .val (.ref b16), .unset, .unset] [(.double (FP.i2d t0)), (.ref b16)])) _
      refine X36.ldc2DoubleC hx hown (mvT hZ (hw _ (List.mem_of_getElem? (i := 7) rfl))) (g := (mkF m 118 #[.val (.int i0), .val (.int i1), .val (.int i2), .val (.int i3), .val (.int i4), .val (.int i5), .val (.int s0), .val (.int s1), .val (.int s2), .val (.int s3), .val (.int s0), .val (.int (s0 + s1)), .val (.int ((s0 + s1) + s2)), .val (.int (((s0 + s1) + s2) + s3)), .val (.int t0), .val (.ref b16), .unset, .unset] [(.double (FP.i2d t0)), (.ref b16)])) rfl (hb hby at_118) _ ?_
      show Steps p.tables e below (T36.setTop (mkF m 121 #[.val (.int i0), .val (.int i1), .val (.int i2), .val (.int i3), .val (.int i4), .val (.int i5), .val (.int s0), .val (.int s1), .val (.int s2), .val (.int s3), .val (.int s0), .val (.int (s0 + s1)), .val (.int ((s0 + s1) + s2)), .val (.int (((s0 + s1) + s2) + s3)), .val (.int t0), .val (.ref b16), .unset, .unset] [(.double (4611686018427387904 : UInt64)), (.double (FP.i2d t0)), (.ref b16)])) _
      refine XS.ddivS X36.here hx rfl (hb hby at_121) rfl (own_half_nn t0) (v := (FP.ddiv (FP.i2d t0) (4611686018427387904 : UInt64))) rfl ?_
      exact kt
    obtain ⟨_, _, ⟨T40, L40, k40, n40⟩, -, X40, ⟨Lc40, hQ40, l40, y40, z40⟩, st40⟩ := Jvm.LawKit.callS X36 hx (y := (⟨"com/example/cairnwise/cairnwise/cluster/KmeansPlusPlus", "draw", "([DD)I"⟩ : MethodName)) hown (mvT hZ (hw _ (List.mem_of_getElem? (i := 8) rfl))) (mvT hZ (hw _ (List.mem_of_getElem? (i := 9) rfl))) (mvT hZ (hw _ (List.mem_of_getElem? (i := 10) rfl))) (mvT hZ (hw _ (List.mem_of_getElem? (i := 11) rfl))) (by decide) (backOf (W := 0) (rm2 l Z a0 hw [] b16 (FP.ddiv (FP.i2d t0) (4611686018427387904 : UInt64)) t0 s0 s1 s2 s3 k15 h36 n0 Zs38 rfl f37 (by simp only [List.mem_cons, List.not_mem_nil, or_false]; rintro x (rfl | rfl | rfl | rfl) <;> assumption)) hZ (hw _ (List.mem_of_getElem? (i := 11) rfl)) (hw _ (List.mem_of_getElem? (i := 10) rfl)) (by decide) (by decide)) (g := (mkF m 122 #[.val (.int i0), .val (.int i1), .val (.int i2), .val (.int i3), .val (.int i4), .val (.int i5), .val (.int s0), .val (.int s1), .val (.int s2), .val (.int s3), .val (.int s0), .val (.int (s0 + s1)), .val (.int ((s0 + s1) + s2)), .val (.int (((s0 + s1) + s2) + s3)), .val (.int t0), .val (.ref b16), .unset, .unset] [(.double (FP.ddiv (FP.i2d t0) (4611686018427387904 : UInt64))), (.ref b16)])) rfl (by rw [hml]; rfl) (argsL := [(.ref b16), (.double (FP.ddiv (FP.i2d t0) (4611686018427387904 : UInt64)))]) (rest := []) (lenOf pd_1 rfl) rfl (by show 2 * 0 + _ ≤ _; exact Nat.le_of_eq rfl) (hb hby at_122) (fun _ _ => ⟨rfl, e36, (by decide : 1 + 0 ≤ _), (by decide : 4 + 0 ≤ _)⟩)
    dsimp only [Pt.U, Pt.locs, Pt.cells, Pt.slots] at X40 l40 y40 z40 st40 hQ40
    subst l40 y40 z40
    obtain ⟨rfl, Nq40, eq40⟩ := hQ40
    have N40 := Fr.app N36 Nq40
    have sg41 : ∀ t, Steps p.tables e below (T40.setTop (mkF m 127 #[.val (.int i0), .val (.int i1), .val (.int i2), .val (.int i3), .val (.int i4), .val (.int i5), .val (.int s0), .val (.int s1), .val (.int s2), .val (.int s3), .val (.int s0), .val (.int (s0 + s1)), .val (.int ((s0 + s1) + s2)), .val (.int (((s0 + s1) + s2) + s3)), .val (.int t0), .val (.ref b16), .val (.int (own_go t0 0 0 (-1) [s0, s1, s2, s3])), .unset] [])) t → Steps p.tables e below (T40.setTop (mkF m 125 #[.val (.int i0), .val (.int i1), .val (.int i2), .val (.int i3), .val (.int i4), .val (.int i5), .val (.int s0), .val (.int s1), .val (.int s2), .val (.int s3), .val (.int s0), .val (.int (s0 + s1)), .val (.int ((s0 + s1) + s2)), .val (.int (((s0 + s1) + s2) + s3)), .val (.int t0), .val (.ref b16), .unset, .unset] [(.int (own_go t0 0 0 (-1) [s0, s1, s2, s3]))])) t := by
      intro t kt
      refine XS.istore X40.here hx rfl (hb hby at_125) rfl (l' := #[.val (.int i0), .val (.int i1), .val (.int i2), .val (.int i3), .val (.int i4), .val (.int i5), .val (.int s0), .val (.int s1), .val (.int s2), .val (.int s3), .val (.int s0), .val (.int (s0 + s1)), .val (.int ((s0 + s1) + s2)), .val (.int (((s0 + s1) + s2) + s3)), .val (.int t0), .val (.ref b16), .val (.int (own_go t0 0 0 (-1) [s0, s1, s2, s3])), .unset]) rfl ?_
      exact kt
    obtain ⟨ex, hex, hx_st⟩ : ∃ ex : Int32, ex = own_exp t0 s0 s1 s2 s3 ∧ ∀ t, Steps p.tables e below (T40.setTop (mkF m 243 #[.val (.int i0), .val (.int i1), .val (.int i2), .val (.int i3), .val (.int i4), .val (.int i5), .val (.int s0), .val (.int s1), .val (.int s2), .val (.int s3), .val (.int s0), .val (.int (s0 + s1)), .val (.int ((s0 + s1) + s2)), .val (.int (((s0 + s1) + s2) + s3)), .val (.int t0), .val (.ref b16), .val (.int (own_go t0 0 0 (-1) [s0, s1, s2, s3])), .val (.int ex)] [])) t → Steps p.tables e below (T40.setTop (mkF m 127 #[.val (.int i0), .val (.int i1), .val (.int i2), .val (.int i3), .val (.int i4), .val (.int i5), .val (.int s0), .val (.int s1), .val (.int s2), .val (.int s3), .val (.int s0), .val (.int (s0 + s1)), .val (.int ((s0 + s1) + s2)), .val (.int (((s0 + s1) + s2) + s3)), .val (.int t0), .val (.ref b16), .val (.int (own_go t0 0 0 (-1) [s0, s1, s2, s3])), .unset] [])) t := by
      by_cases A0 : 0 < s0 ∧ t0 < 2 * s0
      · refine ⟨(0 : Int32), by unfold own_exp; rw [if_pos A0], fun t kt => ?_⟩
        refine XS.iload X40.here hx rfl (hb hby at_127) rfl ?_
        show Steps p.tables e below (T40.setTop (mkF m 129 #[.val (.int i0), .val (.int i1), .val (.int i2), .val (.int i3), .val (.int i4), .val (.int i5), .val (.int s0), .val (.int s1), .val (.int s2), .val (.int s3), .val (.int s0), .val (.int (s0 + s1)), .val (.int ((s0 + s1) + s2)), .val (.int (((s0 + s1) + s2) + s3)), .val (.int t0), .val (.ref b16), .val (.int (own_go t0 0 0 (-1) [s0, s1, s2, s3])), .unset] [(.int s0)])) _
        refine XS.ifNo X40.here hx rfl (hb hby at_129) rfl ((if0 _ _).trans (tlt (A0.1 : (0 : Int32) < s0)).2.2.2) ?_
        show Steps p.tables e below (T40.setTop (mkF m 132 #[.val (.int i0), .val (.int i1), .val (.int i2), .val (.int i3), .val (.int i4), .val (.int i5), .val (.int s0), .val (.int s1), .val (.int s2), .val (.int s3), .val (.int s0), .val (.int (s0 + s1)), .val (.int ((s0 + s1) + s2)), .val (.int (((s0 + s1) + s2) + s3)), .val (.int t0), .val (.ref b16), .val (.int (own_go t0 0 0 (-1) [s0, s1, s2, s3])), .unset] [])) _
        refine XS.iconst X40.here hx rfl (hb hby at_132) ?_
        show Steps p.tables e below (T40.setTop (mkF m 133 #[.val (.int i0), .val (.int i1), .val (.int i2), .val (.int i3), .val (.int i4), .val (.int i5), .val (.int s0), .val (.int s1), .val (.int s2), .val (.int s3), .val (.int s0), .val (.int (s0 + s1)), .val (.int ((s0 + s1) + s2)), .val (.int (((s0 + s1) + s2) + s3)), .val (.int t0), .val (.ref b16), .val (.int (own_go t0 0 0 (-1) [s0, s1, s2, s3])), .unset] [(.int (2 : Int32))])) _
        refine XS.iload X40.here hx rfl (hb hby at_133) rfl ?_
        show Steps p.tables e below (T40.setTop (mkF m 135 #[.val (.int i0), .val (.int i1), .val (.int i2), .val (.int i3), .val (.int i4), .val (.int i5), .val (.int s0), .val (.int s1), .val (.int s2), .val (.int s3), .val (.int s0), .val (.int (s0 + s1)), .val (.int ((s0 + s1) + s2)), .val (.int (((s0 + s1) + s2) + s3)), .val (.int t0), .val (.ref b16), .val (.int (own_go t0 0 0 (-1) [s0, s1, s2, s3])), .unset] [(.int s0), (.int (2 : Int32))])) _
        refine XS.imul X40.here hx rfl (hb hby at_135) rfl ?_
        show Steps p.tables e below (T40.setTop (mkF m 136 #[.val (.int i0), .val (.int i1), .val (.int i2), .val (.int i3), .val (.int i4), .val (.int i5), .val (.int s0), .val (.int s1), .val (.int s2), .val (.int s3), .val (.int s0), .val (.int (s0 + s1)), .val (.int ((s0 + s1) + s2)), .val (.int (((s0 + s1) + s2) + s3)), .val (.int t0), .val (.ref b16), .val (.int (own_go t0 0 0 (-1) [s0, s1, s2, s3])), .unset] [(.int ((2 : Int32) * s0))])) _
        refine XS.iload X40.here hx rfl (hb hby at_136) rfl ?_
        show Steps p.tables e below (T40.setTop (mkF m 138 #[.val (.int i0), .val (.int i1), .val (.int i2), .val (.int i3), .val (.int i4), .val (.int i5), .val (.int s0), .val (.int s1), .val (.int s2), .val (.int s3), .val (.int s0), .val (.int (s0 + s1)), .val (.int ((s0 + s1) + s2)), .val (.int (((s0 + s1) + s2) + s3)), .val (.int t0), .val (.ref b16), .val (.int (own_go t0 0 0 (-1) [s0, s1, s2, s3])), .unset] [(.int t0), (.int ((2 : Int32) * s0))])) _
        refine XS.icmpNo X40.here hx rfl (hb hby at_138) rfl (tlt (A0.2 : t0 < ((2 : Int32) * s0))).2.2.2 ?_
        show Steps p.tables e below (T40.setTop (mkF m 141 #[.val (.int i0), .val (.int i1), .val (.int i2), .val (.int i3), .val (.int i4), .val (.int i5), .val (.int s0), .val (.int s1), .val (.int s2), .val (.int s3), .val (.int s0), .val (.int (s0 + s1)), .val (.int ((s0 + s1) + s2)), .val (.int (((s0 + s1) + s2) + s3)), .val (.int t0), .val (.ref b16), .val (.int (own_go t0 0 0 (-1) [s0, s1, s2, s3])), .unset] [])) _
        refine XS.iconst X40.here hx rfl (hb hby at_141) ?_
        show Steps p.tables e below (T40.setTop (mkF m 142 #[.val (.int i0), .val (.int i1), .val (.int i2), .val (.int i3), .val (.int i4), .val (.int i5), .val (.int s0), .val (.int s1), .val (.int s2), .val (.int s3), .val (.int s0), .val (.int (s0 + s1)), .val (.int ((s0 + s1) + s2)), .val (.int (((s0 + s1) + s2) + s3)), .val (.int t0), .val (.ref b16), .val (.int (own_go t0 0 0 (-1) [s0, s1, s2, s3])), .unset] [(.int (0 : Int32))])) _
        refine XS.istore X40.here hx rfl (hb hby at_142) rfl (l' := #[.val (.int i0), .val (.int i1), .val (.int i2), .val (.int i3), .val (.int i4), .val (.int i5), .val (.int s0), .val (.int s1), .val (.int s2), .val (.int s3), .val (.int s0), .val (.int (s0 + s1)), .val (.int ((s0 + s1) + s2)), .val (.int (((s0 + s1) + s2) + s3)), .val (.int t0), .val (.ref b16), .val (.int (own_go t0 0 0 (-1) [s0, s1, s2, s3])), .val (.int (0 : Int32))]) rfl ?_
        show Steps p.tables e below (T40.setTop (mkF m 144 #[.val (.int i0), .val (.int i1), .val (.int i2), .val (.int i3), .val (.int i4), .val (.int i5), .val (.int s0), .val (.int s1), .val (.int s2), .val (.int s3), .val (.int s0), .val (.int (s0 + s1)), .val (.int ((s0 + s1) + s2)), .val (.int (((s0 + s1) + s2) + s3)), .val (.int t0), .val (.ref b16), .val (.int (own_go t0 0 0 (-1) [s0, s1, s2, s3])), .val (.int (0 : Int32))] [])) _
        refine XS.goto X40.here hx rfl (pc0 := 144) (pc' := 243) rfl (hb hby at_144) (by decide) (by decide) ?_
        exact kt
      have nx0 : ∀ t, Steps p.tables e below (T40.setTop (mkF m 147 #[.val (.int i0), .val (.int i1), .val (.int i2), .val (.int i3), .val (.int i4), .val (.int i5), .val (.int s0), .val (.int s1), .val (.int s2), .val (.int s3), .val (.int s0), .val (.int (s0 + s1)), .val (.int ((s0 + s1) + s2)), .val (.int (((s0 + s1) + s2) + s3)), .val (.int t0), .val (.ref b16), .val (.int (own_go t0 0 0 (-1) [s0, s1, s2, s3])), .unset] [])) t → Steps p.tables e below (T40.setTop (mkF m 127 #[.val (.int i0), .val (.int i1), .val (.int i2), .val (.int i3), .val (.int i4), .val (.int i5), .val (.int s0), .val (.int s1), .val (.int s2), .val (.int s3), .val (.int s0), .val (.int (s0 + s1)), .val (.int ((s0 + s1) + s2)), .val (.int (((s0 + s1) + s2) + s3)), .val (.int t0), .val (.ref b16), .val (.int (own_go t0 0 0 (-1) [s0, s1, s2, s3])), .unset] [])) t := by
        intro t kt
        by_cases B : 0 < s0
        · refine XS.iload X40.here hx rfl (hb hby at_127) rfl ?_
          show Steps p.tables e below (T40.setTop (mkF m 129 #[.val (.int i0), .val (.int i1), .val (.int i2), .val (.int i3), .val (.int i4), .val (.int i5), .val (.int s0), .val (.int s1), .val (.int s2), .val (.int s3), .val (.int s0), .val (.int (s0 + s1)), .val (.int ((s0 + s1) + s2)), .val (.int (((s0 + s1) + s2) + s3)), .val (.int t0), .val (.ref b16), .val (.int (own_go t0 0 0 (-1) [s0, s1, s2, s3])), .unset] [(.int s0)])) _
          refine XS.ifNo X40.here hx rfl (hb hby at_129) rfl ((if0 _ _).trans (tlt (B : (0 : Int32) < s0)).2.2.2) ?_
          show Steps p.tables e below (T40.setTop (mkF m 132 #[.val (.int i0), .val (.int i1), .val (.int i2), .val (.int i3), .val (.int i4), .val (.int i5), .val (.int s0), .val (.int s1), .val (.int s2), .val (.int s3), .val (.int s0), .val (.int (s0 + s1)), .val (.int ((s0 + s1) + s2)), .val (.int (((s0 + s1) + s2) + s3)), .val (.int t0), .val (.ref b16), .val (.int (own_go t0 0 0 (-1) [s0, s1, s2, s3])), .unset] [])) _
          refine XS.iconst X40.here hx rfl (hb hby at_132) ?_
          show Steps p.tables e below (T40.setTop (mkF m 133 #[.val (.int i0), .val (.int i1), .val (.int i2), .val (.int i3), .val (.int i4), .val (.int i5), .val (.int s0), .val (.int s1), .val (.int s2), .val (.int s3), .val (.int s0), .val (.int (s0 + s1)), .val (.int ((s0 + s1) + s2)), .val (.int (((s0 + s1) + s2) + s3)), .val (.int t0), .val (.ref b16), .val (.int (own_go t0 0 0 (-1) [s0, s1, s2, s3])), .unset] [(.int (2 : Int32))])) _
          refine XS.iload X40.here hx rfl (hb hby at_133) rfl ?_
          show Steps p.tables e below (T40.setTop (mkF m 135 #[.val (.int i0), .val (.int i1), .val (.int i2), .val (.int i3), .val (.int i4), .val (.int i5), .val (.int s0), .val (.int s1), .val (.int s2), .val (.int s3), .val (.int s0), .val (.int (s0 + s1)), .val (.int ((s0 + s1) + s2)), .val (.int (((s0 + s1) + s2) + s3)), .val (.int t0), .val (.ref b16), .val (.int (own_go t0 0 0 (-1) [s0, s1, s2, s3])), .unset] [(.int s0), (.int (2 : Int32))])) _
          refine XS.imul X40.here hx rfl (hb hby at_135) rfl ?_
          show Steps p.tables e below (T40.setTop (mkF m 136 #[.val (.int i0), .val (.int i1), .val (.int i2), .val (.int i3), .val (.int i4), .val (.int i5), .val (.int s0), .val (.int s1), .val (.int s2), .val (.int s3), .val (.int s0), .val (.int (s0 + s1)), .val (.int ((s0 + s1) + s2)), .val (.int (((s0 + s1) + s2) + s3)), .val (.int t0), .val (.ref b16), .val (.int (own_go t0 0 0 (-1) [s0, s1, s2, s3])), .unset] [(.int ((2 : Int32) * s0))])) _
          refine XS.iload X40.here hx rfl (hb hby at_136) rfl ?_
          show Steps p.tables e below (T40.setTop (mkF m 138 #[.val (.int i0), .val (.int i1), .val (.int i2), .val (.int i3), .val (.int i4), .val (.int i5), .val (.int s0), .val (.int s1), .val (.int s2), .val (.int s3), .val (.int s0), .val (.int (s0 + s1)), .val (.int ((s0 + s1) + s2)), .val (.int (((s0 + s1) + s2) + s3)), .val (.int t0), .val (.ref b16), .val (.int (own_go t0 0 0 (-1) [s0, s1, s2, s3])), .unset] [(.int t0), (.int ((2 : Int32) * s0))])) _
          refine XS.icmpYes X40.here hx rfl (pc0 := 138) (pc' := 147) rfl (hb hby at_138) rfl (flt (fun q => A0 ⟨B, q⟩ : ¬ (t0 < ((2 : Int32) * s0)))).2.2.2 (by decide) (by decide) ?_
          exact kt
        · refine XS.iload X40.here hx rfl (hb hby at_127) rfl ?_
          show Steps p.tables e below (T40.setTop (mkF m 129 #[.val (.int i0), .val (.int i1), .val (.int i2), .val (.int i3), .val (.int i4), .val (.int i5), .val (.int s0), .val (.int s1), .val (.int s2), .val (.int s3), .val (.int s0), .val (.int (s0 + s1)), .val (.int ((s0 + s1) + s2)), .val (.int (((s0 + s1) + s2) + s3)), .val (.int t0), .val (.ref b16), .val (.int (own_go t0 0 0 (-1) [s0, s1, s2, s3])), .unset] [(.int s0)])) _
          refine XS.ifYes X40.here hx rfl (pc0 := 129) (pc' := 147) rfl (hb hby at_129) rfl ((if0 _ _).trans (flt (B : ¬ ((0 : Int32) < s0))).2.2.2) (by decide) (by decide) ?_
          exact kt
      by_cases A1 : 0 < s1 ∧ t0 < 2 * (s0 + s1)
      · refine ⟨(1 : Int32), by unfold own_exp; rw [if_neg A0, if_pos A1], fun t kt => ?_⟩
        refine nx0 _ ?_
        show Steps p.tables e below (T40.setTop (mkF m 147 #[.val (.int i0), .val (.int i1), .val (.int i2), .val (.int i3), .val (.int i4), .val (.int i5), .val (.int s0), .val (.int s1), .val (.int s2), .val (.int s3), .val (.int s0), .val (.int (s0 + s1)), .val (.int ((s0 + s1) + s2)), .val (.int (((s0 + s1) + s2) + s3)), .val (.int t0), .val (.ref b16), .val (.int (own_go t0 0 0 (-1) [s0, s1, s2, s3])), .unset] [])) _
        refine XS.iload X40.here hx rfl (hb hby at_147) rfl ?_
        show Steps p.tables e below (T40.setTop (mkF m 149 #[.val (.int i0), .val (.int i1), .val (.int i2), .val (.int i3), .val (.int i4), .val (.int i5), .val (.int s0), .val (.int s1), .val (.int s2), .val (.int s3), .val (.int s0), .val (.int (s0 + s1)), .val (.int ((s0 + s1) + s2)), .val (.int (((s0 + s1) + s2) + s3)), .val (.int t0), .val (.ref b16), .val (.int (own_go t0 0 0 (-1) [s0, s1, s2, s3])), .unset] [(.int s1)])) _
        refine XS.ifNo X40.here hx rfl (hb hby at_149) rfl ((if0 _ _).trans (tlt (A1.1 : (0 : Int32) < s1)).2.2.2) ?_
        show Steps p.tables e below (T40.setTop (mkF m 152 #[.val (.int i0), .val (.int i1), .val (.int i2), .val (.int i3), .val (.int i4), .val (.int i5), .val (.int s0), .val (.int s1), .val (.int s2), .val (.int s3), .val (.int s0), .val (.int (s0 + s1)), .val (.int ((s0 + s1) + s2)), .val (.int (((s0 + s1) + s2) + s3)), .val (.int t0), .val (.ref b16), .val (.int (own_go t0 0 0 (-1) [s0, s1, s2, s3])), .unset] [])) _
        refine XS.iconst X40.here hx rfl (hb hby at_152) ?_
        show Steps p.tables e below (T40.setTop (mkF m 153 #[.val (.int i0), .val (.int i1), .val (.int i2), .val (.int i3), .val (.int i4), .val (.int i5), .val (.int s0), .val (.int s1), .val (.int s2), .val (.int s3), .val (.int s0), .val (.int (s0 + s1)), .val (.int ((s0 + s1) + s2)), .val (.int (((s0 + s1) + s2) + s3)), .val (.int t0), .val (.ref b16), .val (.int (own_go t0 0 0 (-1) [s0, s1, s2, s3])), .unset] [(.int (2 : Int32))])) _
        refine XS.iload X40.here hx rfl (hb hby at_153) rfl ?_
        show Steps p.tables e below (T40.setTop (mkF m 155 #[.val (.int i0), .val (.int i1), .val (.int i2), .val (.int i3), .val (.int i4), .val (.int i5), .val (.int s0), .val (.int s1), .val (.int s2), .val (.int s3), .val (.int s0), .val (.int (s0 + s1)), .val (.int ((s0 + s1) + s2)), .val (.int (((s0 + s1) + s2) + s3)), .val (.int t0), .val (.ref b16), .val (.int (own_go t0 0 0 (-1) [s0, s1, s2, s3])), .unset] [(.int (s0 + s1)), (.int (2 : Int32))])) _
        refine XS.imul X40.here hx rfl (hb hby at_155) rfl ?_
        show Steps p.tables e below (T40.setTop (mkF m 156 #[.val (.int i0), .val (.int i1), .val (.int i2), .val (.int i3), .val (.int i4), .val (.int i5), .val (.int s0), .val (.int s1), .val (.int s2), .val (.int s3), .val (.int s0), .val (.int (s0 + s1)), .val (.int ((s0 + s1) + s2)), .val (.int (((s0 + s1) + s2) + s3)), .val (.int t0), .val (.ref b16), .val (.int (own_go t0 0 0 (-1) [s0, s1, s2, s3])), .unset] [(.int ((2 : Int32) * (s0 + s1)))])) _
        refine XS.iload X40.here hx rfl (hb hby at_156) rfl ?_
        show Steps p.tables e below (T40.setTop (mkF m 158 #[.val (.int i0), .val (.int i1), .val (.int i2), .val (.int i3), .val (.int i4), .val (.int i5), .val (.int s0), .val (.int s1), .val (.int s2), .val (.int s3), .val (.int s0), .val (.int (s0 + s1)), .val (.int ((s0 + s1) + s2)), .val (.int (((s0 + s1) + s2) + s3)), .val (.int t0), .val (.ref b16), .val (.int (own_go t0 0 0 (-1) [s0, s1, s2, s3])), .unset] [(.int t0), (.int ((2 : Int32) * (s0 + s1)))])) _
        refine XS.icmpNo X40.here hx rfl (hb hby at_158) rfl (tlt (A1.2 : t0 < ((2 : Int32) * (s0 + s1)))).2.2.2 ?_
        show Steps p.tables e below (T40.setTop (mkF m 161 #[.val (.int i0), .val (.int i1), .val (.int i2), .val (.int i3), .val (.int i4), .val (.int i5), .val (.int s0), .val (.int s1), .val (.int s2), .val (.int s3), .val (.int s0), .val (.int (s0 + s1)), .val (.int ((s0 + s1) + s2)), .val (.int (((s0 + s1) + s2) + s3)), .val (.int t0), .val (.ref b16), .val (.int (own_go t0 0 0 (-1) [s0, s1, s2, s3])), .unset] [])) _
        refine XS.iconst X40.here hx rfl (hb hby at_161) ?_
        show Steps p.tables e below (T40.setTop (mkF m 162 #[.val (.int i0), .val (.int i1), .val (.int i2), .val (.int i3), .val (.int i4), .val (.int i5), .val (.int s0), .val (.int s1), .val (.int s2), .val (.int s3), .val (.int s0), .val (.int (s0 + s1)), .val (.int ((s0 + s1) + s2)), .val (.int (((s0 + s1) + s2) + s3)), .val (.int t0), .val (.ref b16), .val (.int (own_go t0 0 0 (-1) [s0, s1, s2, s3])), .unset] [(.int (1 : Int32))])) _
        refine XS.istore X40.here hx rfl (hb hby at_162) rfl (l' := #[.val (.int i0), .val (.int i1), .val (.int i2), .val (.int i3), .val (.int i4), .val (.int i5), .val (.int s0), .val (.int s1), .val (.int s2), .val (.int s3), .val (.int s0), .val (.int (s0 + s1)), .val (.int ((s0 + s1) + s2)), .val (.int (((s0 + s1) + s2) + s3)), .val (.int t0), .val (.ref b16), .val (.int (own_go t0 0 0 (-1) [s0, s1, s2, s3])), .val (.int (1 : Int32))]) rfl ?_
        show Steps p.tables e below (T40.setTop (mkF m 164 #[.val (.int i0), .val (.int i1), .val (.int i2), .val (.int i3), .val (.int i4), .val (.int i5), .val (.int s0), .val (.int s1), .val (.int s2), .val (.int s3), .val (.int s0), .val (.int (s0 + s1)), .val (.int ((s0 + s1) + s2)), .val (.int (((s0 + s1) + s2) + s3)), .val (.int t0), .val (.ref b16), .val (.int (own_go t0 0 0 (-1) [s0, s1, s2, s3])), .val (.int (1 : Int32))] [])) _
        refine XS.goto X40.here hx rfl (pc0 := 164) (pc' := 243) rfl (hb hby at_164) (by decide) (by decide) ?_
        exact kt
      have nx1 : ∀ t, Steps p.tables e below (T40.setTop (mkF m 167 #[.val (.int i0), .val (.int i1), .val (.int i2), .val (.int i3), .val (.int i4), .val (.int i5), .val (.int s0), .val (.int s1), .val (.int s2), .val (.int s3), .val (.int s0), .val (.int (s0 + s1)), .val (.int ((s0 + s1) + s2)), .val (.int (((s0 + s1) + s2) + s3)), .val (.int t0), .val (.ref b16), .val (.int (own_go t0 0 0 (-1) [s0, s1, s2, s3])), .unset] [])) t → Steps p.tables e below (T40.setTop (mkF m 147 #[.val (.int i0), .val (.int i1), .val (.int i2), .val (.int i3), .val (.int i4), .val (.int i5), .val (.int s0), .val (.int s1), .val (.int s2), .val (.int s3), .val (.int s0), .val (.int (s0 + s1)), .val (.int ((s0 + s1) + s2)), .val (.int (((s0 + s1) + s2) + s3)), .val (.int t0), .val (.ref b16), .val (.int (own_go t0 0 0 (-1) [s0, s1, s2, s3])), .unset] [])) t := by
        intro t kt
        by_cases B : 0 < s1
        · refine XS.iload X40.here hx rfl (hb hby at_147) rfl ?_
          show Steps p.tables e below (T40.setTop (mkF m 149 #[.val (.int i0), .val (.int i1), .val (.int i2), .val (.int i3), .val (.int i4), .val (.int i5), .val (.int s0), .val (.int s1), .val (.int s2), .val (.int s3), .val (.int s0), .val (.int (s0 + s1)), .val (.int ((s0 + s1) + s2)), .val (.int (((s0 + s1) + s2) + s3)), .val (.int t0), .val (.ref b16), .val (.int (own_go t0 0 0 (-1) [s0, s1, s2, s3])), .unset] [(.int s1)])) _
          refine XS.ifNo X40.here hx rfl (hb hby at_149) rfl ((if0 _ _).trans (tlt (B : (0 : Int32) < s1)).2.2.2) ?_
          show Steps p.tables e below (T40.setTop (mkF m 152 #[.val (.int i0), .val (.int i1), .val (.int i2), .val (.int i3), .val (.int i4), .val (.int i5), .val (.int s0), .val (.int s1), .val (.int s2), .val (.int s3), .val (.int s0), .val (.int (s0 + s1)), .val (.int ((s0 + s1) + s2)), .val (.int (((s0 + s1) + s2) + s3)), .val (.int t0), .val (.ref b16), .val (.int (own_go t0 0 0 (-1) [s0, s1, s2, s3])), .unset] [])) _
          refine XS.iconst X40.here hx rfl (hb hby at_152) ?_
          show Steps p.tables e below (T40.setTop (mkF m 153 #[.val (.int i0), .val (.int i1), .val (.int i2), .val (.int i3), .val (.int i4), .val (.int i5), .val (.int s0), .val (.int s1), .val (.int s2), .val (.int s3), .val (.int s0), .val (.int (s0 + s1)), .val (.int ((s0 + s1) + s2)), .val (.int (((s0 + s1) + s2) + s3)), .val (.int t0), .val (.ref b16), .val (.int (own_go t0 0 0 (-1) [s0, s1, s2, s3])), .unset] [(.int (2 : Int32))])) _
          refine XS.iload X40.here hx rfl (hb hby at_153) rfl ?_
          show Steps p.tables e below (T40.setTop (mkF m 155 #[.val (.int i0), .val (.int i1), .val (.int i2), .val (.int i3), .val (.int i4), .val (.int i5), .val (.int s0), .val (.int s1), .val (.int s2), .val (.int s3), .val (.int s0), .val (.int (s0 + s1)), .val (.int ((s0 + s1) + s2)), .val (.int (((s0 + s1) + s2) + s3)), .val (.int t0), .val (.ref b16), .val (.int (own_go t0 0 0 (-1) [s0, s1, s2, s3])), .unset] [(.int (s0 + s1)), (.int (2 : Int32))])) _
          refine XS.imul X40.here hx rfl (hb hby at_155) rfl ?_
          show Steps p.tables e below (T40.setTop (mkF m 156 #[.val (.int i0), .val (.int i1), .val (.int i2), .val (.int i3), .val (.int i4), .val (.int i5), .val (.int s0), .val (.int s1), .val (.int s2), .val (.int s3), .val (.int s0), .val (.int (s0 + s1)), .val (.int ((s0 + s1) + s2)), .val (.int (((s0 + s1) + s2) + s3)), .val (.int t0), .val (.ref b16), .val (.int (own_go t0 0 0 (-1) [s0, s1, s2, s3])), .unset] [(.int ((2 : Int32) * (s0 + s1)))])) _
          refine XS.iload X40.here hx rfl (hb hby at_156) rfl ?_
          show Steps p.tables e below (T40.setTop (mkF m 158 #[.val (.int i0), .val (.int i1), .val (.int i2), .val (.int i3), .val (.int i4), .val (.int i5), .val (.int s0), .val (.int s1), .val (.int s2), .val (.int s3), .val (.int s0), .val (.int (s0 + s1)), .val (.int ((s0 + s1) + s2)), .val (.int (((s0 + s1) + s2) + s3)), .val (.int t0), .val (.ref b16), .val (.int (own_go t0 0 0 (-1) [s0, s1, s2, s3])), .unset] [(.int t0), (.int ((2 : Int32) * (s0 + s1)))])) _
          refine XS.icmpYes X40.here hx rfl (pc0 := 158) (pc' := 167) rfl (hb hby at_158) rfl (flt (fun q => A1 ⟨B, q⟩ : ¬ (t0 < ((2 : Int32) * (s0 + s1))))).2.2.2 (by decide) (by decide) ?_
          exact kt
        · refine XS.iload X40.here hx rfl (hb hby at_147) rfl ?_
          show Steps p.tables e below (T40.setTop (mkF m 149 #[.val (.int i0), .val (.int i1), .val (.int i2), .val (.int i3), .val (.int i4), .val (.int i5), .val (.int s0), .val (.int s1), .val (.int s2), .val (.int s3), .val (.int s0), .val (.int (s0 + s1)), .val (.int ((s0 + s1) + s2)), .val (.int (((s0 + s1) + s2) + s3)), .val (.int t0), .val (.ref b16), .val (.int (own_go t0 0 0 (-1) [s0, s1, s2, s3])), .unset] [(.int s1)])) _
          refine XS.ifYes X40.here hx rfl (pc0 := 149) (pc' := 167) rfl (hb hby at_149) rfl ((if0 _ _).trans (flt (B : ¬ ((0 : Int32) < s1))).2.2.2) (by decide) (by decide) ?_
          exact kt
      by_cases A2 : 0 < s2 ∧ t0 < 2 * ((s0 + s1) + s2)
      · refine ⟨(2 : Int32), by unfold own_exp; rw [if_neg A0, if_neg A1, if_pos A2], fun t kt => ?_⟩
        refine nx0 _ ?_
        show Steps p.tables e below (T40.setTop (mkF m 147 #[.val (.int i0), .val (.int i1), .val (.int i2), .val (.int i3), .val (.int i4), .val (.int i5), .val (.int s0), .val (.int s1), .val (.int s2), .val (.int s3), .val (.int s0), .val (.int (s0 + s1)), .val (.int ((s0 + s1) + s2)), .val (.int (((s0 + s1) + s2) + s3)), .val (.int t0), .val (.ref b16), .val (.int (own_go t0 0 0 (-1) [s0, s1, s2, s3])), .unset] [])) _
        refine nx1 _ ?_
        show Steps p.tables e below (T40.setTop (mkF m 167 #[.val (.int i0), .val (.int i1), .val (.int i2), .val (.int i3), .val (.int i4), .val (.int i5), .val (.int s0), .val (.int s1), .val (.int s2), .val (.int s3), .val (.int s0), .val (.int (s0 + s1)), .val (.int ((s0 + s1) + s2)), .val (.int (((s0 + s1) + s2) + s3)), .val (.int t0), .val (.ref b16), .val (.int (own_go t0 0 0 (-1) [s0, s1, s2, s3])), .unset] [])) _
        refine XS.iload X40.here hx rfl (hb hby at_167) rfl ?_
        show Steps p.tables e below (T40.setTop (mkF m 169 #[.val (.int i0), .val (.int i1), .val (.int i2), .val (.int i3), .val (.int i4), .val (.int i5), .val (.int s0), .val (.int s1), .val (.int s2), .val (.int s3), .val (.int s0), .val (.int (s0 + s1)), .val (.int ((s0 + s1) + s2)), .val (.int (((s0 + s1) + s2) + s3)), .val (.int t0), .val (.ref b16), .val (.int (own_go t0 0 0 (-1) [s0, s1, s2, s3])), .unset] [(.int s2)])) _
        refine XS.ifNo X40.here hx rfl (hb hby at_169) rfl ((if0 _ _).trans (tlt (A2.1 : (0 : Int32) < s2)).2.2.2) ?_
        show Steps p.tables e below (T40.setTop (mkF m 172 #[.val (.int i0), .val (.int i1), .val (.int i2), .val (.int i3), .val (.int i4), .val (.int i5), .val (.int s0), .val (.int s1), .val (.int s2), .val (.int s3), .val (.int s0), .val (.int (s0 + s1)), .val (.int ((s0 + s1) + s2)), .val (.int (((s0 + s1) + s2) + s3)), .val (.int t0), .val (.ref b16), .val (.int (own_go t0 0 0 (-1) [s0, s1, s2, s3])), .unset] [])) _
        refine XS.iconst X40.here hx rfl (hb hby at_172) ?_
        show Steps p.tables e below (T40.setTop (mkF m 173 #[.val (.int i0), .val (.int i1), .val (.int i2), .val (.int i3), .val (.int i4), .val (.int i5), .val (.int s0), .val (.int s1), .val (.int s2), .val (.int s3), .val (.int s0), .val (.int (s0 + s1)), .val (.int ((s0 + s1) + s2)), .val (.int (((s0 + s1) + s2) + s3)), .val (.int t0), .val (.ref b16), .val (.int (own_go t0 0 0 (-1) [s0, s1, s2, s3])), .unset] [(.int (2 : Int32))])) _
        refine XS.iload X40.here hx rfl (hb hby at_173) rfl ?_
        show Steps p.tables e below (T40.setTop (mkF m 175 #[.val (.int i0), .val (.int i1), .val (.int i2), .val (.int i3), .val (.int i4), .val (.int i5), .val (.int s0), .val (.int s1), .val (.int s2), .val (.int s3), .val (.int s0), .val (.int (s0 + s1)), .val (.int ((s0 + s1) + s2)), .val (.int (((s0 + s1) + s2) + s3)), .val (.int t0), .val (.ref b16), .val (.int (own_go t0 0 0 (-1) [s0, s1, s2, s3])), .unset] [(.int ((s0 + s1) + s2)), (.int (2 : Int32))])) _
        refine XS.imul X40.here hx rfl (hb hby at_175) rfl ?_
        show Steps p.tables e below (T40.setTop (mkF m 176 #[.val (.int i0), .val (.int i1), .val (.int i2), .val (.int i3), .val (.int i4), .val (.int i5), .val (.int s0), .val (.int s1), .val (.int s2), .val (.int s3), .val (.int s0), .val (.int (s0 + s1)), .val (.int ((s0 + s1) + s2)), .val (.int (((s0 + s1) + s2) + s3)), .val (.int t0), .val (.ref b16), .val (.int (own_go t0 0 0 (-1) [s0, s1, s2, s3])), .unset] [(.int ((2 : Int32) * ((s0 + s1) + s2)))])) _
        refine XS.iload X40.here hx rfl (hb hby at_176) rfl ?_
        show Steps p.tables e below (T40.setTop (mkF m 178 #[.val (.int i0), .val (.int i1), .val (.int i2), .val (.int i3), .val (.int i4), .val (.int i5), .val (.int s0), .val (.int s1), .val (.int s2), .val (.int s3), .val (.int s0), .val (.int (s0 + s1)), .val (.int ((s0 + s1) + s2)), .val (.int (((s0 + s1) + s2) + s3)), .val (.int t0), .val (.ref b16), .val (.int (own_go t0 0 0 (-1) [s0, s1, s2, s3])), .unset] [(.int t0), (.int ((2 : Int32) * ((s0 + s1) + s2)))])) _
        refine XS.icmpNo X40.here hx rfl (hb hby at_178) rfl (tlt (A2.2 : t0 < ((2 : Int32) * ((s0 + s1) + s2)))).2.2.2 ?_
        show Steps p.tables e below (T40.setTop (mkF m 181 #[.val (.int i0), .val (.int i1), .val (.int i2), .val (.int i3), .val (.int i4), .val (.int i5), .val (.int s0), .val (.int s1), .val (.int s2), .val (.int s3), .val (.int s0), .val (.int (s0 + s1)), .val (.int ((s0 + s1) + s2)), .val (.int (((s0 + s1) + s2) + s3)), .val (.int t0), .val (.ref b16), .val (.int (own_go t0 0 0 (-1) [s0, s1, s2, s3])), .unset] [])) _
        refine XS.iconst X40.here hx rfl (hb hby at_181) ?_
        show Steps p.tables e below (T40.setTop (mkF m 182 #[.val (.int i0), .val (.int i1), .val (.int i2), .val (.int i3), .val (.int i4), .val (.int i5), .val (.int s0), .val (.int s1), .val (.int s2), .val (.int s3), .val (.int s0), .val (.int (s0 + s1)), .val (.int ((s0 + s1) + s2)), .val (.int (((s0 + s1) + s2) + s3)), .val (.int t0), .val (.ref b16), .val (.int (own_go t0 0 0 (-1) [s0, s1, s2, s3])), .unset] [(.int (2 : Int32))])) _
        refine XS.istore X40.here hx rfl (hb hby at_182) rfl (l' := #[.val (.int i0), .val (.int i1), .val (.int i2), .val (.int i3), .val (.int i4), .val (.int i5), .val (.int s0), .val (.int s1), .val (.int s2), .val (.int s3), .val (.int s0), .val (.int (s0 + s1)), .val (.int ((s0 + s1) + s2)), .val (.int (((s0 + s1) + s2) + s3)), .val (.int t0), .val (.ref b16), .val (.int (own_go t0 0 0 (-1) [s0, s1, s2, s3])), .val (.int (2 : Int32))]) rfl ?_
        show Steps p.tables e below (T40.setTop (mkF m 184 #[.val (.int i0), .val (.int i1), .val (.int i2), .val (.int i3), .val (.int i4), .val (.int i5), .val (.int s0), .val (.int s1), .val (.int s2), .val (.int s3), .val (.int s0), .val (.int (s0 + s1)), .val (.int ((s0 + s1) + s2)), .val (.int (((s0 + s1) + s2) + s3)), .val (.int t0), .val (.ref b16), .val (.int (own_go t0 0 0 (-1) [s0, s1, s2, s3])), .val (.int (2 : Int32))] [])) _
        refine XS.goto X40.here hx rfl (pc0 := 184) (pc' := 243) rfl (hb hby at_184) (by decide) (by decide) ?_
        exact kt
      have nx2 : ∀ t, Steps p.tables e below (T40.setTop (mkF m 187 #[.val (.int i0), .val (.int i1), .val (.int i2), .val (.int i3), .val (.int i4), .val (.int i5), .val (.int s0), .val (.int s1), .val (.int s2), .val (.int s3), .val (.int s0), .val (.int (s0 + s1)), .val (.int ((s0 + s1) + s2)), .val (.int (((s0 + s1) + s2) + s3)), .val (.int t0), .val (.ref b16), .val (.int (own_go t0 0 0 (-1) [s0, s1, s2, s3])), .unset] [])) t → Steps p.tables e below (T40.setTop (mkF m 167 #[.val (.int i0), .val (.int i1), .val (.int i2), .val (.int i3), .val (.int i4), .val (.int i5), .val (.int s0), .val (.int s1), .val (.int s2), .val (.int s3), .val (.int s0), .val (.int (s0 + s1)), .val (.int ((s0 + s1) + s2)), .val (.int (((s0 + s1) + s2) + s3)), .val (.int t0), .val (.ref b16), .val (.int (own_go t0 0 0 (-1) [s0, s1, s2, s3])), .unset] [])) t := by
        intro t kt
        by_cases B : 0 < s2
        · refine XS.iload X40.here hx rfl (hb hby at_167) rfl ?_
          show Steps p.tables e below (T40.setTop (mkF m 169 #[.val (.int i0), .val (.int i1), .val (.int i2), .val (.int i3), .val (.int i4), .val (.int i5), .val (.int s0), .val (.int s1), .val (.int s2), .val (.int s3), .val (.int s0), .val (.int (s0 + s1)), .val (.int ((s0 + s1) + s2)), .val (.int (((s0 + s1) + s2) + s3)), .val (.int t0), .val (.ref b16), .val (.int (own_go t0 0 0 (-1) [s0, s1, s2, s3])), .unset] [(.int s2)])) _
          refine XS.ifNo X40.here hx rfl (hb hby at_169) rfl ((if0 _ _).trans (tlt (B : (0 : Int32) < s2)).2.2.2) ?_
          show Steps p.tables e below (T40.setTop (mkF m 172 #[.val (.int i0), .val (.int i1), .val (.int i2), .val (.int i3), .val (.int i4), .val (.int i5), .val (.int s0), .val (.int s1), .val (.int s2), .val (.int s3), .val (.int s0), .val (.int (s0 + s1)), .val (.int ((s0 + s1) + s2)), .val (.int (((s0 + s1) + s2) + s3)), .val (.int t0), .val (.ref b16), .val (.int (own_go t0 0 0 (-1) [s0, s1, s2, s3])), .unset] [])) _
          refine XS.iconst X40.here hx rfl (hb hby at_172) ?_
          show Steps p.tables e below (T40.setTop (mkF m 173 #[.val (.int i0), .val (.int i1), .val (.int i2), .val (.int i3), .val (.int i4), .val (.int i5), .val (.int s0), .val (.int s1), .val (.int s2), .val (.int s3), .val (.int s0), .val (.int (s0 + s1)), .val (.int ((s0 + s1) + s2)), .val (.int (((s0 + s1) + s2) + s3)), .val (.int t0), .val (.ref b16), .val (.int (own_go t0 0 0 (-1) [s0, s1, s2, s3])), .unset] [(.int (2 : Int32))])) _
          refine XS.iload X40.here hx rfl (hb hby at_173) rfl ?_
          show Steps p.tables e below (T40.setTop (mkF m 175 #[.val (.int i0), .val (.int i1), .val (.int i2), .val (.int i3), .val (.int i4), .val (.int i5), .val (.int s0), .val (.int s1), .val (.int s2), .val (.int s3), .val (.int s0), .val (.int (s0 + s1)), .val (.int ((s0 + s1) + s2)), .val (.int (((s0 + s1) + s2) + s3)), .val (.int t0), .val (.ref b16), .val (.int (own_go t0 0 0 (-1) [s0, s1, s2, s3])), .unset] [(.int ((s0 + s1) + s2)), (.int (2 : Int32))])) _
          refine XS.imul X40.here hx rfl (hb hby at_175) rfl ?_
          show Steps p.tables e below (T40.setTop (mkF m 176 #[.val (.int i0), .val (.int i1), .val (.int i2), .val (.int i3), .val (.int i4), .val (.int i5), .val (.int s0), .val (.int s1), .val (.int s2), .val (.int s3), .val (.int s0), .val (.int (s0 + s1)), .val (.int ((s0 + s1) + s2)), .val (.int (((s0 + s1) + s2) + s3)), .val (.int t0), .val (.ref b16), .val (.int (own_go t0 0 0 (-1) [s0, s1, s2, s3])), .unset] [(.int ((2 : Int32) * ((s0 + s1) + s2)))])) _
          refine XS.iload X40.here hx rfl (hb hby at_176) rfl ?_
          show Steps p.tables e below (T40.setTop (mkF m 178 #[.val (.int i0), .val (.int i1), .val (.int i2), .val (.int i3), .val (.int i4), .val (.int i5), .val (.int s0), .val (.int s1), .val (.int s2), .val (.int s3), .val (.int s0), .val (.int (s0 + s1)), .val (.int ((s0 + s1) + s2)), .val (.int (((s0 + s1) + s2) + s3)), .val (.int t0), .val (.ref b16), .val (.int (own_go t0 0 0 (-1) [s0, s1, s2, s3])), .unset] [(.int t0), (.int ((2 : Int32) * ((s0 + s1) + s2)))])) _
          refine XS.icmpYes X40.here hx rfl (pc0 := 178) (pc' := 187) rfl (hb hby at_178) rfl (flt (fun q => A2 ⟨B, q⟩ : ¬ (t0 < ((2 : Int32) * ((s0 + s1) + s2))))).2.2.2 (by decide) (by decide) ?_
          exact kt
        · refine XS.iload X40.here hx rfl (hb hby at_167) rfl ?_
          show Steps p.tables e below (T40.setTop (mkF m 169 #[.val (.int i0), .val (.int i1), .val (.int i2), .val (.int i3), .val (.int i4), .val (.int i5), .val (.int s0), .val (.int s1), .val (.int s2), .val (.int s3), .val (.int s0), .val (.int (s0 + s1)), .val (.int ((s0 + s1) + s2)), .val (.int (((s0 + s1) + s2) + s3)), .val (.int t0), .val (.ref b16), .val (.int (own_go t0 0 0 (-1) [s0, s1, s2, s3])), .unset] [(.int s2)])) _
          refine XS.ifYes X40.here hx rfl (pc0 := 169) (pc' := 187) rfl (hb hby at_169) rfl ((if0 _ _).trans (flt (B : ¬ ((0 : Int32) < s2))).2.2.2) (by decide) (by decide) ?_
          exact kt
      by_cases A3 : 0 < s3 ∧ t0 < 2 * (((s0 + s1) + s2) + s3)
      · refine ⟨(3 : Int32), by unfold own_exp; rw [if_neg A0, if_neg A1, if_neg A2, if_pos A3], fun t kt => ?_⟩
        refine nx0 _ ?_
        show Steps p.tables e below (T40.setTop (mkF m 147 #[.val (.int i0), .val (.int i1), .val (.int i2), .val (.int i3), .val (.int i4), .val (.int i5), .val (.int s0), .val (.int s1), .val (.int s2), .val (.int s3), .val (.int s0), .val (.int (s0 + s1)), .val (.int ((s0 + s1) + s2)), .val (.int (((s0 + s1) + s2) + s3)), .val (.int t0), .val (.ref b16), .val (.int (own_go t0 0 0 (-1) [s0, s1, s2, s3])), .unset] [])) _
        refine nx1 _ ?_
        show Steps p.tables e below (T40.setTop (mkF m 167 #[.val (.int i0), .val (.int i1), .val (.int i2), .val (.int i3), .val (.int i4), .val (.int i5), .val (.int s0), .val (.int s1), .val (.int s2), .val (.int s3), .val (.int s0), .val (.int (s0 + s1)), .val (.int ((s0 + s1) + s2)), .val (.int (((s0 + s1) + s2) + s3)), .val (.int t0), .val (.ref b16), .val (.int (own_go t0 0 0 (-1) [s0, s1, s2, s3])), .unset] [])) _
        refine nx2 _ ?_
        show Steps p.tables e below (T40.setTop (mkF m 187 #[.val (.int i0), .val (.int i1), .val (.int i2), .val (.int i3), .val (.int i4), .val (.int i5), .val (.int s0), .val (.int s1), .val (.int s2), .val (.int s3), .val (.int s0), .val (.int (s0 + s1)), .val (.int ((s0 + s1) + s2)), .val (.int (((s0 + s1) + s2) + s3)), .val (.int t0), .val (.ref b16), .val (.int (own_go t0 0 0 (-1) [s0, s1, s2, s3])), .unset] [])) _
        refine XS.iload X40.here hx rfl (hb hby at_187) rfl ?_
        show Steps p.tables e below (T40.setTop (mkF m 189 #[.val (.int i0), .val (.int i1), .val (.int i2), .val (.int i3), .val (.int i4), .val (.int i5), .val (.int s0), .val (.int s1), .val (.int s2), .val (.int s3), .val (.int s0), .val (.int (s0 + s1)), .val (.int ((s0 + s1) + s2)), .val (.int (((s0 + s1) + s2) + s3)), .val (.int t0), .val (.ref b16), .val (.int (own_go t0 0 0 (-1) [s0, s1, s2, s3])), .unset] [(.int s3)])) _
        refine XS.ifNo X40.here hx rfl (hb hby at_189) rfl ((if0 _ _).trans (tlt (A3.1 : (0 : Int32) < s3)).2.2.2) ?_
        show Steps p.tables e below (T40.setTop (mkF m 192 #[.val (.int i0), .val (.int i1), .val (.int i2), .val (.int i3), .val (.int i4), .val (.int i5), .val (.int s0), .val (.int s1), .val (.int s2), .val (.int s3), .val (.int s0), .val (.int (s0 + s1)), .val (.int ((s0 + s1) + s2)), .val (.int (((s0 + s1) + s2) + s3)), .val (.int t0), .val (.ref b16), .val (.int (own_go t0 0 0 (-1) [s0, s1, s2, s3])), .unset] [])) _
        refine XS.iconst X40.here hx rfl (hb hby at_192) ?_
        show Steps p.tables e below (T40.setTop (mkF m 193 #[.val (.int i0), .val (.int i1), .val (.int i2), .val (.int i3), .val (.int i4), .val (.int i5), .val (.int s0), .val (.int s1), .val (.int s2), .val (.int s3), .val (.int s0), .val (.int (s0 + s1)), .val (.int ((s0 + s1) + s2)), .val (.int (((s0 + s1) + s2) + s3)), .val (.int t0), .val (.ref b16), .val (.int (own_go t0 0 0 (-1) [s0, s1, s2, s3])), .unset] [(.int (2 : Int32))])) _
        refine XS.iload X40.here hx rfl (hb hby at_193) rfl ?_
        show Steps p.tables e below (T40.setTop (mkF m 195 #[.val (.int i0), .val (.int i1), .val (.int i2), .val (.int i3), .val (.int i4), .val (.int i5), .val (.int s0), .val (.int s1), .val (.int s2), .val (.int s3), .val (.int s0), .val (.int (s0 + s1)), .val (.int ((s0 + s1) + s2)), .val (.int (((s0 + s1) + s2) + s3)), .val (.int t0), .val (.ref b16), .val (.int (own_go t0 0 0 (-1) [s0, s1, s2, s3])), .unset] [(.int (((s0 + s1) + s2) + s3)), (.int (2 : Int32))])) _
        refine XS.imul X40.here hx rfl (hb hby at_195) rfl ?_
        show Steps p.tables e below (T40.setTop (mkF m 196 #[.val (.int i0), .val (.int i1), .val (.int i2), .val (.int i3), .val (.int i4), .val (.int i5), .val (.int s0), .val (.int s1), .val (.int s2), .val (.int s3), .val (.int s0), .val (.int (s0 + s1)), .val (.int ((s0 + s1) + s2)), .val (.int (((s0 + s1) + s2) + s3)), .val (.int t0), .val (.ref b16), .val (.int (own_go t0 0 0 (-1) [s0, s1, s2, s3])), .unset] [(.int ((2 : Int32) * (((s0 + s1) + s2) + s3)))])) _
        refine XS.iload X40.here hx rfl (hb hby at_196) rfl ?_
        show Steps p.tables e below (T40.setTop (mkF m 198 #[.val (.int i0), .val (.int i1), .val (.int i2), .val (.int i3), .val (.int i4), .val (.int i5), .val (.int s0), .val (.int s1), .val (.int s2), .val (.int s3), .val (.int s0), .val (.int (s0 + s1)), .val (.int ((s0 + s1) + s2)), .val (.int (((s0 + s1) + s2) + s3)), .val (.int t0), .val (.ref b16), .val (.int (own_go t0 0 0 (-1) [s0, s1, s2, s3])), .unset] [(.int t0), (.int ((2 : Int32) * (((s0 + s1) + s2) + s3)))])) _
        refine XS.icmpNo X40.here hx rfl (hb hby at_198) rfl (tlt (A3.2 : t0 < ((2 : Int32) * (((s0 + s1) + s2) + s3)))).2.2.2 ?_
        show Steps p.tables e below (T40.setTop (mkF m 201 #[.val (.int i0), .val (.int i1), .val (.int i2), .val (.int i3), .val (.int i4), .val (.int i5), .val (.int s0), .val (.int s1), .val (.int s2), .val (.int s3), .val (.int s0), .val (.int (s0 + s1)), .val (.int ((s0 + s1) + s2)), .val (.int (((s0 + s1) + s2) + s3)), .val (.int t0), .val (.ref b16), .val (.int (own_go t0 0 0 (-1) [s0, s1, s2, s3])), .unset] [])) _
        refine XS.iconst X40.here hx rfl (hb hby at_201) ?_
        show Steps p.tables e below (T40.setTop (mkF m 202 #[.val (.int i0), .val (.int i1), .val (.int i2), .val (.int i3), .val (.int i4), .val (.int i5), .val (.int s0), .val (.int s1), .val (.int s2), .val (.int s3), .val (.int s0), .val (.int (s0 + s1)), .val (.int ((s0 + s1) + s2)), .val (.int (((s0 + s1) + s2) + s3)), .val (.int t0), .val (.ref b16), .val (.int (own_go t0 0 0 (-1) [s0, s1, s2, s3])), .unset] [(.int (3 : Int32))])) _
        refine XS.istore X40.here hx rfl (hb hby at_202) rfl (l' := #[.val (.int i0), .val (.int i1), .val (.int i2), .val (.int i3), .val (.int i4), .val (.int i5), .val (.int s0), .val (.int s1), .val (.int s2), .val (.int s3), .val (.int s0), .val (.int (s0 + s1)), .val (.int ((s0 + s1) + s2)), .val (.int (((s0 + s1) + s2) + s3)), .val (.int t0), .val (.ref b16), .val (.int (own_go t0 0 0 (-1) [s0, s1, s2, s3])), .val (.int (3 : Int32))]) rfl ?_
        show Steps p.tables e below (T40.setTop (mkF m 204 #[.val (.int i0), .val (.int i1), .val (.int i2), .val (.int i3), .val (.int i4), .val (.int i5), .val (.int s0), .val (.int s1), .val (.int s2), .val (.int s3), .val (.int s0), .val (.int (s0 + s1)), .val (.int ((s0 + s1) + s2)), .val (.int (((s0 + s1) + s2) + s3)), .val (.int t0), .val (.ref b16), .val (.int (own_go t0 0 0 (-1) [s0, s1, s2, s3])), .val (.int (3 : Int32))] [])) _
        refine XS.goto X40.here hx rfl (pc0 := 204) (pc' := 243) rfl (hb hby at_204) (by decide) (by decide) ?_
        exact kt
      have nx3 : ∀ t, Steps p.tables e below (T40.setTop (mkF m 207 #[.val (.int i0), .val (.int i1), .val (.int i2), .val (.int i3), .val (.int i4), .val (.int i5), .val (.int s0), .val (.int s1), .val (.int s2), .val (.int s3), .val (.int s0), .val (.int (s0 + s1)), .val (.int ((s0 + s1) + s2)), .val (.int (((s0 + s1) + s2) + s3)), .val (.int t0), .val (.ref b16), .val (.int (own_go t0 0 0 (-1) [s0, s1, s2, s3])), .unset] [])) t → Steps p.tables e below (T40.setTop (mkF m 187 #[.val (.int i0), .val (.int i1), .val (.int i2), .val (.int i3), .val (.int i4), .val (.int i5), .val (.int s0), .val (.int s1), .val (.int s2), .val (.int s3), .val (.int s0), .val (.int (s0 + s1)), .val (.int ((s0 + s1) + s2)), .val (.int (((s0 + s1) + s2) + s3)), .val (.int t0), .val (.ref b16), .val (.int (own_go t0 0 0 (-1) [s0, s1, s2, s3])), .unset] [])) t := by
        intro t kt
        by_cases B : 0 < s3
        · refine XS.iload X40.here hx rfl (hb hby at_187) rfl ?_
          show Steps p.tables e below (T40.setTop (mkF m 189 #[.val (.int i0), .val (.int i1), .val (.int i2), .val (.int i3), .val (.int i4), .val (.int i5), .val (.int s0), .val (.int s1), .val (.int s2), .val (.int s3), .val (.int s0), .val (.int (s0 + s1)), .val (.int ((s0 + s1) + s2)), .val (.int (((s0 + s1) + s2) + s3)), .val (.int t0), .val (.ref b16), .val (.int (own_go t0 0 0 (-1) [s0, s1, s2, s3])), .unset] [(.int s3)])) _
          refine XS.ifNo X40.here hx rfl (hb hby at_189) rfl ((if0 _ _).trans (tlt (B : (0 : Int32) < s3)).2.2.2) ?_
          show Steps p.tables e below (T40.setTop (mkF m 192 #[.val (.int i0), .val (.int i1), .val (.int i2), .val (.int i3), .val (.int i4), .val (.int i5), .val (.int s0), .val (.int s1), .val (.int s2), .val (.int s3), .val (.int s0), .val (.int (s0 + s1)), .val (.int ((s0 + s1) + s2)), .val (.int (((s0 + s1) + s2) + s3)), .val (.int t0), .val (.ref b16), .val (.int (own_go t0 0 0 (-1) [s0, s1, s2, s3])), .unset] [])) _
          refine XS.iconst X40.here hx rfl (hb hby at_192) ?_
          show Steps p.tables e below (T40.setTop (mkF m 193 #[.val (.int i0), .val (.int i1), .val (.int i2), .val (.int i3), .val (.int i4), .val (.int i5), .val (.int s0), .val (.int s1), .val (.int s2), .val (.int s3), .val (.int s0), .val (.int (s0 + s1)), .val (.int ((s0 + s1) + s2)), .val (.int (((s0 + s1) + s2) + s3)), .val (.int t0), .val (.ref b16), .val (.int (own_go t0 0 0 (-1) [s0, s1, s2, s3])), .unset] [(.int (2 : Int32))])) _
          refine XS.iload X40.here hx rfl (hb hby at_193) rfl ?_
          show Steps p.tables e below (T40.setTop (mkF m 195 #[.val (.int i0), .val (.int i1), .val (.int i2), .val (.int i3), .val (.int i4), .val (.int i5), .val (.int s0), .val (.int s1), .val (.int s2), .val (.int s3), .val (.int s0), .val (.int (s0 + s1)), .val (.int ((s0 + s1) + s2)), .val (.int (((s0 + s1) + s2) + s3)), .val (.int t0), .val (.ref b16), .val (.int (own_go t0 0 0 (-1) [s0, s1, s2, s3])), .unset] [(.int (((s0 + s1) + s2) + s3)), (.int (2 : Int32))])) _
          refine XS.imul X40.here hx rfl (hb hby at_195) rfl ?_
          show Steps p.tables e below (T40.setTop (mkF m 196 #[.val (.int i0), .val (.int i1), .val (.int i2), .val (.int i3), .val (.int i4), .val (.int i5), .val (.int s0), .val (.int s1), .val (.int s2), .val (.int s3), .val (.int s0), .val (.int (s0 + s1)), .val (.int ((s0 + s1) + s2)), .val (.int (((s0 + s1) + s2) + s3)), .val (.int t0), .val (.ref b16), .val (.int (own_go t0 0 0 (-1) [s0, s1, s2, s3])), .unset] [(.int ((2 : Int32) * (((s0 + s1) + s2) + s3)))])) _
          refine XS.iload X40.here hx rfl (hb hby at_196) rfl ?_
          show Steps p.tables e below (T40.setTop (mkF m 198 #[.val (.int i0), .val (.int i1), .val (.int i2), .val (.int i3), .val (.int i4), .val (.int i5), .val (.int s0), .val (.int s1), .val (.int s2), .val (.int s3), .val (.int s0), .val (.int (s0 + s1)), .val (.int ((s0 + s1) + s2)), .val (.int (((s0 + s1) + s2) + s3)), .val (.int t0), .val (.ref b16), .val (.int (own_go t0 0 0 (-1) [s0, s1, s2, s3])), .unset] [(.int t0), (.int ((2 : Int32) * (((s0 + s1) + s2) + s3)))])) _
          refine XS.icmpYes X40.here hx rfl (pc0 := 198) (pc' := 207) rfl (hb hby at_198) rfl (flt (fun q => A3 ⟨B, q⟩ : ¬ (t0 < ((2 : Int32) * (((s0 + s1) + s2) + s3))))).2.2.2 (by decide) (by decide) ?_
          exact kt
        · refine XS.iload X40.here hx rfl (hb hby at_187) rfl ?_
          show Steps p.tables e below (T40.setTop (mkF m 189 #[.val (.int i0), .val (.int i1), .val (.int i2), .val (.int i3), .val (.int i4), .val (.int i5), .val (.int s0), .val (.int s1), .val (.int s2), .val (.int s3), .val (.int s0), .val (.int (s0 + s1)), .val (.int ((s0 + s1) + s2)), .val (.int (((s0 + s1) + s2) + s3)), .val (.int t0), .val (.ref b16), .val (.int (own_go t0 0 0 (-1) [s0, s1, s2, s3])), .unset] [(.int s3)])) _
          refine XS.ifYes X40.here hx rfl (pc0 := 189) (pc' := 207) rfl (hb hby at_189) rfl ((if0 _ _).trans (flt (B : ¬ ((0 : Int32) < s3))).2.2.2) (by decide) (by decide) ?_
          exact kt
      by_cases C0 : 0 < s3
      · refine ⟨(3 : Int32), by unfold own_exp; rw [if_neg A0, if_neg A1, if_neg A2, if_neg A3, if_pos C0], fun t kt => ?_⟩
        refine nx0 _ ?_
        show Steps p.tables e below (T40.setTop (mkF m 147 #[.val (.int i0), .val (.int i1), .val (.int i2), .val (.int i3), .val (.int i4), .val (.int i5), .val (.int s0), .val (.int s1), .val (.int s2), .val (.int s3), .val (.int s0), .val (.int (s0 + s1)), .val (.int ((s0 + s1) + s2)), .val (.int (((s0 + s1) + s2) + s3)), .val (.int t0), .val (.ref b16), .val (.int (own_go t0 0 0 (-1) [s0, s1, s2, s3])), .unset] [])) _
        refine nx1 _ ?_
        show Steps p.tables e below (T40.setTop (mkF m 167 #[.val (.int i0), .val (.int i1), .val (.int i2), .val (.int i3), .val (.int i4), .val (.int i5), .val (.int s0), .val (.int s1), .val (.int s2), .val (.int s3), .val (.int s0), .val (.int (s0 + s1)), .val (.int ((s0 + s1) + s2)), .val (.int (((s0 + s1) + s2) + s3)), .val (.int t0), .val (.ref b16), .val (.int (own_go t0 0 0 (-1) [s0, s1, s2, s3])), .unset] [])) _
        refine nx2 _ ?_
        show Steps p.tables e below (T40.setTop (mkF m 187 #[.val (.int i0), .val (.int i1), .val (.int i2), .val (.int i3), .val (.int i4), .val (.int i5), .val (.int s0), .val (.int s1), .val (.int s2), .val (.int s3), .val (.int s0), .val (.int (s0 + s1)), .val (.int ((s0 + s1) + s2)), .val (.int (((s0 + s1) + s2) + s3)), .val (.int t0), .val (.ref b16), .val (.int (own_go t0 0 0 (-1) [s0, s1, s2, s3])), .unset] [])) _
        refine nx3 _ ?_
        show Steps p.tables e below (T40.setTop (mkF m 207 #[.val (.int i0), .val (.int i1), .val (.int i2), .val (.int i3), .val (.int i4), .val (.int i5), .val (.int s0), .val (.int s1), .val (.int s2), .val (.int s3), .val (.int s0), .val (.int (s0 + s1)), .val (.int ((s0 + s1) + s2)), .val (.int (((s0 + s1) + s2) + s3)), .val (.int t0), .val (.ref b16), .val (.int (own_go t0 0 0 (-1) [s0, s1, s2, s3])), .unset] [])) _
        refine XS.iload X40.here hx rfl (hb hby at_207) rfl ?_
        show Steps p.tables e below (T40.setTop (mkF m 209 #[.val (.int i0), .val (.int i1), .val (.int i2), .val (.int i3), .val (.int i4), .val (.int i5), .val (.int s0), .val (.int s1), .val (.int s2), .val (.int s3), .val (.int s0), .val (.int (s0 + s1)), .val (.int ((s0 + s1) + s2)), .val (.int (((s0 + s1) + s2) + s3)), .val (.int t0), .val (.ref b16), .val (.int (own_go t0 0 0 (-1) [s0, s1, s2, s3])), .unset] [(.int s3)])) _
        refine XS.ifNo X40.here hx rfl (hb hby at_209) rfl ((if0 _ _).trans (tlt (C0 : (0 : Int32) < s3)).2.2.2) ?_
        show Steps p.tables e below (T40.setTop (mkF m 212 #[.val (.int i0), .val (.int i1), .val (.int i2), .val (.int i3), .val (.int i4), .val (.int i5), .val (.int s0), .val (.int s1), .val (.int s2), .val (.int s3), .val (.int s0), .val (.int (s0 + s1)), .val (.int ((s0 + s1) + s2)), .val (.int (((s0 + s1) + s2) + s3)), .val (.int t0), .val (.ref b16), .val (.int (own_go t0 0 0 (-1) [s0, s1, s2, s3])), .unset] [])) _
        refine XS.iconst X40.here hx rfl (hb hby at_212) ?_
        show Steps p.tables e below (T40.setTop (mkF m 213 #[.val (.int i0), .val (.int i1), .val (.int i2), .val (.int i3), .val (.int i4), .val (.int i5), .val (.int s0), .val (.int s1), .val (.int s2), .val (.int s3), .val (.int s0), .val (.int (s0 + s1)), .val (.int ((s0 + s1) + s2)), .val (.int (((s0 + s1) + s2) + s3)), .val (.int t0), .val (.ref b16), .val (.int (own_go t0 0 0 (-1) [s0, s1, s2, s3])), .unset] [(.int (3 : Int32))])) _
        refine XS.istore X40.here hx rfl (hb hby at_213) rfl (l' := #[.val (.int i0), .val (.int i1), .val (.int i2), .val (.int i3), .val (.int i4), .val (.int i5), .val (.int s0), .val (.int s1), .val (.int s2), .val (.int s3), .val (.int s0), .val (.int (s0 + s1)), .val (.int ((s0 + s1) + s2)), .val (.int (((s0 + s1) + s2) + s3)), .val (.int t0), .val (.ref b16), .val (.int (own_go t0 0 0 (-1) [s0, s1, s2, s3])), .val (.int (3 : Int32))]) rfl ?_
        show Steps p.tables e below (T40.setTop (mkF m 215 #[.val (.int i0), .val (.int i1), .val (.int i2), .val (.int i3), .val (.int i4), .val (.int i5), .val (.int s0), .val (.int s1), .val (.int s2), .val (.int s3), .val (.int s0), .val (.int (s0 + s1)), .val (.int ((s0 + s1) + s2)), .val (.int (((s0 + s1) + s2) + s3)), .val (.int t0), .val (.ref b16), .val (.int (own_go t0 0 0 (-1) [s0, s1, s2, s3])), .val (.int (3 : Int32))] [])) _
        refine XS.goto X40.here hx rfl (pc0 := 215) (pc' := 243) rfl (hb hby at_215) (by decide) (by decide) ?_
        exact kt
      have ny0 : ∀ t, Steps p.tables e below (T40.setTop (mkF m 218 #[.val (.int i0), .val (.int i1), .val (.int i2), .val (.int i3), .val (.int i4), .val (.int i5), .val (.int s0), .val (.int s1), .val (.int s2), .val (.int s3), .val (.int s0), .val (.int (s0 + s1)), .val (.int ((s0 + s1) + s2)), .val (.int (((s0 + s1) + s2) + s3)), .val (.int t0), .val (.ref b16), .val (.int (own_go t0 0 0 (-1) [s0, s1, s2, s3])), .unset] [])) t → Steps p.tables e below (T40.setTop (mkF m 207 #[.val (.int i0), .val (.int i1), .val (.int i2), .val (.int i3), .val (.int i4), .val (.int i5), .val (.int s0), .val (.int s1), .val (.int s2), .val (.int s3), .val (.int s0), .val (.int (s0 + s1)), .val (.int ((s0 + s1) + s2)), .val (.int (((s0 + s1) + s2) + s3)), .val (.int t0), .val (.ref b16), .val (.int (own_go t0 0 0 (-1) [s0, s1, s2, s3])), .unset] [])) t := by
        intro t kt
        refine XS.iload X40.here hx rfl (hb hby at_207) rfl ?_
        show Steps p.tables e below (T40.setTop (mkF m 209 #[.val (.int i0), .val (.int i1), .val (.int i2), .val (.int i3), .val (.int i4), .val (.int i5), .val (.int s0), .val (.int s1), .val (.int s2), .val (.int s3), .val (.int s0), .val (.int (s0 + s1)), .val (.int ((s0 + s1) + s2)), .val (.int (((s0 + s1) + s2) + s3)), .val (.int t0), .val (.ref b16), .val (.int (own_go t0 0 0 (-1) [s0, s1, s2, s3])), .unset] [(.int s3)])) _
        refine XS.ifYes X40.here hx rfl (pc0 := 209) (pc' := 218) rfl (hb hby at_209) rfl ((if0 _ _).trans (flt (C0 : ¬ ((0 : Int32) < s3))).2.2.2) (by decide) (by decide) ?_
        exact kt
      by_cases C1 : 0 < s2
      · refine ⟨(2 : Int32), by unfold own_exp; rw [if_neg A0, if_neg A1, if_neg A2, if_neg A3, if_neg C0, if_pos C1], fun t kt => ?_⟩
        refine nx0 _ ?_
        show Steps p.tables e below (T40.setTop (mkF m 147 #[.val (.int i0), .val (.int i1), .val (.int i2), .val (.int i3), .val (.int i4), .val (.int i5), .val (.int s0), .val (.int s1), .val (.int s2), .val (.int s3), .val (.int s0), .val (.int (s0 + s1)), .val (.int ((s0 + s1) + s2)), .val (.int (((s0 + s1) + s2) + s3)), .val (.int t0), .val (.ref b16), .val (.int (own_go t0 0 0 (-1) [s0, s1, s2, s3])), .unset] [])) _
        refine nx1 _ ?_
        show Steps p.tables e below (T40.setTop (mkF m 167 #[.val (.int i0), .val (.int i1), .val (.int i2), .val (.int i3), .val (.int i4), .val (.int i5), .val (.int s0), .val (.int s1), .val (.int s2), .val (.int s3), .val (.int s0), .val (.int (s0 + s1)), .val (.int ((s0 + s1) + s2)), .val (.int (((s0 + s1) + s2) + s3)), .val (.int t0), .val (.ref b16), .val (.int (own_go t0 0 0 (-1) [s0, s1, s2, s3])), .unset] [])) _
        refine nx2 _ ?_
        show Steps p.tables e below (T40.setTop (mkF m 187 #[.val (.int i0), .val (.int i1), .val (.int i2), .val (.int i3), .val (.int i4), .val (.int i5), .val (.int s0), .val (.int s1), .val (.int s2), .val (.int s3), .val (.int s0), .val (.int (s0 + s1)), .val (.int ((s0 + s1) + s2)), .val (.int (((s0 + s1) + s2) + s3)), .val (.int t0), .val (.ref b16), .val (.int (own_go t0 0 0 (-1) [s0, s1, s2, s3])), .unset] [])) _
        refine nx3 _ ?_
        show Steps p.tables e below (T40.setTop (mkF m 207 #[.val (.int i0), .val (.int i1), .val (.int i2), .val (.int i3), .val (.int i4), .val (.int i5), .val (.int s0), .val (.int s1), .val (.int s2), .val (.int s3), .val (.int s0), .val (.int (s0 + s1)), .val (.int ((s0 + s1) + s2)), .val (.int (((s0 + s1) + s2) + s3)), .val (.int t0), .val (.ref b16), .val (.int (own_go t0 0 0 (-1) [s0, s1, s2, s3])), .unset] [])) _
        refine ny0 _ ?_
        show Steps p.tables e below (T40.setTop (mkF m 218 #[.val (.int i0), .val (.int i1), .val (.int i2), .val (.int i3), .val (.int i4), .val (.int i5), .val (.int s0), .val (.int s1), .val (.int s2), .val (.int s3), .val (.int s0), .val (.int (s0 + s1)), .val (.int ((s0 + s1) + s2)), .val (.int (((s0 + s1) + s2) + s3)), .val (.int t0), .val (.ref b16), .val (.int (own_go t0 0 0 (-1) [s0, s1, s2, s3])), .unset] [])) _
        refine XS.iload X40.here hx rfl (hb hby at_218) rfl ?_
        show Steps p.tables e below (T40.setTop (mkF m 220 #[.val (.int i0), .val (.int i1), .val (.int i2), .val (.int i3), .val (.int i4), .val (.int i5), .val (.int s0), .val (.int s1), .val (.int s2), .val (.int s3), .val (.int s0), .val (.int (s0 + s1)), .val (.int ((s0 + s1) + s2)), .val (.int (((s0 + s1) + s2) + s3)), .val (.int t0), .val (.ref b16), .val (.int (own_go t0 0 0 (-1) [s0, s1, s2, s3])), .unset] [(.int s2)])) _
        refine XS.ifNo X40.here hx rfl (hb hby at_220) rfl ((if0 _ _).trans (tlt (C1 : (0 : Int32) < s2)).2.2.2) ?_
        show Steps p.tables e below (T40.setTop (mkF m 223 #[.val (.int i0), .val (.int i1), .val (.int i2), .val (.int i3), .val (.int i4), .val (.int i5), .val (.int s0), .val (.int s1), .val (.int s2), .val (.int s3), .val (.int s0), .val (.int (s0 + s1)), .val (.int ((s0 + s1) + s2)), .val (.int (((s0 + s1) + s2) + s3)), .val (.int t0), .val (.ref b16), .val (.int (own_go t0 0 0 (-1) [s0, s1, s2, s3])), .unset] [])) _
        refine XS.iconst X40.here hx rfl (hb hby at_223) ?_
        show Steps p.tables e below (T40.setTop (mkF m 224 #[.val (.int i0), .val (.int i1), .val (.int i2), .val (.int i3), .val (.int i4), .val (.int i5), .val (.int s0), .val (.int s1), .val (.int s2), .val (.int s3), .val (.int s0), .val (.int (s0 + s1)), .val (.int ((s0 + s1) + s2)), .val (.int (((s0 + s1) + s2) + s3)), .val (.int t0), .val (.ref b16), .val (.int (own_go t0 0 0 (-1) [s0, s1, s2, s3])), .unset] [(.int (2 : Int32))])) _
        refine XS.istore X40.here hx rfl (hb hby at_224) rfl (l' := #[.val (.int i0), .val (.int i1), .val (.int i2), .val (.int i3), .val (.int i4), .val (.int i5), .val (.int s0), .val (.int s1), .val (.int s2), .val (.int s3), .val (.int s0), .val (.int (s0 + s1)), .val (.int ((s0 + s1) + s2)), .val (.int (((s0 + s1) + s2) + s3)), .val (.int t0), .val (.ref b16), .val (.int (own_go t0 0 0 (-1) [s0, s1, s2, s3])), .val (.int (2 : Int32))]) rfl ?_
        show Steps p.tables e below (T40.setTop (mkF m 226 #[.val (.int i0), .val (.int i1), .val (.int i2), .val (.int i3), .val (.int i4), .val (.int i5), .val (.int s0), .val (.int s1), .val (.int s2), .val (.int s3), .val (.int s0), .val (.int (s0 + s1)), .val (.int ((s0 + s1) + s2)), .val (.int (((s0 + s1) + s2) + s3)), .val (.int t0), .val (.ref b16), .val (.int (own_go t0 0 0 (-1) [s0, s1, s2, s3])), .val (.int (2 : Int32))] [])) _
        refine XS.goto X40.here hx rfl (pc0 := 226) (pc' := 243) rfl (hb hby at_226) (by decide) (by decide) ?_
        exact kt
      have ny1 : ∀ t, Steps p.tables e below (T40.setTop (mkF m 229 #[.val (.int i0), .val (.int i1), .val (.int i2), .val (.int i3), .val (.int i4), .val (.int i5), .val (.int s0), .val (.int s1), .val (.int s2), .val (.int s3), .val (.int s0), .val (.int (s0 + s1)), .val (.int ((s0 + s1) + s2)), .val (.int (((s0 + s1) + s2) + s3)), .val (.int t0), .val (.ref b16), .val (.int (own_go t0 0 0 (-1) [s0, s1, s2, s3])), .unset] [])) t → Steps p.tables e below (T40.setTop (mkF m 218 #[.val (.int i0), .val (.int i1), .val (.int i2), .val (.int i3), .val (.int i4), .val (.int i5), .val (.int s0), .val (.int s1), .val (.int s2), .val (.int s3), .val (.int s0), .val (.int (s0 + s1)), .val (.int ((s0 + s1) + s2)), .val (.int (((s0 + s1) + s2) + s3)), .val (.int t0), .val (.ref b16), .val (.int (own_go t0 0 0 (-1) [s0, s1, s2, s3])), .unset] [])) t := by
        intro t kt
        refine XS.iload X40.here hx rfl (hb hby at_218) rfl ?_
        show Steps p.tables e below (T40.setTop (mkF m 220 #[.val (.int i0), .val (.int i1), .val (.int i2), .val (.int i3), .val (.int i4), .val (.int i5), .val (.int s0), .val (.int s1), .val (.int s2), .val (.int s3), .val (.int s0), .val (.int (s0 + s1)), .val (.int ((s0 + s1) + s2)), .val (.int (((s0 + s1) + s2) + s3)), .val (.int t0), .val (.ref b16), .val (.int (own_go t0 0 0 (-1) [s0, s1, s2, s3])), .unset] [(.int s2)])) _
        refine XS.ifYes X40.here hx rfl (pc0 := 220) (pc' := 229) rfl (hb hby at_220) rfl ((if0 _ _).trans (flt (C1 : ¬ ((0 : Int32) < s2))).2.2.2) (by decide) (by decide) ?_
        exact kt
      by_cases C2 : 0 < s1
      · refine ⟨(1 : Int32), by unfold own_exp; rw [if_neg A0, if_neg A1, if_neg A2, if_neg A3, if_neg C0, if_neg C1, if_pos C2], fun t kt => ?_⟩
        refine nx0 _ ?_
        show Steps p.tables e below (T40.setTop (mkF m 147 #[.val (.int i0), .val (.int i1), .val (.int i2), .val (.int i3), .val (.int i4), .val (.int i5), .val (.int s0), .val (.int s1), .val (.int s2), .val (.int s3), .val (.int s0), .val (.int (s0 + s1)), .val (.int ((s0 + s1) + s2)), .val (.int (((s0 + s1) + s2) + s3)), .val (.int t0), .val (.ref b16), .val (.int (own_go t0 0 0 (-1) [s0, s1, s2, s3])), .unset] [])) _
        refine nx1 _ ?_
        show Steps p.tables e below (T40.setTop (mkF m 167 #[.val (.int i0), .val (.int i1), .val (.int i2), .val (.int i3), .val (.int i4), .val (.int i5), .val (.int s0), .val (.int s1), .val (.int s2), .val (.int s3), .val (.int s0), .val (.int (s0 + s1)), .val (.int ((s0 + s1) + s2)), .val (.int (((s0 + s1) + s2) + s3)), .val (.int t0), .val (.ref b16), .val (.int (own_go t0 0 0 (-1) [s0, s1, s2, s3])), .unset] [])) _
        refine nx2 _ ?_
        show Steps p.tables e below (T40.setTop (mkF m 187 #[.val (.int i0), .val (.int i1), .val (.int i2), .val (.int i3), .val (.int i4), .val (.int i5), .val (.int s0), .val (.int s1), .val (.int s2), .val (.int s3), .val (.int s0), .val (.int (s0 + s1)), .val (.int ((s0 + s1) + s2)), .val (.int (((s0 + s1) + s2) + s3)), .val (.int t0), .val (.ref b16), .val (.int (own_go t0 0 0 (-1) [s0, s1, s2, s3])), .unset] [])) _
        refine nx3 _ ?_
        show Steps p.tables e below (T40.setTop (mkF m 207 #[.val (.int i0), .val (.int i1), .val (.int i2), .val (.int i3), .val (.int i4), .val (.int i5), .val (.int s0), .val (.int s1), .val (.int s2), .val (.int s3), .val (.int s0), .val (.int (s0 + s1)), .val (.int ((s0 + s1) + s2)), .val (.int (((s0 + s1) + s2) + s3)), .val (.int t0), .val (.ref b16), .val (.int (own_go t0 0 0 (-1) [s0, s1, s2, s3])), .unset] [])) _
        refine ny0 _ ?_
        show Steps p.tables e below (T40.setTop (mkF m 218 #[.val (.int i0), .val (.int i1), .val (.int i2), .val (.int i3), .val (.int i4), .val (.int i5), .val (.int s0), .val (.int s1), .val (.int s2), .val (.int s3), .val (.int s0), .val (.int (s0 + s1)), .val (.int ((s0 + s1) + s2)), .val (.int (((s0 + s1) + s2) + s3)), .val (.int t0), .val (.ref b16), .val (.int (own_go t0 0 0 (-1) [s0, s1, s2, s3])), .unset] [])) _
        refine ny1 _ ?_
        show Steps p.tables e below (T40.setTop (mkF m 229 #[.val (.int i0), .val (.int i1), .val (.int i2), .val (.int i3), .val (.int i4), .val (.int i5), .val (.int s0), .val (.int s1), .val (.int s2), .val (.int s3), .val (.int s0), .val (.int (s0 + s1)), .val (.int ((s0 + s1) + s2)), .val (.int (((s0 + s1) + s2) + s3)), .val (.int t0), .val (.ref b16), .val (.int (own_go t0 0 0 (-1) [s0, s1, s2, s3])), .unset] [])) _
        refine XS.iload X40.here hx rfl (hb hby at_229) rfl ?_
        show Steps p.tables e below (T40.setTop (mkF m 231 #[.val (.int i0), .val (.int i1), .val (.int i2), .val (.int i3), .val (.int i4), .val (.int i5), .val (.int s0), .val (.int s1), .val (.int s2), .val (.int s3), .val (.int s0), .val (.int (s0 + s1)), .val (.int ((s0 + s1) + s2)), .val (.int (((s0 + s1) + s2) + s3)), .val (.int t0), .val (.ref b16), .val (.int (own_go t0 0 0 (-1) [s0, s1, s2, s3])), .unset] [(.int s1)])) _
        refine XS.ifNo X40.here hx rfl (hb hby at_231) rfl ((if0 _ _).trans (tlt (C2 : (0 : Int32) < s1)).2.2.2) ?_
        show Steps p.tables e below (T40.setTop (mkF m 234 #[.val (.int i0), .val (.int i1), .val (.int i2), .val (.int i3), .val (.int i4), .val (.int i5), .val (.int s0), .val (.int s1), .val (.int s2), .val (.int s3), .val (.int s0), .val (.int (s0 + s1)), .val (.int ((s0 + s1) + s2)), .val (.int (((s0 + s1) + s2) + s3)), .val (.int t0), .val (.ref b16), .val (.int (own_go t0 0 0 (-1) [s0, s1, s2, s3])), .unset] [])) _
        refine XS.iconst X40.here hx rfl (hb hby at_234) ?_
        show Steps p.tables e below (T40.setTop (mkF m 235 #[.val (.int i0), .val (.int i1), .val (.int i2), .val (.int i3), .val (.int i4), .val (.int i5), .val (.int s0), .val (.int s1), .val (.int s2), .val (.int s3), .val (.int s0), .val (.int (s0 + s1)), .val (.int ((s0 + s1) + s2)), .val (.int (((s0 + s1) + s2) + s3)), .val (.int t0), .val (.ref b16), .val (.int (own_go t0 0 0 (-1) [s0, s1, s2, s3])), .unset] [(.int (1 : Int32))])) _
        refine XS.istore X40.here hx rfl (hb hby at_235) rfl (l' := #[.val (.int i0), .val (.int i1), .val (.int i2), .val (.int i3), .val (.int i4), .val (.int i5), .val (.int s0), .val (.int s1), .val (.int s2), .val (.int s3), .val (.int s0), .val (.int (s0 + s1)), .val (.int ((s0 + s1) + s2)), .val (.int (((s0 + s1) + s2) + s3)), .val (.int t0), .val (.ref b16), .val (.int (own_go t0 0 0 (-1) [s0, s1, s2, s3])), .val (.int (1 : Int32))]) rfl ?_
        show Steps p.tables e below (T40.setTop (mkF m 237 #[.val (.int i0), .val (.int i1), .val (.int i2), .val (.int i3), .val (.int i4), .val (.int i5), .val (.int s0), .val (.int s1), .val (.int s2), .val (.int s3), .val (.int s0), .val (.int (s0 + s1)), .val (.int ((s0 + s1) + s2)), .val (.int (((s0 + s1) + s2) + s3)), .val (.int t0), .val (.ref b16), .val (.int (own_go t0 0 0 (-1) [s0, s1, s2, s3])), .val (.int (1 : Int32))] [])) _
        refine XS.goto X40.here hx rfl (pc0 := 237) (pc' := 243) rfl (hb hby at_237) (by decide) (by decide) ?_
        exact kt
      have ny2 : ∀ t, Steps p.tables e below (T40.setTop (mkF m 240 #[.val (.int i0), .val (.int i1), .val (.int i2), .val (.int i3), .val (.int i4), .val (.int i5), .val (.int s0), .val (.int s1), .val (.int s2), .val (.int s3), .val (.int s0), .val (.int (s0 + s1)), .val (.int ((s0 + s1) + s2)), .val (.int (((s0 + s1) + s2) + s3)), .val (.int t0), .val (.ref b16), .val (.int (own_go t0 0 0 (-1) [s0, s1, s2, s3])), .unset] [])) t → Steps p.tables e below (T40.setTop (mkF m 229 #[.val (.int i0), .val (.int i1), .val (.int i2), .val (.int i3), .val (.int i4), .val (.int i5), .val (.int s0), .val (.int s1), .val (.int s2), .val (.int s3), .val (.int s0), .val (.int (s0 + s1)), .val (.int ((s0 + s1) + s2)), .val (.int (((s0 + s1) + s2) + s3)), .val (.int t0), .val (.ref b16), .val (.int (own_go t0 0 0 (-1) [s0, s1, s2, s3])), .unset] [])) t := by
        intro t kt
        refine XS.iload X40.here hx rfl (hb hby at_229) rfl ?_
        show Steps p.tables e below (T40.setTop (mkF m 231 #[.val (.int i0), .val (.int i1), .val (.int i2), .val (.int i3), .val (.int i4), .val (.int i5), .val (.int s0), .val (.int s1), .val (.int s2), .val (.int s3), .val (.int s0), .val (.int (s0 + s1)), .val (.int ((s0 + s1) + s2)), .val (.int (((s0 + s1) + s2) + s3)), .val (.int t0), .val (.ref b16), .val (.int (own_go t0 0 0 (-1) [s0, s1, s2, s3])), .unset] [(.int s1)])) _
        refine XS.ifYes X40.here hx rfl (pc0 := 231) (pc' := 240) rfl (hb hby at_231) rfl ((if0 _ _).trans (flt (C2 : ¬ ((0 : Int32) < s1))).2.2.2) (by decide) (by decide) ?_
        exact kt
      refine ⟨(0 : Int32), by unfold own_exp; rw [if_neg A0, if_neg A1, if_neg A2, if_neg A3, if_neg C0, if_neg C1, if_neg C2], fun t kt => ?_⟩
      refine nx0 _ ?_
      show Steps p.tables e below (T40.setTop (mkF m 147 #[.val (.int i0), .val (.int i1), .val (.int i2), .val (.int i3), .val (.int i4), .val (.int i5), .val (.int s0), .val (.int s1), .val (.int s2), .val (.int s3), .val (.int s0), .val (.int (s0 + s1)), .val (.int ((s0 + s1) + s2)), .val (.int (((s0 + s1) + s2) + s3)), .val (.int t0), .val (.ref b16), .val (.int (own_go t0 0 0 (-1) [s0, s1, s2, s3])), .unset] [])) _
      refine nx1 _ ?_
      show Steps p.tables e below (T40.setTop (mkF m 167 #[.val (.int i0), .val (.int i1), .val (.int i2), .val (.int i3), .val (.int i4), .val (.int i5), .val (.int s0), .val (.int s1), .val (.int s2), .val (.int s3), .val (.int s0), .val (.int (s0 + s1)), .val (.int ((s0 + s1) + s2)), .val (.int (((s0 + s1) + s2) + s3)), .val (.int t0), .val (.ref b16), .val (.int (own_go t0 0 0 (-1) [s0, s1, s2, s3])), .unset] [])) _
      refine nx2 _ ?_
      show Steps p.tables e below (T40.setTop (mkF m 187 #[.val (.int i0), .val (.int i1), .val (.int i2), .val (.int i3), .val (.int i4), .val (.int i5), .val (.int s0), .val (.int s1), .val (.int s2), .val (.int s3), .val (.int s0), .val (.int (s0 + s1)), .val (.int ((s0 + s1) + s2)), .val (.int (((s0 + s1) + s2) + s3)), .val (.int t0), .val (.ref b16), .val (.int (own_go t0 0 0 (-1) [s0, s1, s2, s3])), .unset] [])) _
      refine nx3 _ ?_
      show Steps p.tables e below (T40.setTop (mkF m 207 #[.val (.int i0), .val (.int i1), .val (.int i2), .val (.int i3), .val (.int i4), .val (.int i5), .val (.int s0), .val (.int s1), .val (.int s2), .val (.int s3), .val (.int s0), .val (.int (s0 + s1)), .val (.int ((s0 + s1) + s2)), .val (.int (((s0 + s1) + s2) + s3)), .val (.int t0), .val (.ref b16), .val (.int (own_go t0 0 0 (-1) [s0, s1, s2, s3])), .unset] [])) _
      refine ny0 _ ?_
      show Steps p.tables e below (T40.setTop (mkF m 218 #[.val (.int i0), .val (.int i1), .val (.int i2), .val (.int i3), .val (.int i4), .val (.int i5), .val (.int s0), .val (.int s1), .val (.int s2), .val (.int s3), .val (.int s0), .val (.int (s0 + s1)), .val (.int ((s0 + s1) + s2)), .val (.int (((s0 + s1) + s2) + s3)), .val (.int t0), .val (.ref b16), .val (.int (own_go t0 0 0 (-1) [s0, s1, s2, s3])), .unset] [])) _
      refine ny1 _ ?_
      show Steps p.tables e below (T40.setTop (mkF m 229 #[.val (.int i0), .val (.int i1), .val (.int i2), .val (.int i3), .val (.int i4), .val (.int i5), .val (.int s0), .val (.int s1), .val (.int s2), .val (.int s3), .val (.int s0), .val (.int (s0 + s1)), .val (.int ((s0 + s1) + s2)), .val (.int (((s0 + s1) + s2) + s3)), .val (.int t0), .val (.ref b16), .val (.int (own_go t0 0 0 (-1) [s0, s1, s2, s3])), .unset] [])) _
      refine ny2 _ ?_
      show Steps p.tables e below (T40.setTop (mkF m 240 #[.val (.int i0), .val (.int i1), .val (.int i2), .val (.int i3), .val (.int i4), .val (.int i5), .val (.int s0), .val (.int s1), .val (.int s2), .val (.int s3), .val (.int s0), .val (.int (s0 + s1)), .val (.int ((s0 + s1) + s2)), .val (.int (((s0 + s1) + s2) + s3)), .val (.int t0), .val (.ref b16), .val (.int (own_go t0 0 0 (-1) [s0, s1, s2, s3])), .unset] [])) _
      refine XS.iconst X40.here hx rfl (hb hby at_240) ?_
      show Steps p.tables e below (T40.setTop (mkF m 241 #[.val (.int i0), .val (.int i1), .val (.int i2), .val (.int i3), .val (.int i4), .val (.int i5), .val (.int s0), .val (.int s1), .val (.int s2), .val (.int s3), .val (.int s0), .val (.int (s0 + s1)), .val (.int ((s0 + s1) + s2)), .val (.int (((s0 + s1) + s2) + s3)), .val (.int t0), .val (.ref b16), .val (.int (own_go t0 0 0 (-1) [s0, s1, s2, s3])), .unset] [(.int (0 : Int32))])) _
      refine XS.istore X40.here hx rfl (hb hby at_241) rfl (l' := #[.val (.int i0), .val (.int i1), .val (.int i2), .val (.int i3), .val (.int i4), .val (.int i5), .val (.int s0), .val (.int s1), .val (.int s2), .val (.int s3), .val (.int s0), .val (.int (s0 + s1)), .val (.int ((s0 + s1) + s2)), .val (.int (((s0 + s1) + s2) + s3)), .val (.int t0), .val (.ref b16), .val (.int (own_go t0 0 0 (-1) [s0, s1, s2, s3])), .val (.int (0 : Int32))]) rfl ?_
      exact kt
    have hfin := own_law t0 s0 s1 s2 s3 (by omega) (by omega) (by omega) (by omega) c51
    rw [← hex] at hfin
    have sg42 : ∀ t, Steps p.tables e below (T40.setTop (mkF m 255 #[.val (.int i0), .val (.int i1), .val (.int i2), .val (.int i3), .val (.int i4), .val (.int i5), .val (.int s0), .val (.int s1), .val (.int s2), .val (.int s3), .val (.int s0), .val (.int (s0 + s1)), .val (.int ((s0 + s1) + s2)), .val (.int (((s0 + s1) + s2) + s3)), .val (.int t0), .val (.ref b16), .val (.int (own_go t0 0 0 (-1) [s0, s1, s2, s3])), .val (.int ex)] [(.int (1 : Int32))])) t → Steps p.tables e below (T40.setTop (mkF m 243 #[.val (.int i0), .val (.int i1), .val (.int i2), .val (.int i3), .val (.int i4), .val (.int i5), .val (.int s0), .val (.int s1), .val (.int s2), .val (.int s3), .val (.int s0), .val (.int (s0 + s1)), .val (.int ((s0 + s1) + s2)), .val (.int (((s0 + s1) + s2) + s3)), .val (.int t0), .val (.ref b16), .val (.int (own_go t0 0 0 (-1) [s0, s1, s2, s3])), .val (.int ex)] [])) t := by
      intro t kt
      refine XS.iload X40.here hx rfl (hb hby at_243) rfl ?_
      show Steps p.tables e below (T40.setTop (mkF m 245 #[.val (.int i0), .val (.int i1), .val (.int i2), .val (.int i3), .val (.int i4), .val (.int i5), .val (.int s0), .val (.int s1), .val (.int s2), .val (.int s3), .val (.int s0), .val (.int (s0 + s1)), .val (.int ((s0 + s1) + s2)), .val (.int (((s0 + s1) + s2) + s3)), .val (.int t0), .val (.ref b16), .val (.int (own_go t0 0 0 (-1) [s0, s1, s2, s3])), .val (.int ex)] [(.int (own_go t0 0 0 (-1) [s0, s1, s2, s3]))])) _
      refine XS.iload X40.here hx rfl (hb hby at_245) rfl ?_
      show Steps p.tables e below (T40.setTop (mkF m 247 #[.val (.int i0), .val (.int i1), .val (.int i2), .val (.int i3), .val (.int i4), .val (.int i5), .val (.int s0), .val (.int s1), .val (.int s2), .val (.int s3), .val (.int s0), .val (.int (s0 + s1)), .val (.int ((s0 + s1) + s2)), .val (.int (((s0 + s1) + s2) + s3)), .val (.int t0), .val (.ref b16), .val (.int (own_go t0 0 0 (-1) [s0, s1, s2, s3])), .val (.int ex)] [(.int ex), (.int (own_go t0 0 0 (-1) [s0, s1, s2, s3]))])) _
      refine XS.icmpNo X40.here hx rfl (hb hby at_247) rfl (teq (hfin : (own_go t0 0 0 (-1) [s0, s1, s2, s3]) = ex)).2 ?_
      show Steps p.tables e below (T40.setTop (mkF m 250 #[.val (.int i0), .val (.int i1), .val (.int i2), .val (.int i3), .val (.int i4), .val (.int i5), .val (.int s0), .val (.int s1), .val (.int s2), .val (.int s3), .val (.int s0), .val (.int (s0 + s1)), .val (.int ((s0 + s1) + s2)), .val (.int (((s0 + s1) + s2) + s3)), .val (.int t0), .val (.ref b16), .val (.int (own_go t0 0 0 (-1) [s0, s1, s2, s3])), .val (.int ex)] [])) _
      refine XS.iconst X40.here hx rfl (hb hby at_250) ?_
      show Steps p.tables e below (T40.setTop (mkF m 251 #[.val (.int i0), .val (.int i1), .val (.int i2), .val (.int i3), .val (.int i4), .val (.int i5), .val (.int s0), .val (.int s1), .val (.int s2), .val (.int s3), .val (.int s0), .val (.int (s0 + s1)), .val (.int ((s0 + s1) + s2)), .val (.int (((s0 + s1) + s2) + s3)), .val (.int t0), .val (.ref b16), .val (.int (own_go t0 0 0 (-1) [s0, s1, s2, s3])), .val (.int ex)] [(.int (1 : Int32))])) _
      refine XS.goto X40.here hx rfl (pc0 := 251) (pc' := 255) rfl (hb hby at_251) (by decide) (by decide) ?_
      exact kt
    obtain ⟨fs, hr, hrun, hended, hW, hsame⟩ := X40.leave (v := some (.int (1 : Int32))) (fun h => by rw [Bd.returns] at h; cases h)
    refine ⟨_, _, pre0 _ ?_, hrun, hended, _, _, rfl, ?_, ⟨_, rfl⟩, hW, hsame.mono (by decide) (by decide)⟩
    · refine sg1 _ ?_
      refine st2 _ ?_
      refine sg3 _ ?_
      refine st4 _ ?_
      refine sg5 _ ?_
      refine st6 _ ?_
      refine sg7 _ ?_
      refine st8 _ ?_
      refine sg9 _ ?_
      refine cv10 _ ?_
      refine sg11 _ ?_
      refine sg12 _ ?_
      refine sg13 _ ?_
      refine ht_st _ ?_
      refine sg14 _ ?_
      refine st15 _ ?_
      refine sg19 _ ?_
      refine st21 _ ?_
      refine sg24 _ ?_
      refine st26 _ ?_
      refine sg29 _ ?_
      refine st31 _ ?_
      refine sg34 _ ?_
      refine st36 _ ?_
      refine sg39 _ ?_
      refine st40 _ ?_
      refine sg41 _ ?_
      refine hx_st _ ?_
      refine sg42 _ ?_
      exact retN X40 hx (t := .boolean) Bd.returns (by simp) (hb hby at_255) hr
    · show Q0 Z i0 i1 i2 i3 i4 i5 h0 n0 _ T40.heap _
      rw [eq40]; exact ⟨rfl, N40⟩
set_option maxRecDepth 65536 in
set_option maxHeartbeats 40000000 in
theorem comes_1 {Post : Tables → Env → Array Value → State → Outcome → State → Prop} (hpost : ∀ tb e args s v u, (limb_1_1.after args s (.returned v) u = true ∧ limb_1_2.after args s (.returned v) u = true ∧ True) → FrameEnd s (.returned v) u (Jvm.fieldLocs frame_1_writes args s ++ Jvm.arrayLocs frame_1_arrays args s ++ Jvm.staticLocs frame_1_statics s) 16 128 → Post tb e args s (.returned v) u) :
    ArmFor flags0 classFile x code maxLocals ret World_1 tables_1 room_1 Calls_1 rest_1 Pre_1 Post := by
  intro l hfl _ _ p e ha hc hk s m args below hf hA hF happ hP
  obtain ⟨hcalls, hrest, hpre⟩ := hP
  obtain ⟨-, -, -, hnamed, -, -, -, hat⟩ := (Spec.applies_iff hf).mp happ
  obtain ⟨hg, hn⟩ := and_e (Cond.before_iff.mp (show (Jvm.Cond.and given_1 narrow_1).before args s = true from hpre))
  obtain ⟨h1, h2⟩ := and_e hg
  obtain ⟨w0, w1, w2, w3, w4, w5, rfl⟩ : ∃ w0 w1 w2 w3 w4 w5 : Value, args = #[w0, w1, w2, w3, w4, w5] := by
    have hs : args.size = 6 := by simpa [Cond.value, given_1] using h1
    obtain ⟨L⟩ := args
    match L, hs with
    | [w0, w1, w2, w3, w4, w5], _ => exact ⟨w0, w1, w2, w3, w4, w5, rfl⟩
  have hw := fun d (hd : d ∈ tables_1) => atoms_spec (ws := Jvm.Cond.code x code maxLocals ret :: tables_1) hat d (List.mem_cons_of_mem _ hd)
  have hfit : Fit s := fun {y c} hc i hi => by
    obtain ⟨ha, rfl⟩ := Array.getElem?_eq_some_iff.mp hc
    have q := List.all_eq_true.mp ((Array.all_eq_true_iff_forall_mem.mp hF) _ (Array.getElem_mem ha)) i (List.mem_range.mpr hi)
    simpa [Array.getElem?_eq_getElem hi] using q
  obtain ⟨a0, b0⟩ := and_e h2
  obtain ⟨i0, e0⟩ := is_v a0
  obtain rfl : w0 = (.int i0) := Option.some.inj e0
  obtain ⟨a1, b1⟩ := and_e b0
  obtain ⟨i1, e1⟩ := is_v a1
  obtain rfl : w1 = (.int i1) := Option.some.inj e1
  obtain ⟨a2, b2⟩ := and_e b1
  obtain ⟨i2, e2⟩ := is_v a2
  obtain rfl : w2 = (.int i2) := Option.some.inj e2
  obtain ⟨a3, b3⟩ := and_e b2
  obtain ⟨i3, e3⟩ := is_v a3
  obtain rfl : w3 = (.int i3) := Option.some.inj e3
  obtain ⟨a4, b4⟩ := and_e b3
  obtain ⟨i4, e4⟩ := is_v a4
  obtain rfl : w4 = (.int i4) := Option.some.inj e4
  obtain ⟨i5, e5⟩ := is_v b4
  obtain rfl : w5 = (.int i5) := Option.some.inj e5
  obtain ⟨n, o, h1, h2, h3, _, L, rfl, ⟨rfl, N⟩, hq⟩ := rm0 l s _ hw tables_1 i0 i1 i2 i3 i4 i5 s.heap s.heap.size (Nat.le_refl _) p e ha hc hk s m _ below hf ((Spec.applies_iff_loose hf).mp happ).1 ⟨rfl, State.Warmed39.refl s, rfl⟩ trivial
  refine ⟨n, _, h1, h2, h3, hpost _ _ _ _ _ _ ⟨Cond.after_iff.mpr rfl, Cond.after_iff.mpr (eq_i res_at (Term.int_eval (1)) rfl), trivial⟩ ⟨hq.1, hq.2.1, (hq.2.2.sift fun y hy => Or.inr (N y hy)).mono (by decide) (by decide)⟩⟩
theorem main_1_1 : Claimed_1_1 := comes_1 fun _ _ _ _ _ _ h hF => ⟨h.1, hF⟩
theorem main_1_2 : Claimed_1_2 := comes_1 fun _ _ _ _ _ _ h hF => ⟨h.2.1, hF⟩
end Jvm.Pilot.@@N@@
namespace Jvm.Pilot.@@N@@
open Jvm Jvm.ClassFile Sem Op Lib Jvm.Free Jvm.Stand Jvm.Pilot.@@N@@.Jvm.D
/-! MADE BY PROGRAM (witnessworld.py) out of the Statement's table words and the real class files: 11 classes; the members and pool entries that the words name. The judged class is class 1, her method 2. -/
namespace start1
open Jvm.ClassFile
def u (s : String) : CpInfo := .utf8 (stringToUtf16 s)
/-- a pool by its gaps: so many unusable entries, then the entry; so many at the end -/
def gap : Nat → List CpInfo → List CpInfo
  | 0, r => r
  | n + 1, r => .unusable :: gap n r
def poolList (es : List (Nat × CpInfo)) (last : Nat) : List CpInfo := es.foldr (fun e r => gap e.1 (e.2 :: r)) (gap last [])
def pool (es : List (Nat × CpInfo)) (last : Nat) : Array CpInfo := ⟨poolList es last⟩
def fileOf (pool : Array CpInfo) (this : Nat) (attrs : Array Attribute := #[]) (ms : Array MethodInfo := #[]) (fl : Nat := 33) (sup : Nat := 0) (ifs : Array Nat := #[]) (fds : Array FieldInfo := #[]) : ClassFile where
  minorVersion := 0
  majorVersion := 65
  constantPool := pool
  accessFlags := fl
  thisClass := this
  superClass := sup
  interfaces := ifs
  fields := fds
  methods := ms
  attributes := attrs
def plain (name : String) (sup : Option ClassId) : Class where
  name := name
  kind := .ordinary
  loader := none
  accessFlags := 33
  super := sup
  interfaces := #[]
  cf := none
  fields := #[]
  methods := #[]
  instanceTypes := #[]
  staticTypes := #[]
  resolved := #[]
  callSites := []
  init := .initialized
  statics := none
  mirror := none

def pool0 : Array CpInfo := pool [(5, u "<init>"), (0, u "()V"), (1, .class_ 10), (1, u "java/lang/Object")] 113

def k0m0 : Method := { name := "<init>", desc := "()V", sig := { parameters := [], returnType := none }, accessFlags := 1, code := none }
/-- java/lang/Object -/
def k0 : Class := { plain "java/lang/Object" none with
  accessFlags := 33
  interfaces := #[]
  cf := some (fileOf pool0 8 #[] #[{ accessFlags := 1, nameIndex := 5, descriptorIndex := 6, attributes := #[] }] 33 0 #[] #[])
  fields := #[]
  methods := #[k0m0]
  instanceTypes := #[]
  staticTypes := #[]
  resolved := Array.replicate 124 none
  statics := none }

def pool1 : Array CpInfo := pool [(2, .class_ 4), (1, u "java/lang/Object"), (0, u "<init>"), (0, u "()V"), (0, .integer 65535), (0, .methodref 9 10), (0, .class_ 11), (0, .nameAndType 12 13), (0, u "com/example/cairnwise/cairnwise/cluster/KmeansPlusPlusDrawPinLaw"), (0, u "share"), (0, u "(I)I"), (0, .integer 2147483647), (0, .double 4611686018427387904), (1, .methodref 18 19), (0, .class_ 20), (0, .nameAndType 21 22), (0, u "com/example/cairnwise/cairnwise/cluster/KmeansPlusPlus"), (0, u "draw"), (0, u "([DD)I"), (3, u "law"), (0, u "(IIIIII)Z")] 4

def k1m0 : Method := { name := "<init>", desc := "()V", sig := { parameters := [], returnType := none }, accessFlags := 2, code := none }
def k1c1 : Code := { maxStack := 2, maxLocals := 1, code := method_2_code, exceptionTable := #[], attributes := #[] }
def k1m1 : Method := { name := "share", desc := "(I)I", sig := { parameters := [.int], returnType := some .int }, accessFlags := 10, code := some k1c1 }
def k1c2 : Code := { maxStack := 5, maxLocals := 18, code := code, exceptionTable := #[], attributes := #[] }
def k1m2 : Method := { name := "law", desc := "(IIIIII)Z", sig := { parameters := [.int, .int, .int, .int, .int, .int], returnType := some .boolean }, accessFlags := 9, code := some k1c2 }
/-- com/example/cairnwise/cairnwise/cluster/KmeansPlusPlusDrawPinLaw -/
def k1 : Class := { plain "com/example/cairnwise/cairnwise/cluster/KmeansPlusPlusDrawPinLaw" (some 0) with
  accessFlags := 49
  interfaces := #[]
  cf := some (fileOf pool1 9 #[] #[{ accessFlags := 2, nameIndex := 5, descriptorIndex := 6, attributes := #[] }, { accessFlags := 10, nameIndex := 12, descriptorIndex := 13, attributes := #[] }, { accessFlags := 9, nameIndex := 26, descriptorIndex := 27, attributes := #[] }] 49 2 #[] #[])
  fields := #[]
  methods := #[k1m0, k1m1, k1m2]
  instanceTypes := #[]
  staticTypes := #[]
  resolved := Array.replicate 32 none
  statics := none }

def pool2 : Array CpInfo := pool [(2, .class_ 4), (1, u "java/lang/Object"), (0, u "<init>"), (0, u "()V"), (1, .class_ 10), (1, u "com/example/cairnwise/cairnwise/cluster/KmeansPlusPlus"), (41, u "draw"), (0, u "([DD)I")] 60

def k2m0 : Method := { name := "<init>", desc := "()V", sig := { parameters := [], returnType := none }, accessFlags := 2, code := none }
def k2c1 : Code := { maxStack := 4, maxLocals := 7, code := prog_18_method_6_code, exceptionTable := #[], attributes := #[] }
def k2m1 : Method := { name := "draw", desc := "([DD)I", sig := { parameters := [(.array .double), .double], returnType := some .int }, accessFlags := 8, code := some k2c1 }
/-- com/example/cairnwise/cairnwise/cluster/KmeansPlusPlus -/
def k2 : Class := { plain "com/example/cairnwise/cairnwise/cluster/KmeansPlusPlus" (some 0) with
  accessFlags := 48
  interfaces := #[]
  cf := some (fileOf pool2 8 #[] #[{ accessFlags := 2, nameIndex := 5, descriptorIndex := 6, attributes := #[] }, { accessFlags := 8, nameIndex := 52, descriptorIndex := 53, attributes := #[] }] 48 2 #[] #[])
  fields := #[]
  methods := #[k2m0, k2m1]
  instanceTypes := #[]
  staticTypes := #[]
  resolved := Array.replicate 114 none
  statics := none }

def pool3 : Array CpInfo := pool [(1, u "java/lang/Cloneable"), (0, .class_ 1), (0, u "java/lang/Object"), (0, .class_ 3)] 3

/-- java/lang/Cloneable -/
def k3 : Class := { plain "java/lang/Cloneable" (some 0) with
  accessFlags := 1537
  interfaces := #[]
  cf := some (fileOf pool3 2 #[] #[] 1537 4 #[] #[])
  fields := #[]
  methods := #[]
  instanceTypes := #[]
  staticTypes := #[]
  resolved := Array.replicate 8 none
  statics := none }

def pool4 : Array CpInfo := pool [(1, u "java/io/Serializable"), (0, .class_ 1), (0, u "java/lang/Object"), (0, .class_ 3)] 3

/-- java/io/Serializable -/
def k4 : Class := { plain "java/io/Serializable" (some 0) with
  accessFlags := 1537
  interfaces := #[]
  cf := some (fileOf pool4 2 #[] #[] 1537 4 #[] #[])
  fields := #[]
  methods := #[]
  instanceTypes := #[]
  staticTypes := #[]
  resolved := Array.replicate 8 none
  statics := none }

/-- the primitive byte -/
def k5 : Class := { plain "byte" none with kind := .primitive 'B', accessFlags := 0x411 }
/-- [B -/
def k6 : Class := { plain "[B" (some 0) with kind := .array 5 .byte, interfaces := #[3, 4], accessFlags := 1041 }

/-- the primitive double -/
def k7 : Class := { plain "double" none with kind := .primitive 'D', accessFlags := 0x411 }
/-- [D -/
def k8 : Class := { plain "[D" (some 0) with kind := .array 7 .double, interfaces := #[3, 4], accessFlags := 1041 }

/-- the primitive int -/
def k9 : Class := { plain "int" none with kind := .primitive 'I', accessFlags := 0x411 }
/-- [I -/
def k10 : Class := { plain "[I" (some 0) with kind := .array 9 .int, interfaces := #[3, 4], accessFlags := 1041 }

def heap : Heap := #[]
def classes : Array Class := #[k0, k1, k2, k3, k4, k5, k6, k7, k8, k9, k10]
def interned : List (Array UInt16 × Addr) := []
def slotsUsed : Nat := 0
def theMethod : MethodId := ⟨1, 2⟩
def args0 : Array Value := #[.int 7, .int 9, .int 2, .int 5, .int 3, .int 1]
def aboutOver (below : List Frame) : State where
  vm := { classes := classes, interned := interned.toArray }
  heap := heap
  slotsUsed := slotsUsed
  threads := #[{ frames := .invoking theMethod args0 :: below }]
def below0 : List Frame := [.native { method := ⟨0, 0⟩, args := #[] }]
def about1 : State := aboutOver below0
def p0 : Program := .bare "" "" ""
def e0 : Env := launch0.env 0 0 0
theorem w_frames : about1.frames = Frame.invoking theMethod args0 :: below0 := rfl
set_option maxRecDepth 65536 in
theorem w_args : argsFit about1.vm theMethod args0 = true := by decide +kernel
set_option maxRecDepth 65536 in
theorem w_heap : heapFits about1 = true := by decide +kernel
set_option maxRecDepth 65536 in
theorem w_runnable : about1.curStatus? = some .runnable := by decide +kernel
set_option maxRecDepth 65536 in
theorem w_alone : about1.alone = true := by decide +kernel
set_option maxRecDepth 65536 in
theorem w_named : about1.methodNamed? x = some theMethod := by decide +kernel
set_option maxRecDepth 65536 in
theorem w_hears : about1.hears theMethod below0 = true := by decide +kernel
set_option maxRecDepth 65536 in
theorem w_ripe : about1.ripe theMethod args0 below0 = true := by decide +kernel
theorem w_running : about1.status = .running := rfl
set_option maxRecDepth 65536 in
theorem w_room : about1.hasRoom e0.platform room_1 = true :=
  launch0.hasRoom_least _ room_1 (by decide +kernel) (by decide +kernel) (by decide +kernel) (by decide +kernel) (by decide +kernel) (by decide +kernel)
theorem allAtoms_all (ts : List Jvm.Cond) (a : Array Jvm.Value) (st : Jvm.State) : (allAtoms ts).before a st = ts.all (fun c => c.before a st) := by
  induction ts with
  | nil => rfl
  | cons c t ih =>
    show (Jvm.Cond.and c (allAtoms t)).before a st = _
    rw [Jvm.Cond.before_and, ih, List.all_cons]
def words1 : List Jvm.Cond := Jvm.Cond.code x code maxLocals ret :: tables_1
/-- a 'code' word, met by the world's own term for the bytes: nothing is compared byte by byte -/
theorem code_word {y : MethodName} {bytes : ByteArray} {mx : Nat} {rt : Option FieldType} {a : Array Value} {s : State} {m : MethodId} {meth : Method} {c : Code} (h1 : s.methodNamed? y = some m) (h2 : s.vm.method? m = some meth) (h3 : meth.code = some c) (h4 : c.code = bytes)
    (h5 : (c.maxLocals == mx && c.exceptionTable.isEmpty && decide (c.maxStack ≤ mostOperands) && decide (meth.sig.returnType = rt) && !meth.locks && decide (parseMethodDescriptor y.desc = some meth.sig)) = true) : (Jvm.Cond.code y bytes mx rt).before a s = true := by
  simp only [Bool.and_eq_true, beq_iff_eq, Bool.not_eq_true', decide_eq_true_eq] at h5
  obtain ⟨⟨⟨⟨⟨g1, g2⟩, g3⟩, g4⟩, g5⟩, g6⟩ := h5
  simp [Cond.before, Cond.holds, Cond.value, h1, h2, h3, h4, g1, g2, g3, g4, g5, g6]
def isCode : Jvm.Cond → Bool
  | .code _ _ _ _ => true
  | _ => false
theorem all_split {L : List Jvm.Cond} {P : Jvm.Cond → Bool} (h1 : L.all (fun c => isCode c || P c) = true) (h2 : ∀ c ∈ L.filter isCode, P c = true) : L.all P = true := by
  refine List.all_eq_true.mpr fun c hc => ?_
  have h := List.all_eq_true.mp h1 c hc
  rcases Bool.eq_false_or_eq_true (isCode c) with hi | hi
  · exact h2 c (List.mem_filter.mpr ⟨hc, hi⟩)
  · simpa [hi] using h
set_option maxRecDepth 65536 in
theorem w_c0 : (Jvm.Cond.code x code maxLocals ret).before args0 about1 = true := code_word (m := ⟨1, 2⟩) (meth := k1m2) (c := k1c2) (by decide +kernel) rfl rfl rfl (by decide +kernel)
set_option maxRecDepth 65536 in
theorem w_c1 : (Jvm.Cond.code ({ cls := "com/example/cairnwise/cairnwise/cluster/KmeansPlusPlusDrawPinLaw", name := "share", desc := "(I)I" } : Jvm.MethodName) method_2_code (1 : Nat) (Option.some Jvm.ClassFile.FieldType.int)).before args0 about1 = true := code_word (m := ⟨1, 1⟩) (meth := k1m1) (c := k1c1) (by decide +kernel) rfl rfl rfl (by decide +kernel)
set_option maxRecDepth 65536 in
theorem w_c2 : (Jvm.Cond.code ({ cls := "com/example/cairnwise/cairnwise/cluster/KmeansPlusPlus", name := "draw", desc := "([DD)I" } : Jvm.MethodName) prog_18_method_6_code (7 : Nat) (Option.some Jvm.ClassFile.FieldType.int)).before args0 about1 = true := code_word (m := ⟨2, 1⟩) (meth := k2m1) (c := k2c1) (by decide +kernel) rfl rfl rfl (by decide +kernel)
def codes1 : List Jvm.Cond := [Jvm.Cond.code x code maxLocals ret, Jvm.Cond.code ({ cls := "com/example/cairnwise/cairnwise/cluster/KmeansPlusPlusDrawPinLaw", name := "share", desc := "(I)I" } : Jvm.MethodName) method_2_code (1 : Nat) (Option.some Jvm.ClassFile.FieldType.int), Jvm.Cond.code ({ cls := "com/example/cairnwise/cairnwise/cluster/KmeansPlusPlus", name := "draw", desc := "([DD)I" } : Jvm.MethodName) prog_18_method_6_code (7 : Nat) (Option.some Jvm.ClassFile.FieldType.int)]
set_option maxRecDepth 65536 in
theorem codes_eq : words1.filter isCode = codes1 := rfl
theorem w_codes : ∀ c ∈ words1.filter isCode, c.before args0 about1 = true := by
  rw [codes_eq]
  intro c hc
  simp only [codes1, List.mem_cons, List.not_mem_nil, or_false] at hc
  rcases hc with rfl | rfl | rfl
  · exact w_c0
  · exact w_c1
  · exact w_c2
set_option maxRecDepth 65536 in
theorem w_t1 : words1.all (fun c => isCode c || c.before args0 about1) = true := by decide +kernel
theorem w_tables : (allAtoms (Jvm.Cond.code x code maxLocals ret :: tables_1)).before args0 about1 = true := by
  rw [allAtoms_all]
  show words1.all (fun c => c.before args0 about1) = true
  refine all_split ?_ w_codes
  rw [w_t1]
set_option maxRecDepth 65536 in
theorem w_case : (Jvm.Cond.and given_1 narrow_1).before args0 about1 = true := by decide +kernel
theorem w_applies : (headSpec (Jvm.Cond.code x code maxLocals ret :: tables_1) room_1).applies x e0.platform about1 = true :=
  (Spec.applies_iff w_frames).mpr ⟨w_running, w_runnable, w_alone, w_named, w_hears, w_ripe, w_room, w_tables⟩
theorem atStart : AtStart classFile x code maxLocals ret World_1 tables_1 room_1 Calls_1 rest_1 Pre_1 launch0 p0 e0 about1 theMethod args0 below0 :=
  ⟨lists_1, trivial, launch0.admits_env _ _ _, launch0.least_env, fairChoices_fair.cas, fairChoices_fair.clock, w_frames, w_args, w_heap, w_applies, trivial, trivial, w_case⟩
end start1
theorem witness_1 : WitnessClaimed_1 := ⟨start1.p0, start1.e0, start1.about1, start1.theMethod, start1.args0, start1.below0, start1.atStart⟩
end Jvm.Pilot.@@N@@
