import JvmDerived
import JvmDerived.Pilot.@@N@@Statement
import JvmDerived.Pilot.@@N@@Code
set_option linter.unusedVariables false
set_option linter.unusedSimpArgs false
namespace Jvm.RoadKit
open Sem ClassFile Op Lib Jvm.Stand Jvm.Free Jvm.LawKit
section New
variable {p : Program} {l : Launch} {e : Env} {R : Room} {s : State} {m : MethodId} {args : Array Value} {below : List Frame} {meth : Method} {c : Code} {T : State} {locs : List Loc} {cells slots : Nat}
theorem retI (X : Stand p l e R s m args below meth c T locs cells slots) (hx : p.tables.exec = Jvm.exec) {pc : Nat} {Ls : Array Slot} {z : Int32} {rest : List Value} (hret : meth.sig.returnType = some .int) (hd : decode c.code pc = .ok (.ireturn, 1)) {fs : List Frame}
    (hl : ∀ (f : JFrame) (acts : List Action), f.method = m → f.locked = none → f.entered = [] → (doReturn e (T.setTop f) acts (some (.int z))).1 = T.setFrames fs) : Steps p.tables e below (T.setTop (mkF m pc Ls (.int z :: rest))) (T.setFrames fs) := by
  have hm' : T.vm.method? m = some meth := X.method'
  have hn : narrow .int (.int z) = .int z := rfl
  show Steps p.tables e below (T.setTop { method := m, pc := pc, locals := Ls, stack := _ :: rest, locked := none }) _
  jvm_step X.here [X.here.top, hx, hd, hm', hret, hn]
  first | (intro acts; rw [hl _ acts rfl rfl rfl]) | rw [hl _ _ rfl rfl rfl]
  exact Steps.refl _
theorem retD (X : Stand p l e R s m args below meth c T locs cells slots) (hx : p.tables.exec = Jvm.exec) {pc : Nat} {Ls : Array Slot} {z : UInt64} {rest : List Value} (hret : meth.sig.returnType = some .double) (hd : decode c.code pc = .ok (.dreturn, 1)) {fs : List Frame}
    (hl : ∀ (f : JFrame) (acts : List Action), f.method = m → f.locked = none → f.entered = [] → (doReturn e (T.setTop f) acts (some (.double z))).1 = T.setFrames fs) : Steps p.tables e below (T.setTop (mkF m pc Ls (.double z :: rest))) (T.setFrames fs) := by
  have hm' : T.vm.method? m = some meth := X.method'
  have hn : narrow .double (.double z) = .double z := rfl
  show Steps p.tables e below (T.setTop { method := m, pc := pc, locals := Ls, stack := _ :: rest, locked := none }) _
  jvm_step X.here [X.here.top, hx, hd, hm', hret, hn]
  first | (intro acts; rw [hl _ acts rfl rfl rfl]) | rw [hl _ _ rfl rfl rfl]
  exact Steps.refl _
theorem retJ (X : Stand p l e R s m args below meth c T locs cells slots) (hx : p.tables.exec = Jvm.exec) {pc : Nat} {Ls : Array Slot} {z : Int64} {rest : List Value} (hret : meth.sig.returnType = some .long) (hd : decode c.code pc = .ok (.lreturn, 1)) {fs : List Frame}
    (hl : ∀ (f : JFrame) (acts : List Action), f.method = m → f.locked = none → f.entered = [] → (doReturn e (T.setTop f) acts (some (.long z))).1 = T.setFrames fs) : Steps p.tables e below (T.setTop (mkF m pc Ls (.long z :: rest))) (T.setFrames fs) := by
  have hm' : T.vm.method? m = some meth := X.method'
  have hn : narrow .long (.long z) = .long z := rfl
  show Steps p.tables e below (T.setTop { method := m, pc := pc, locals := Ls, stack := _ :: rest, locked := none }) _
  jvm_step X.here [X.here.top, hx, hd, hm', hret, hn]
  first | (intro acts; rw [hl _ acts rfl rfl rfl]) | rw [hl _ _ rfl rfl rfl]
  exact Steps.refl _
end New
end Jvm.RoadKit
namespace Jvm.Pilot.@@N@@
open Jvm Jvm.ClassFile Sem Op Lib Jvm.Free Jvm.Stand Jvm.LawKit Jvm.RoadKit Bundle Jvm.Pilot.@@N@@.Jvm.D Jvm.Free.Fl
open Jvm.Free.XT (n32 succ32 add32n lt32 nlt32)

theorem own_cl (r : Option Ordering) : cmpValue r .l = 0 ↔ r = some .eq := by rcases r with _ | (_ | _ | _) <;> decide
theorem own_i2d_zero (a : Int32) : cmpValue (FP.dcmp (FP.i2d a) FP.dconst0) .l = 0 ↔ a = 0 := by
  rw [own_cl]
  have h1 : FP.Core.DInt a.toInt (FP.i2d a) := FP.Core.i2d_int a
  have h2 : FP.Core.DInt (0 : Int32).toInt FP.dconst0 := FP.Core.i2d_int 0
  rw [show FP.dcmp (FP.i2d a) FP.dconst0 = _ from FP.Core.dcmp_int h1 h2, Option.some.injEq, FP.Core.compare_eq_iff, Int32.toInt_inj]
theorem own_div_fin {a b : UInt64} {s : Bool} {c : Nat} {q : Int} (k : Nat) (ha : FP.Core.val64 a = .fin s c q) (hb : FP.Core.val64 b = .fin false (2 ^ 52) ((k : Int) - 52)) (hq : FP.Core.b64.qmin + k ≤ q) (hc : FP.Core.b64.tails ≤ c) :
    FP.Core.val64 (FP.ddiv a b) = .fin s c (q - k) := by
  have hf := FP.Core.val64_fits a
  rw [ha] at hf
  obtain ⟨f1, f2, f3, f4⟩ := hf
  show FP.Core.val64 (FP.Core.ddiv a b) = _
  rw [FP.Core.val64_ddiv, ha, hb]
  show (if (2 : Nat) ^ 52 = 0 then (if c = 0 then FP.Core.Datum.nan else FP.Core.Datum.inf (s != false)) else FP.Core.roundRatio FP.Core.b64 (s != false) c (2 ^ 52) (q - ((k : Int) - 52))) = _
  rw [if_neg (by decide), Bool.bne_false]
  rw [FP.Core.roundRatio_congr (B := 2 ^ 52) (A' := c) (B' := 1) (e' := q - k) (by decide) (by decide) (by
    have e1 : (q - ((k : Int) - 52) - (q - k)).toNat = 52 := by omega
    have e2 : (q - k - (q - ((k : Int) - 52))).toNat = 0 := by omega
    rw [e1, e2, Nat.mul_one, Nat.pow_zero, Nat.mul_one])]
  exact FP.Core.round_of_fits FP.Core.good_b64 (d := .fin s c (q - k)) ⟨f1, by omega, by omega, Or.inr hc⟩
theorem own_pow_lt {c E B : Nat} (hc : c < 2 ^ FP.Core.b64.p) (hE : E + 53 ≤ B) : c * 2 ^ E < 2 ^ B := by
  have h1 : c * 2 ^ E < 2 ^ FP.Core.b64.p * 2 ^ E := Nat.mul_lt_mul_of_pos_right hc (Nat.two_pow_pos _)
  rw [← Nat.pow_add] at h1
  exact Nat.lt_of_lt_of_le h1 (Nat.pow_le_pow_right (by decide) (by show 53 + E ≤ B; omega))
theorem own_dint_fin {n : Int} {a : UInt64} (h : FP.Core.DInt n a) (hn : n ≠ 0) : ∃ s c q, FP.Core.val64 a = .fin s c q ∧ FP.Core.b64.tails ≤ c ∧ -53 ≤ q := by
  have hz := FP.Core.DInt_zval h
  have hf := FP.Core.val64_fits a
  unfold FP.Core.DInt at h
  cases hv : FP.Core.val64 a with
  | nan => rw [hv] at h; exact h.elim
  | inf s => rw [hv] at h; exact h.elim
  | fin s c q =>
    rw [hv] at hf hz
    obtain ⟨f1, f2, f3, f4⟩ := hf
    refine ⟨s, c, q, rfl, ?_⟩
    have hu : c * 2 ^ (q - FP.Core.b64.qmin).toNat = n.natAbs * FP.Core.one64 := by
      have := congrArg Int.natAbs hz
      rw [Int.natAbs_mul, Int.natAbs_natCast] at this
      rw [← this]
      show _ = (FP.Core.signed s (FP.Core.inUnits c q FP.Core.b64.qmin)).natAbs
      rw [FP.Core.natAbs_signed]; rfl
    have h1 : FP.Core.one64 ≤ n.natAbs * FP.Core.one64 := Nat.le_mul_of_pos_left _ (by omega)
    have hp : (2 : Nat) ^ (-FP.Core.b64.qmin).toNat = FP.Core.one64 := FP.Core.pow_qmin64
    have e0 : FP.Core.b64.qmin = -1074 := FP.Core.qmin_b64
    have hq : -53 ≤ q := by
      refine Int.not_lt.mp fun hlt => ?_
      have h2 := own_pow_lt (c := c) (E := (q - FP.Core.b64.qmin).toNat) (B := (-FP.Core.b64.qmin).toNat) f1 (by omega)
      rw [hp, hu] at h2
      exact Nat.lt_irrefl _ (Nat.lt_of_lt_of_le h2 h1)
    refine ⟨?_, hq⟩
    rcases f4 with f4 | f4
    · omega
    · exact f4
theorem own_1024 : FP.Core.val64 4652218415073722368 = .fin false (2 ^ 52) (((10 : Nat) : Int) - 52) := by decide +kernel
theorem own_1024_fin : Fin64 4652218415073722368 := by unfold Fin64; decide
theorem own_1024_nz : Nz64 4652218415073722368 := by unfold Nz64; decide
theorem own_div_nn (a : Int32) : NoNaN64 (FP.ddiv (FP.i2d a) (4652218415073722368 : UInt64)) := ddiv_out (i2d_fin a).noNaN own_1024_fin own_1024_nz
theorem own_div_zero (a : Int32) : cmpValue (FP.dcmp (FP.ddiv (FP.i2d a) (4652218415073722368 : UInt64)) FP.dconst0) .l = 0 ↔ a = 0 := by
  by_cases h : a = 0
  · subst h; simp only [iff_true]; decide +kernel
  · simp only [h, iff_false]
    rw [own_cl]
    intro he
    have hz := (FP.Core.zero_iff (a := FP.ddiv (FP.i2d a) (4652218415073722368 : UInt64))).mp he
    obtain ⟨s, q, hz⟩ := hz
    have hn : a.toInt ≠ 0 := fun e => h (Int32.toInt_inj.mp e)
    obtain ⟨s', c, q', h1, h2, h3⟩ := own_dint_fin (FP.Core.i2d_int a) hn
    have e0 : FP.Core.b64.qmin = -1074 := FP.Core.qmin_b64
    have := own_div_fin 10 h1 own_1024 (by omega) h2
    rw [hz] at this
    cases this
    exact absurd h2 (by decide)
theorem own_nz : cmpValue (FP.dcmp (9223372036854775808 : UInt64) FP.dconst0) .l = 0 := by decide +kernel
theorem own_ninf_nz : ¬ cmpValue (FP.dcmp (18442240474082181120 : UInt64) FP.dconst0) .l = 0 := by decide +kernel
theorem own_ninf_ninf : cmpValue (FP.dcmp (18442240474082181120 : UInt64) (18442240474082181120 : UInt64)) .l = 0 := by decide +kernel
theorem own_pinf_ninf : ¬ cmpValue (FP.dcmp (FP.dneg (18442240474082181120 : UInt64)) (18442240474082181120 : UInt64)) .l = 0 := by decide +kernel
theorem own_nz_ninf : ¬ cmpValue (FP.dcmp (9223372036854775808 : UInt64) (18442240474082181120 : UInt64)) .l = 0 := by decide +kernel
theorem own_i2d_ninf (a : Int32) : ¬ cmpValue (FP.dcmp (FP.i2d a) (18442240474082181120 : UInt64)) .l = 0 := by
  rw [dcmp_ninf (i2d_fin a)]; decide
theorem own_and3 (x : Int32) : x &&& 3 = 0 ∨ x &&& 3 = 1 ∨ x &&& 3 = 2 ∨ x &&& 3 = 3 := by
  have h := c_mask x 3 2 (by decide) (by decide)
  have e : ∀ k : Int32, (x &&& 3).toInt = k.toInt → x &&& 3 = k := fun k h => Int32.toInt_inj.mp h
  have h1 := Int.emod_nonneg x.toInt (show ((2 ^ 2 : Nat) : Int) ≠ 0 by decide)
  have h2 := Int.emod_lt_of_pos x.toInt (show 0 < ((2 ^ 2 : Nat) : Int) by decide)
  rw [← h] at h1 h2
  have : (x &&& 3).toInt = 0 ∨ (x &&& 3).toInt = 1 ∨ (x &&& 3).toInt = 2 ∨ (x &&& 3).toInt = 3 := by
    have : (((2 ^ 2 : Nat) : Int)) = 4 := by decide
    omega
  rcases this with h | h | h | h
  · exact Or.inl (e 0 h)
  · exact Or.inr (Or.inl (e 1 h))
  · exact Or.inr (Or.inr (Or.inl (e 2 h)))
  · exact Or.inr (Or.inr (Or.inr (e 3 h)))
def own_held (lg cm : UInt64) : Int32 := if cmpValue (FP.dcmp lg FP.dconst0) .l = 0 then (if cmpValue (FP.dcmp cm (18442240474082181120 : UInt64)) .l = 0 then 1 else 0) else 1
theorem d1_0 : decode prog_96_method_11_code 0 = .ok (.aload_n 0, 1) := by decide +kernel
theorem d1_1 : decode prog_96_method_11_code 1 = .ok (.getfield 13, 3) := by decide +kernel
theorem d1_4 : decode prog_96_method_11_code 4 = .ok (.dreturn, 1) := by decide +kernel
theorem pn_1 : plainName "com/example/wildebeest/wildebeest/numeric/Probability" = true := by first | (simp [plainName, overriddenIn]; done) | decide +kernel
theorem ef_1 (m : MethodId) (x0 : Addr) : entryFrame m #[(.ref x0)] 1 = mkF m 0 #[.val (.ref x0)] [] := by first | (simp [entryFrame, mkF, argsToLocals, Value.category]; done) | rfl
def Q1 (Z : State) (a1 : Addr) (d1 : UInt64) (h0 : Heap) (n0 : Nat) (v : Option Value) (h : Heap) (L : List Loc) : Prop := v = some (.double d1) ∧ Fr n0 L ∧ h = h0
set_option maxRecDepth 65536 in
set_option maxHeartbeats 40000000 in
theorem rm1 (l : Launch) (Z : State) (a0 : Array Value) (hw : ∀ d ∈ tables_1, d.before a0 Z = true) (ws : List Jvm.Cond) (a1 : Addr) (d1 : UInt64) (h0 : Heap) (n0 : Nat) (Z0 : n0 ≤ h0.size) (F1 : Fld Z h0 a1 "com/example/wildebeest/wildebeest/numeric/Probability" "complementLogarithm" "D" (.double d1)) :
    MetFree l (⟨"com/example/wildebeest/wildebeest/numeric/Probability", "complementLogarithm", "()D"⟩ : MethodName) (head1 (Jvm.Cond.code (⟨"com/example/wildebeest/wildebeest/numeric/Probability", "complementLogarithm", "()D"⟩ : MethodName) prog_96_method_11_code 1 (some .double) :: ws) ({ frames := 0, cells := 0, slots := 0, locals := 0 } : Room)) (fun a U => a = #[(.ref a1)] ∧ Z.Warmed39 U.vm ∧ U.heap = h0) (fun _ _ _ _ _ => True) (fun _ U o U' => ∃ v L, o = .returned v ∧ Q1 Z a1 d1 h0 n0 v U'.heap L ∧ FrameEnd U o U' L ({ frames := 0, cells := 0, slots := 0, locals := 0 } : Room).cells ({ frames := 0, cells := 0, slots := 0, locals := 0 } : Room).slots) := by
  refine MetFree.of_bodySF (plainFor_of_name pn_1) hisR ?_
  intro p e s m args below meth c s₁ Bd hml0 hP hK
  obtain ⟨rfl, hZ, hh⟩ := hP
  have hx := Bd.exec
  have hby := Bd.bytes
  have hml : c.maxLocals = 1 := hml0
  have hown : s.vm.findClass "com/example/wildebeest/wildebeest/numeric/Probability" = some m.cls := findClass_of_methodNamed Bd.named
  have hnm := (name_of_methodNamed Bd.named Bd.method).1
  have X0 : Stand p l e ({ frames := 0, cells := 0, slots := 0, locals := 0 } : Room) s m #[(.ref a1)] below meth c s₁ [] 0 0 := Stand.of_body Bd
  have e0 : s₁.heap = h0 := by rw [← hh, Bd.state]; rfl
  have N0 := Fr.nil n0
  have pre0 : ∀ t, Steps p.tables e below (s₁.setTop (mkF m 0 #[.val (.ref a1)] [])) t → Steps p.tables e below (s₁.setTop (entryFrame m #[(.ref a1)] 1)) t := fun t kq0 => castTop (ef_1 m a1) kq0
  have sg1 : ∀ t, Steps p.tables e below (s₁.setTop (mkF m 1 #[.val (.ref a1)] [(.ref a1)])) t → Steps p.tables e below (s₁.setTop (mkF m 0 #[.val (.ref a1)] [])) t := by
    intro t kt
    refine XS.aloadN X0.here hx rfl (hb hby d1_0) rfl rfl ?_
    exact kt
  obtain ⟨T2, X2, e2, st2⟩ := getF X0 hx hZ hown (host := "") (Or.inl (hw _ (List.mem_of_getElem? (i := 8) rfl))) Via.refl e0 F1 (g := (mkF m 1 #[.val (.ref a1)] [(.ref a1)])) rfl rfl (hb hby d1_1)
  obtain ⟨fs, hr, hrun, hended, hW, hsame⟩ := X2.leave (v := some (.double d1)) (fun h => by rw [Bd.returns] at h; cases h)
  refine ⟨_, _, pre0 _ ?_, hrun, hended, _, _, rfl, ?_, ⟨_, rfl⟩, hW, hsame.mono (by decide) (by decide)⟩
  · refine sg1 _ ?_
    refine st2 _ ?_
    exact retD X2 hx Bd.returns (hb hby d1_4) hr
  · show Q1 Z a1 d1 h0 n0 _ T2.heap _
    rw [e2]; exact ⟨rfl, N0, rfl⟩
theorem d3_0 : decode jdk_30_method_1_code 0 = .ok (.aload_n 0, 1) := by decide +kernel
theorem d3_1 : decode jdk_30_method_1_code 1 = .ok (.invokespecial 1, 3) := by decide +kernel
theorem d3_4 : decode jdk_30_method_1_code 4 = .ok (.return_, 1) := by decide +kernel
theorem pn_3 : plainName "java/lang/Record" = true := by first | (simp [plainName, overriddenIn]; done) | decide +kernel
theorem ef_3 (m : MethodId) (x0 : Addr) : entryFrame m #[(.ref x0)] 1 = mkF m 0 #[.val (.ref x0)] [] := by first | (simp [entryFrame, mkF, argsToLocals, Value.category]; done) | rfl
def Q3 (Z : State) (a1 : Addr) (h0 : Heap) (n0 : Nat) (v : Option Value) (h : Heap) (L : List Loc) : Prop := v = none ∧ Fr n0 L ∧ h = h0
set_option maxRecDepth 65536 in
set_option maxHeartbeats 40000000 in
theorem rm3 (l : Launch) (Z : State) (a0 : Array Value) (hw : ∀ d ∈ tables_1, d.before a0 Z = true) (ws : List Jvm.Cond) (a1 : Addr) (h0 : Heap) (n0 : Nat) (Z0 : n0 ≤ h0.size)  :
    MetFree l (⟨"java/lang/Record", "<init>", "()V"⟩ : MethodName) (head1 (Jvm.Cond.code (⟨"java/lang/Record", "<init>", "()V"⟩ : MethodName) jdk_30_method_1_code 1 none :: ws) ({ frames := 1, cells := 0, slots := 0, locals := 12 } : Room)) (fun a U => a = #[(.ref a1)] ∧ Z.Warmed39 U.vm ∧ U.heap = h0) (fun _ _ _ _ _ => True) (fun _ U o U' => ∃ v L, o = .returned v ∧ Q3 Z a1 h0 n0 v U'.heap L ∧ FrameEnd U o U' L ({ frames := 1, cells := 0, slots := 0, locals := 12 } : Room).cells ({ frames := 1, cells := 0, slots := 0, locals := 12 } : Room).slots) := by
  refine MetFree.of_bodySF (plainFor_of_name pn_3) hisR ?_
  intro p e s m args below meth c s₁ Bd hml0 hP hK
  obtain ⟨rfl, hZ, hh⟩ := hP
  have hx := Bd.exec
  have hby := Bd.bytes
  have hml : c.maxLocals = 1 := hml0
  have hown : s.vm.findClass "java/lang/Record" = some m.cls := findClass_of_methodNamed Bd.named
  have hnm := (name_of_methodNamed Bd.named Bd.method).1
  have X0 : Stand p l e ({ frames := 1, cells := 0, slots := 0, locals := 12 } : Room) s m #[(.ref a1)] below meth c s₁ [] 0 0 := Stand.of_body Bd
  have e0 : s₁.heap = h0 := by rw [← hh, Bd.state]; rfl
  have N0 := Fr.nil n0
  have pre0 : ∀ t, Steps p.tables e below (s₁.setTop (mkF m 0 #[.val (.ref a1)] [])) t → Steps p.tables e below (s₁.setTop (entryFrame m #[(.ref a1)] 1)) t := fun t kq0 => castTop (ef_3 m a1) kq0
  have sg1 : ∀ t, Steps p.tables e below (s₁.setTop (mkF m 1 #[.val (.ref a1)] [(.ref a1)])) t → Steps p.tables e below (s₁.setTop (mkF m 0 #[.val (.ref a1)] [])) t := by
    intro t kt
    refine XS.aloadN X0.here hx rfl (hb hby d3_0) rfl rfl ?_
    exact kt
  obtain ⟨T2, X2, e2, st2⟩ := initO X0 hx hZ hown (hw _ (List.mem_of_getElem? (i := 20) rfl)) (hw _ (List.mem_of_getElem? (i := 21) rfl)) (hw _ (List.mem_of_getElem? (i := 22) rfl)) e0 (g := (mkF m 1 #[.val (.ref a1)] [(.ref a1)])) rfl (by rw [hml]; rfl) rfl (hb hby d3_1) (by decide) (W := 0) (by show 2 * 0 + _ ≤ _; exact Nat.le_of_eq rfl) (by decide)
  obtain ⟨fs, hr, hrun, hended, hW, hsame⟩ := X2.leave (v := none) (fun _ => rfl)
  refine ⟨_, _, pre0 _ ?_, hrun, hended, _, _, rfl, ?_, ⟨_, rfl⟩, hW, hsame.mono (by decide) (by decide)⟩
  · refine sg1 _ ?_
    refine st2 _ ?_
    exact X2.returnOut hx Bd.returns (hb hby d3_4) hr
  · show Q3 Z a1 h0 n0 _ T2.heap _
    rw [e2]; exact ⟨rfl, N0, rfl⟩
theorem d2_0 : decode prog_96_method_1_code 0 = .ok (.aload_n 0, 1) := by decide +kernel
theorem d2_1 : decode prog_96_method_1_code 1 = .ok (.invokespecial 1, 3) := by decide +kernel
theorem d2_4 : decode prog_96_method_1_code 4 = .ok (.aload_n 0, 1) := by decide +kernel
theorem d2_5 : decode prog_96_method_1_code 5 = .ok (.dload_n 1, 1) := by decide +kernel
theorem d2_6 : decode prog_96_method_1_code 6 = .ok (.putfield 7, 3) := by decide +kernel
theorem d2_9 : decode prog_96_method_1_code 9 = .ok (.aload_n 0, 1) := by decide +kernel
theorem d2_10 : decode prog_96_method_1_code 10 = .ok (.dload_n 3, 1) := by decide +kernel
theorem d2_11 : decode prog_96_method_1_code 11 = .ok (.putfield 13, 3) := by decide +kernel
theorem d2_14 : decode prog_96_method_1_code 14 = .ok (.return_, 1) := by decide +kernel
theorem pn_2 : plainName "com/example/wildebeest/wildebeest/numeric/Probability" = true := by first | (simp [plainName, overriddenIn]; done) | decide +kernel
theorem ef_2 (m : MethodId) (x0 : Addr) (x1 : UInt64) (x2 : UInt64) : entryFrame m #[(.ref x0), (.double x1), (.double x2)] 5 = mkF m 0 #[.val (.ref x0), .val (.double x1), .second, .val (.double x2), .second] [] := by first | (simp [entryFrame, mkF, argsToLocals, Value.category]; done) | rfl
theorem pd_0 : parseMethodDescriptor "()V" = some ⟨[], none⟩ := by decide +kernel
def Q2 (Z : State) (a1 : Addr) (lg cm : UInt64) (h0 : Heap) (n0 : Nat) (v : Option Value) (h : Heap) (L : List Loc) : Prop := v = none ∧ Fr n0 L ∧ Keep h0 h [a1] ∧ Exa Z h a1 "com/example/wildebeest/wildebeest/numeric/Probability" ∧ Fld Z h a1 "com/example/wildebeest/wildebeest/numeric/Probability" "logarithm" "D" (.double lg) ∧ Fld Z h a1 "com/example/wildebeest/wildebeest/numeric/Probability" "complementLogarithm" "D" (.double cm)
set_option maxRecDepth 65536 in
set_option maxHeartbeats 40000000 in
theorem rm2 (l : Launch) (Z : State) (a0 : Array Value) (hw : ∀ d ∈ tables_1, d.before a0 Z = true) (ws : List Jvm.Cond) (a1 : Addr) (lg cm : UInt64) (h0 : Heap) (n0 : Nat) (Z0 : n0 ≤ h0.size) (E1 : Exa Z h0 a1 "com/example/wildebeest/wildebeest/numeric/Probability") (Fl : Fld Z h0 a1 "com/example/wildebeest/wildebeest/numeric/Probability" "logarithm" "D" (.double (0 : UInt64))) (Fc : Fld Z h0 a1 "com/example/wildebeest/wildebeest/numeric/Probability" "complementLogarithm" "D" (.double (0 : UInt64))) (g_a1 : n0 ≤ a1) :
    MetFree l (⟨"com/example/wildebeest/wildebeest/numeric/Probability", "<init>", "(DD)V"⟩ : MethodName) (head1 (Jvm.Cond.code (⟨"com/example/wildebeest/wildebeest/numeric/Probability", "<init>", "(DD)V"⟩ : MethodName) prog_96_method_1_code 5 none :: ws) ({ frames := 2, cells := 0, slots := 0, locals := 24 } : Room)) (fun a U => a = #[(.ref a1), (.double lg), (.double cm)] ∧ Z.Warmed39 U.vm ∧ U.heap = h0) (fun _ _ _ _ _ => True) (fun _ U o U' => ∃ v L, o = .returned v ∧ Q2 Z a1 lg cm h0 n0 v U'.heap L ∧ FrameEnd U o U' L ({ frames := 2, cells := 0, slots := 0, locals := 24 } : Room).cells ({ frames := 2, cells := 0, slots := 0, locals := 24 } : Room).slots) := by
  refine MetFree.of_bodySF (plainFor_of_name pn_2) hisR ?_
  intro p e s m args below meth c s₁ Bd hml0 hP hK
  obtain ⟨rfl, hZ, hh⟩ := hP
  have hx := Bd.exec
  have hby := Bd.bytes
  have hml : c.maxLocals = 5 := hml0
  have hown : s.vm.findClass "com/example/wildebeest/wildebeest/numeric/Probability" = some m.cls := findClass_of_methodNamed Bd.named
  have hnm := (name_of_methodNamed Bd.named Bd.method).1
  have X0 : Stand p l e ({ frames := 2, cells := 0, slots := 0, locals := 24 } : Room) s m #[(.ref a1), (.double lg), (.double cm)] below meth c s₁ [] 0 0 := Stand.of_body Bd
  have e0 : s₁.heap = h0 := by rw [← hh, Bd.state]; rfl
  have N0 := Fr.nil n0
  have pre0 : ∀ t, Steps p.tables e below (s₁.setTop (mkF m 0 #[.val (.ref a1), .val (.double lg), .second, .val (.double cm), .second] [])) t → Steps p.tables e below (s₁.setTop (entryFrame m #[(.ref a1), (.double lg), (.double cm)] 5)) t := fun t kq0 => castTop (ef_2 m a1 lg cm) kq0
  have K1 := Keep.refl h0 [a1]
  have sg2 : ∀ t, Steps p.tables e below (s₁.setTop (mkF m 1 #[.val (.ref a1), .val (.double lg), .second, .val (.double cm), .second] [(.ref a1)])) t → Steps p.tables e below (s₁.setTop (mkF m 0 #[.val (.ref a1), .val (.double lg), .second, .val (.double cm), .second] [])) t := by
    intro t kt
    refine XS.aloadN X0.here hx rfl (hb hby d2_0) rfl rfl ?_
    exact kt
  obtain ⟨_, _, ⟨T3, L3, k3, n3⟩, -, X3, ⟨Lc3, hQ3, l3, y3, z3⟩, st3⟩ := X0.specialBack hx (y := (⟨"java/lang/Record", "<init>", "()V"⟩ : MethodName)) rfl hown (mvT hZ (hw _ (List.mem_of_getElem? (i := 15) rfl))) (mvT hZ (hw _ (List.mem_of_getElem? (i := 16) rfl))) (mvT hZ (hw _ (List.mem_of_getElem? (i := 19) rfl))) (by decide) (backOf (W := 0) (rm3 l Z a0 hw [] a1 h0 n0 Z0 ) hZ (hw _ (List.mem_of_getElem? (i := 19) rfl)) (hw _ (List.mem_of_getElem? (i := 18) rfl)) (by decide) (by decide)) (g := (mkF m 1 #[.val (.ref a1), .val (.double lg), .second, .val (.double cm), .second] [(.ref a1)])) rfl (by rw [hml]; rfl) (Steps.refl _) (a := a1) (argsL := []) (rest := []) (lenOf pd_0 rfl) rfl (by show 2 * 0 + _ ≤ _; exact Nat.le_of_eq rfl) (hb hby d2_1) (fun _ _ => ⟨rfl, e0, (by decide : 0 + 0 ≤ _), (by decide : 0 + 0 ≤ _)⟩)
  dsimp only [Pt.U, Pt.locs, Pt.cells, Pt.slots] at X3 l3 y3 z3 st3 hQ3
  subst l3 y3 z3
  obtain ⟨rfl, Nq3, eq3⟩ := hQ3
  have N3 := Fr.app N0 Nq3
  have sg4 : ∀ t, Steps p.tables e below (T3.setTop (mkF m 6 #[.val (.ref a1), .val (.double lg), .second, .val (.double cm), .second] [(.double lg), (.ref a1)])) t → Steps p.tables e below (T3.setTop (mkF m 4 #[.val (.ref a1), .val (.double lg), .second, .val (.double cm), .second] [])) t := by
    intro t kt
    refine XS.aloadN X3.here hx rfl (hb hby d2_4) rfl rfl ?_
    show Steps p.tables e below (T3.setTop (mkF m 5 #[.val (.ref a1), .val (.double lg), .second, .val (.double cm), .second] [(.ref a1)])) _
    refine XS.dloadN X3.here hx rfl (hb hby d2_5) rfl ?_
    exact kt
  obtain ⟨T5, h5, X5, e5, W5, st5⟩ := putF X3 hx hZ hown (host := "") (Or.inl (hw _ (List.mem_of_getElem? (i := 23) rfl))) Via.refl eq3 Fl E1 (Or.inr ⟨(hw _ (List.mem_of_getElem? (i := 24) rfl)), rfl, hnm⟩) (hw _ (List.mem_of_getElem? (i := 11) rfl)) (ty := .double) (by decide) rfl rfl (g := (mkF m 6 #[.val (.ref a1), .val (.double lg), .second, .val (.double cm), .second] [(.double lg), (.ref a1)])) rfl rfl (hb hby d2_6)
  have N5 := Fr.snoc X5 N3 g_a1
  have K6 := K1.wr W5 (Or.inl (List.mem_of_getElem? (i := 0) rfl))
  have f7 := (Fc.other W5 (Or.inr (slot_ne (Or.inr (hw _ (List.mem_of_getElem? (i := 9) rfl))) (Or.inr (hw _ (List.mem_of_getElem? (i := 24) rfl))) (by decide) (t := .double) (t' := .double) (by decide) (by decide))))
  have f8 := (Fl.same W5)
  have f9 := (E1.wr W5)
  have sg10 : ∀ t, Steps p.tables e below (T5.setTop (mkF m 11 #[.val (.ref a1), .val (.double lg), .second, .val (.double cm), .second] [(.double cm), (.ref a1)])) t → Steps p.tables e below (T5.setTop (mkF m 9 #[.val (.ref a1), .val (.double lg), .second, .val (.double cm), .second] [])) t := by
    intro t kt
    refine XS.aloadN X5.here hx rfl (hb hby d2_9) rfl rfl ?_
    show Steps p.tables e below (T5.setTop (mkF m 10 #[.val (.ref a1), .val (.double lg), .second, .val (.double cm), .second] [(.ref a1)])) _
    refine XS.dloadN X5.here hx rfl (hb hby d2_10) rfl ?_
    exact kt
  obtain ⟨T11, h11, X11, e11, W11, st11⟩ := putF X5 hx hZ hown (host := "") (Or.inl (hw _ (List.mem_of_getElem? (i := 8) rfl))) Via.refl e5 f7 f9 (Or.inr ⟨(hw _ (List.mem_of_getElem? (i := 9) rfl)), rfl, hnm⟩) (hw _ (List.mem_of_getElem? (i := 11) rfl)) (ty := .double) (by decide) rfl rfl (g := (mkF m 11 #[.val (.ref a1), .val (.double lg), .second, .val (.double cm), .second] [(.double cm), (.ref a1)])) rfl rfl (hb hby d2_11)
  have N11 := Fr.snoc X11 N5 g_a1
  have K12 := K6.wr W11 (Or.inl (List.mem_of_getElem? (i := 0) rfl))
  have f13 := (f7.same W11)
  have f14 := (f8.other W11 (Or.inr (slot_ne (Or.inr (hw _ (List.mem_of_getElem? (i := 24) rfl))) (Or.inr (hw _ (List.mem_of_getElem? (i := 9) rfl))) (by decide) (t := .double) (t' := .double) (by decide) (by decide))))
  have f15 := (f9.wr W11)
  obtain ⟨fs, hr, hrun, hended, hW, hsame⟩ := X11.leave (v := none) (fun _ => rfl)
  refine ⟨_, _, pre0 _ ?_, hrun, hended, _, _, rfl, ?_, ⟨_, rfl⟩, hW, hsame.mono (by decide) (by decide)⟩
  · refine sg2 _ ?_
    refine st3.trans ?_
    refine sg4 _ ?_
    refine st5 _ ?_
    refine sg10 _ ?_
    refine st11 _ ?_
    exact X11.returnOut hx Bd.returns (hb hby d2_14) hr
  · show Q2 Z a1 lg cm h0 n0 _ T11.heap _
    rw [e11]; exact ⟨rfl, N11, K12, f15, f14, f13⟩
theorem d5_0 : decode prog_96_method_5_code 0 = .ok (.aload_n 0, 1) := by decide +kernel
theorem d5_1 : decode prog_96_method_5_code 1 = .ok (.getfield 7, 3) := by decide +kernel
theorem d5_4 : decode prog_96_method_5_code 4 = .ok (.dconst 0, 1) := by decide +kernel
theorem d5_5 : decode prog_96_method_5_code 5 = .ok (.dcmp .l, 1) := by decide +kernel
theorem d5_6 : decode prog_96_method_5_code 6 = .ok (.ifCond .ne 14, 3) := by decide +kernel
theorem d5_9 : decode prog_96_method_5_code 9 = .ok (.aload_n 0, 1) := by decide +kernel
theorem d5_10 : decode prog_96_method_5_code 10 = .ok (.getfield 13, 3) := by decide +kernel
theorem d5_13 : decode prog_96_method_5_code 13 = .ok (.ldc2_w 67, 3) := by decide +kernel
theorem d5_16 : decode prog_96_method_5_code 16 = .ok (.dcmp .l, 1) := by decide +kernel
theorem d5_17 : decode prog_96_method_5_code 17 = .ok (.ifCond .ne 7, 3) := by decide +kernel
theorem d5_20 : decode prog_96_method_5_code 20 = .ok (.iconst 1, 1) := by decide +kernel
theorem d5_21 : decode prog_96_method_5_code 21 = .ok (.goto 4, 3) := by decide +kernel
theorem d5_24 : decode prog_96_method_5_code 24 = .ok (.iconst 0, 1) := by decide +kernel
theorem d5_25 : decode prog_96_method_5_code 25 = .ok (.ireturn, 1) := by decide +kernel
theorem pn_5 : plainName "com/example/wildebeest/wildebeest/numeric/Probability" = true := by first | (simp [plainName, overriddenIn]; done) | decide +kernel
theorem ef_5 (m : MethodId) (x0 : Addr) : entryFrame m #[(.ref x0)] 1 = mkF m 0 #[.val (.ref x0)] [] := by first | (simp [entryFrame, mkF, argsToLocals, Value.category]; done) | rfl
def Q5 (Z : State) (a1 : Addr) (lg cm : UInt64) (h0 : Heap) (n0 : Nat) (v : Option Value) (h : Heap) (L : List Loc) : Prop := v = some (.int (own_held lg cm)) ∧ Fr n0 L ∧ h = h0
set_option maxRecDepth 65536 in
set_option maxHeartbeats 40000000 in
theorem rm5 (l : Launch) (Z : State) (a0 : Array Value) (hw : ∀ d ∈ tables_1, d.before a0 Z = true) (ws : List Jvm.Cond) (a1 : Addr) (lg cm : UInt64) (h0 : Heap) (n0 : Nat) (Z0 : n0 ≤ h0.size) (Fl : Fld Z h0 a1 "com/example/wildebeest/wildebeest/numeric/Probability" "logarithm" "D" (.double lg)) (Fc : Fld Z h0 a1 "com/example/wildebeest/wildebeest/numeric/Probability" "complementLogarithm" "D" (.double cm)) :
    MetFree l (⟨"com/example/wildebeest/wildebeest/numeric/Probability", "isLogarithmHeld", "()Z"⟩ : MethodName) (head1 (Jvm.Cond.code (⟨"com/example/wildebeest/wildebeest/numeric/Probability", "isLogarithmHeld", "()Z"⟩ : MethodName) prog_96_method_5_code 1 (some .boolean) :: ws) ({ frames := 0, cells := 0, slots := 0, locals := 0 } : Room)) (fun a U => a = #[(.ref a1)] ∧ Z.Warmed39 U.vm ∧ U.heap = h0) (fun _ _ _ _ _ => True) (fun _ U o U' => ∃ v L, o = .returned v ∧ Q5 Z a1 lg cm h0 n0 v U'.heap L ∧ FrameEnd U o U' L ({ frames := 0, cells := 0, slots := 0, locals := 0 } : Room).cells ({ frames := 0, cells := 0, slots := 0, locals := 0 } : Room).slots) := by
  refine MetFree.of_bodySF (plainFor_of_name pn_5) hisR ?_
  intro p e s m args below meth c s₁ Bd hml0 hP hK
  obtain ⟨rfl, hZ, hh⟩ := hP
  have hx := Bd.exec
  have hby := Bd.bytes
  have hml : c.maxLocals = 1 := hml0
  have hown : s.vm.findClass "com/example/wildebeest/wildebeest/numeric/Probability" = some m.cls := findClass_of_methodNamed Bd.named
  have hnm := (name_of_methodNamed Bd.named Bd.method).1
  have X0 : Stand p l e ({ frames := 0, cells := 0, slots := 0, locals := 0 } : Room) s m #[(.ref a1)] below meth c s₁ [] 0 0 := Stand.of_body Bd
  have e0 : s₁.heap = h0 := by rw [← hh, Bd.state]; rfl
  have N0 := Fr.nil n0
  have pre0 : ∀ t, Steps p.tables e below (s₁.setTop (mkF m 0 #[.val (.ref a1)] [])) t → Steps p.tables e below (s₁.setTop (entryFrame m #[(.ref a1)] 1)) t := fun t kq0 => castTop (ef_5 m a1) kq0
  have sg1 : ∀ t, Steps p.tables e below (s₁.setTop (mkF m 1 #[.val (.ref a1)] [(.ref a1)])) t → Steps p.tables e below (s₁.setTop (mkF m 0 #[.val (.ref a1)] [])) t := by
    intro t kt
    refine XS.aloadN X0.here hx rfl (hb hby d5_0) rfl rfl ?_
    exact kt
  obtain ⟨T2, X2, e2, st2⟩ := getF X0 hx hZ hown (host := "") (Or.inl (hw _ (List.mem_of_getElem? (i := 23) rfl))) Via.refl e0 Fl (g := (mkF m 1 #[.val (.ref a1)] [(.ref a1)])) rfl rfl (hb hby d5_1)
  have sg3 : ∀ t, Steps p.tables e below (T2.setTop (mkF m 6 #[.val (.ref a1)] [(.int (cmpValue (FP.dcmp lg (FP.dconst0)) .l))])) t → Steps p.tables e below (T2.setTop (mkF m 4 #[.val (.ref a1)] [(.double lg)])) t := by
    intro t kt
    refine XS.dconst0 X2.here hx rfl (hb hby d5_4) (v := (FP.dconst0)) rfl ?_
    show Steps p.tables e below (T2.setTop (mkF m 5 #[.val (.ref a1)] [(.double (FP.dconst0)), (.double lg)])) _
    refine XS.dcmpS X2.here hx rfl (hb hby d5_5) rfl (v := (cmpValue (FP.dcmp lg (FP.dconst0)) .l)) rfl ?_
    exact kt
  by_cases c6 : cmpValue (FP.dcmp lg FP.dconst0) .l = 0
  · have sg4 : ∀ t, Steps p.tables e below (T2.setTop (mkF m 10 #[.val (.ref a1)] [(.ref a1)])) t → Steps p.tables e below (T2.setTop (mkF m 6 #[.val (.ref a1)] [(.int (cmpValue (FP.dcmp lg (FP.dconst0)) .l))])) t := by
      intro t kt
      refine XS.ifNo X2.here hx rfl (hb hby d5_6) rfl ((if0 _ _).trans (teq (c6 : (cmpValue (FP.dcmp lg (FP.dconst0)) .l) = (0 : Int32))).2) ?_
      show Steps p.tables e below (T2.setTop (mkF m 9 #[.val (.ref a1)] [])) _
      refine XS.aloadN X2.here hx rfl (hb hby d5_9) rfl rfl ?_
      exact kt
    obtain ⟨T5, X5, e5, st5⟩ := getF X2 hx hZ hown (host := "") (Or.inl (hw _ (List.mem_of_getElem? (i := 8) rfl))) Via.refl e2 Fc (g := (mkF m 10 #[.val (.ref a1)] [(.ref a1)])) rfl rfl (hb hby d5_10)
    have sg6 : ∀ t, Steps p.tables e below (T5.setTop (mkF m 17 #[.val (.ref a1)] [(.int (cmpValue (FP.dcmp cm (18442240474082181120 : UInt64)) .l))])) t → Steps p.tables e below (T5.setTop (mkF m 13 #[.val (.ref a1)] [(.double cm)])) t := by
      intro t kt
      refine X5.ldc2DoubleC hx hown (mvT hZ (hw _ (List.mem_of_getElem? (i := 32) rfl))) (g := (mkF m 13 #[.val (.ref a1)] [(.double cm)])) rfl (hb hby d5_13) _ ?_
      show Steps p.tables e below (T5.setTop (mkF m 16 #[.val (.ref a1)] [(.double (18442240474082181120 : UInt64)), (.double cm)])) _
      refine XS.dcmpS X5.here hx rfl (hb hby d5_16) rfl (v := (cmpValue (FP.dcmp cm (18442240474082181120 : UInt64)) .l)) rfl ?_
      exact kt
    by_cases c17 : cmpValue (FP.dcmp cm (18442240474082181120 : UInt64)) .l = 0
    · have sg7 : ∀ t, Steps p.tables e below (T5.setTop (mkF m 25 #[.val (.ref a1)] [(.int (1 : Int32))])) t → Steps p.tables e below (T5.setTop (mkF m 17 #[.val (.ref a1)] [(.int (cmpValue (FP.dcmp cm (18442240474082181120 : UInt64)) .l))])) t := by
        intro t kt
        refine XS.ifNo X5.here hx rfl (hb hby d5_17) rfl ((if0 _ _).trans (teq (c17 : (cmpValue (FP.dcmp cm (18442240474082181120 : UInt64)) .l) = (0 : Int32))).2) ?_
        show Steps p.tables e below (T5.setTop (mkF m 20 #[.val (.ref a1)] [])) _
        refine XS.iconst X5.here hx rfl (hb hby d5_20) ?_
        show Steps p.tables e below (T5.setTop (mkF m 21 #[.val (.ref a1)] [(.int (1 : Int32))])) _
        refine XS.goto X5.here hx rfl (pc0 := 21) (pc' := 25) rfl (hb hby d5_21) (by decide) (by decide) ?_
        exact kt
      obtain ⟨fs, hr, hrun, hended, hW, hsame⟩ := X5.leave (v := some (.int 1)) (fun h => by rw [Bd.returns] at h; cases h)
      refine ⟨_, _, pre0 _ ?_, hrun, hended, _, _, rfl, ?_, ⟨_, rfl⟩, hW, hsame.mono (by decide) (by decide)⟩
      · refine sg1 _ ?_
        refine st2 _ ?_
        refine sg3 _ ?_
        refine sg4 _ ?_
        refine st5 _ ?_
        refine sg6 _ ?_
        refine sg7 _ ?_
        exact retN X5 hx (t := .boolean) Bd.returns (by simp) (hb hby d5_25) hr
      · show Q5 Z a1 lg cm h0 n0 _ T5.heap _
        rw [e5]; exact ⟨by simp [own_held, c6, c17], N0, rfl⟩
    · have sg7 : ∀ t, Steps p.tables e below (T5.setTop (mkF m 25 #[.val (.ref a1)] [(.int (0 : Int32))])) t → Steps p.tables e below (T5.setTop (mkF m 17 #[.val (.ref a1)] [(.int (cmpValue (FP.dcmp cm (18442240474082181120 : UInt64)) .l))])) t := by
        intro t kt
        refine XS.ifYes X5.here hx rfl (pc0 := 17) (pc' := 24) rfl (hb hby d5_17) rfl ((if0 _ _).trans (feq (c17 : ¬ ((cmpValue (FP.dcmp cm (18442240474082181120 : UInt64)) .l) = (0 : Int32)))).2) (by decide) (by decide) ?_
        show Steps p.tables e below (T5.setTop (mkF m 24 #[.val (.ref a1)] [])) _
        refine XS.iconst X5.here hx rfl (hb hby d5_24) ?_
        exact kt
      obtain ⟨fs, hr, hrun, hended, hW, hsame⟩ := X5.leave (v := some (.int 0)) (fun h => by rw [Bd.returns] at h; cases h)
      refine ⟨_, _, pre0 _ ?_, hrun, hended, _, _, rfl, ?_, ⟨_, rfl⟩, hW, hsame.mono (by decide) (by decide)⟩
      · refine sg1 _ ?_
        refine st2 _ ?_
        refine sg3 _ ?_
        refine sg4 _ ?_
        refine st5 _ ?_
        refine sg6 _ ?_
        refine sg7 _ ?_
        exact retN X5 hx (t := .boolean) Bd.returns (by simp) (hb hby d5_25) hr
      · show Q5 Z a1 lg cm h0 n0 _ T5.heap _
        rw [e5]; exact ⟨by simp [own_held, c6, c17], N0, rfl⟩
  · have sg4 : ∀ t, Steps p.tables e below (T2.setTop (mkF m 25 #[.val (.ref a1)] [(.int (1 : Int32))])) t → Steps p.tables e below (T2.setTop (mkF m 6 #[.val (.ref a1)] [(.int (cmpValue (FP.dcmp lg (FP.dconst0)) .l))])) t := by
      intro t kt
      refine XS.ifYes X2.here hx rfl (pc0 := 6) (pc' := 20) rfl (hb hby d5_6) rfl ((if0 _ _).trans (feq (c6 : ¬ ((cmpValue (FP.dcmp lg (FP.dconst0)) .l) = (0 : Int32)))).2) (by decide) (by decide) ?_
      show Steps p.tables e below (T2.setTop (mkF m 20 #[.val (.ref a1)] [])) _
      refine XS.iconst X2.here hx rfl (hb hby d5_20) ?_
      show Steps p.tables e below (T2.setTop (mkF m 21 #[.val (.ref a1)] [(.int (1 : Int32))])) _
      refine XS.goto X2.here hx rfl (pc0 := 21) (pc' := 25) rfl (hb hby d5_21) (by decide) (by decide) ?_
      exact kt
    obtain ⟨fs, hr, hrun, hended, hW, hsame⟩ := X2.leave (v := some (.int 1)) (fun h => by rw [Bd.returns] at h; cases h)
    refine ⟨_, _, pre0 _ ?_, hrun, hended, _, _, rfl, ?_, ⟨_, rfl⟩, hW, hsame.mono (by decide) (by decide)⟩
    · refine sg1 _ ?_
      refine st2 _ ?_
      refine sg3 _ ?_
      refine sg4 _ ?_
      exact retN X2 hx (t := .boolean) Bd.returns (by simp) (hb hby d5_25) hr
    · show Q5 Z a1 lg cm h0 n0 _ T2.heap _
      rw [e2]; exact ⟨by simp [own_held, c6], N0, rfl⟩
theorem pn_0 : plainName "com/example/wildebeest/wildebeest/numeric/ProbabilityIsLogarithmHeldPinLaw" = true := by first | (simp [plainName, overriddenIn]; done) | decide +kernel
theorem ef_0 (m : MethodId) (x0 : Int32) (x1 : Int32) (x2 : Int32) : entryFrame m #[(.int x0), (.int x1), (.int x2)] maxLocals = mkF m 0 #[.val (.int x0), .val (.int x1), .val (.int x2), .unset, .unset, .unset, .unset, .unset, .unset, .unset, .unset, .unset, .unset, .unset, .unset] [] := by first | (simp [entryFrame, mkF, argsToLocals, Value.category, maxLocals]; done) | rfl
theorem pd_1 : parseMethodDescriptor "()D" = some ⟨[], some .double⟩ := by decide +kernel
theorem pd_2 : parseMethodDescriptor "(DD)V" = some ⟨[.double, .double], none⟩ := by decide +kernel
theorem pd_3 : parseMethodDescriptor "()Z" = some ⟨[], some .boolean⟩ := by decide +kernel
def Q0 (Z : State) (i j k : Int32) (o1 : Addr) (h0 : Heap) (n0 : Nat) (v : Option Value) (h : Heap) (L : List Loc) : Prop := v = some (.int 1) ∧ Fr n0 L
set_option maxRecDepth 65536 in
set_option maxHeartbeats 40000000 in
theorem rm0 (l : Launch) (Z : State) (a0 : Array Value) (hw : ∀ d ∈ tables_1, d.before a0 Z = true) (ws : List Jvm.Cond) (i j k : Int32) (o1 : Addr) (h0 : Heap) (n0 : Nat) (Z0 : n0 ≤ h0.size) (So : Sta Z h0 "com/example/wildebeest/wildebeest/numeric/Probability" "ONE" "Lcom/example/wildebeest/wildebeest/numeric/Probability;" (.ref o1)) (Eo : Exa Z h0 o1 "com/example/wildebeest/wildebeest/numeric/Probability") (Fo : Fld Z h0 o1 "com/example/wildebeest/wildebeest/numeric/Probability" "complementLogarithm" "D" (.double (18442240474082181120 : UInt64))) :
    MetFree l x (head1 (Jvm.Cond.code x code maxLocals ret :: ws) room_1) (fun a U => a = #[(.int i), (.int j), (.int k)] ∧ Z.Warmed39 U.vm ∧ U.heap = h0) (fun _ _ _ _ _ => True) (fun _ U o U' => ∃ v L, o = .returned v ∧ Q0 Z i j k o1 h0 n0 v U'.heap L ∧ FrameEnd U o U' L 1 2) := by
  refine MetFree.of_bodySF (plainFor_of_name pn_0) hisR ?_
  intro p e s m args below meth c s₁ Bd hml0 hP hK
  obtain ⟨rfl, hZ, hh⟩ := hP
  have hx := Bd.exec
  have hby := Bd.bytes
  have hml : c.maxLocals = 15 := hml0
  have hown : s.vm.findClass "com/example/wildebeest/wildebeest/numeric/ProbabilityIsLogarithmHeldPinLaw" = some m.cls := findClass_of_methodNamed Bd.named
  have hnm := (name_of_methodNamed Bd.named Bd.method).1
  have X0 : Stand p l e room_1 s m #[(.int i), (.int j), (.int k)] below meth c s₁ [] 0 0 := Stand.of_body Bd
  have e0 : s₁.heap = h0 := by rw [← hh, Bd.state]; rfl
  have N0 := Fr.nil n0
  have pre0 : ∀ t, Steps p.tables e below (s₁.setTop (mkF m 0 #[.val (.int i), .val (.int j), .val (.int k), .unset, .unset, .unset, .unset, .unset, .unset, .unset, .unset, .unset, .unset, .unset, .unset] [])) t → Steps p.tables e below (s₁.setTop (entryFrame m #[(.int i), (.int j), (.int k)] maxLocals)) t := fun t kq0 => castTop (ef_0 m i j k) kq0
  obtain ⟨T1, X1, e1, st1⟩ := getS2 X0 hx hZ hown (host := "") (Or.inl (hw _ (List.mem_of_getElem? (i := 0) rfl))) Via.refl e0 So (g := (mkF m 0 #[.val (.int i), .val (.int j), .val (.int k), .unset, .unset, .unset, .unset, .unset, .unset, .unset, .unset, .unset, .unset, .unset, .unset] [])) rfl (hb hby at_0)
  obtain ⟨cq2, kq2, q2a, q2b, q2c⟩ := isOf hZ e1 Eo
  obtain ⟨_, _, ⟨T2, L2, k2, n2⟩, -, X2, ⟨Lc2, hQ2, l2, y2, z2⟩, st2⟩ := X1.virtualBack hx (y := (⟨"com/example/wildebeest/wildebeest/numeric/Probability", "complementLogarithm", "()D"⟩ : MethodName)) (z := (⟨"com/example/wildebeest/wildebeest/numeric/Probability", "complementLogarithm", "()D"⟩ : MethodName)) hown (mvT hZ (hw _ (List.mem_of_getElem? (i := 3) rfl))) (mvT hZ (hw _ (List.mem_of_getElem? (i := 4) rfl))) (notFace_of_selects (args := #[]) (mvT hZ (hw _ (List.mem_of_getElem? (i := 6) rfl)))) (mvT hZ (hw _ (List.mem_of_getElem? (i := 6) rfl))) (mvT hZ (hw _ (List.mem_of_getElem? (i := 5) rfl))) (by decide) (backOf (W := 0) (rm1 l Z a0 hw [] o1 (18442240474082181120 : UInt64) h0 n0 Z0 Fo) hZ (hw _ (List.mem_of_getElem? (i := 7) rfl)) (hw _ (List.mem_of_getElem? (i := 1) rfl)) (by decide) (by decide)) q2a q2c (g := (mkF m 3 #[.val (.int i), .val (.int j), .val (.int k), .unset, .unset, .unset, .unset, .unset, .unset, .unset, .unset, .unset, .unset, .unset, .unset] [(.ref o1)])) rfl (by rw [hml]; rfl) (Steps.refl _) (argsL := []) (rest := []) (lenOf pd_1 rfl) rfl (by show 2 * 0 + _ ≤ _; exact Nat.le_of_eq rfl) (hb hby at_3) (fun _ _ => ⟨rfl, e1, (by decide : 0 + 0 ≤ _), (by decide : 0 + 0 ≤ _)⟩)
  dsimp only [Pt.U, Pt.locs, Pt.cells, Pt.slots] at X2 l2 y2 z2 st2 hQ2
  subst l2 y2 z2
  obtain ⟨rfl, Nq2, eq2⟩ := hQ2
  have N2 := Fr.app N0 Nq2
  have sg3 : ∀ t, Steps p.tables e below (T2.setTop (mkF m 19 #[.val (.int i), .val (.int j), .val (.int k), .val (.double (18442240474082181120 : UInt64)), .second, .val (.int (k &&& (3 : Int32))), .val (.int (((k.toUInt32 >>> ((2 : Int32) &&& 31).toUInt32).toInt32) &&& (3 : Int32))), .unset, .unset, .unset, .unset, .unset, .unset, .unset, .unset] [])) t → Steps p.tables e below (T2.setTop (mkF m 6 #[.val (.int i), .val (.int j), .val (.int k), .unset, .unset, .unset, .unset, .unset, .unset, .unset, .unset, .unset, .unset, .unset, .unset] [(.double (18442240474082181120 : UInt64))])) t := by
    intro t kt
    refine XS.dstoreN X2.here hx rfl (hb hby at_6) rfl (l' := #[.val (.int i), .val (.int j), .val (.int k), .val (.double (18442240474082181120 : UInt64)), .second, .unset, .unset, .unset, .unset, .unset, .unset, .unset, .unset, .unset, .unset]) rfl ?_
    show Steps p.tables e below (T2.setTop (mkF m 7 #[.val (.int i), .val (.int j), .val (.int k), .val (.double (18442240474082181120 : UInt64)), .second, .unset, .unset, .unset, .unset, .unset, .unset, .unset, .unset, .unset, .unset] [])) _
    refine XS.iloadN X2.here hx rfl (hb hby at_7) rfl ?_
    show Steps p.tables e below (T2.setTop (mkF m 8 #[.val (.int i), .val (.int j), .val (.int k), .val (.double (18442240474082181120 : UInt64)), .second, .unset, .unset, .unset, .unset, .unset, .unset, .unset, .unset, .unset, .unset] [(.int k)])) _
    refine XS.iconst X2.here hx rfl (hb hby at_8) ?_
    show Steps p.tables e below (T2.setTop (mkF m 9 #[.val (.int i), .val (.int j), .val (.int k), .val (.double (18442240474082181120 : UInt64)), .second, .unset, .unset, .unset, .unset, .unset, .unset, .unset, .unset, .unset, .unset] [(.int (3 : Int32)), (.int k)])) _
    refine XS.iand X2.here hx rfl (hb hby at_9) rfl ?_
    show Steps p.tables e below (T2.setTop (mkF m 10 #[.val (.int i), .val (.int j), .val (.int k), .val (.double (18442240474082181120 : UInt64)), .second, .unset, .unset, .unset, .unset, .unset, .unset, .unset, .unset, .unset, .unset] [(.int (k &&& (3 : Int32)))])) _
    refine XS.istore X2.here hx rfl (hb hby at_10) rfl (l' := #[.val (.int i), .val (.int j), .val (.int k), .val (.double (18442240474082181120 : UInt64)), .second, .val (.int (k &&& (3 : Int32))), .unset, .unset, .unset, .unset, .unset, .unset, .unset, .unset, .unset]) rfl ?_
    show Steps p.tables e below (T2.setTop (mkF m 12 #[.val (.int i), .val (.int j), .val (.int k), .val (.double (18442240474082181120 : UInt64)), .second, .val (.int (k &&& (3 : Int32))), .unset, .unset, .unset, .unset, .unset, .unset, .unset, .unset, .unset] [])) _
    refine XS.iloadN X2.here hx rfl (hb hby at_12) rfl ?_
    show Steps p.tables e below (T2.setTop (mkF m 13 #[.val (.int i), .val (.int j), .val (.int k), .val (.double (18442240474082181120 : UInt64)), .second, .val (.int (k &&& (3 : Int32))), .unset, .unset, .unset, .unset, .unset, .unset, .unset, .unset, .unset] [(.int k)])) _
    refine XS.iconst X2.here hx rfl (hb hby at_13) ?_
    show Steps p.tables e below (T2.setTop (mkF m 14 #[.val (.int i), .val (.int j), .val (.int k), .val (.double (18442240474082181120 : UInt64)), .second, .val (.int (k &&& (3 : Int32))), .unset, .unset, .unset, .unset, .unset, .unset, .unset, .unset, .unset] [(.int (2 : Int32)), (.int k)])) _
    refine XS.iushr X2.here hx rfl (hb hby at_14) rfl ?_
    show Steps p.tables e below (T2.setTop (mkF m 15 #[.val (.int i), .val (.int j), .val (.int k), .val (.double (18442240474082181120 : UInt64)), .second, .val (.int (k &&& (3 : Int32))), .unset, .unset, .unset, .unset, .unset, .unset, .unset, .unset, .unset] [(.int ((k.toUInt32 >>> ((2 : Int32) &&& 31).toUInt32).toInt32))])) _
    refine XS.iconst X2.here hx rfl (hb hby at_15) ?_
    show Steps p.tables e below (T2.setTop (mkF m 16 #[.val (.int i), .val (.int j), .val (.int k), .val (.double (18442240474082181120 : UInt64)), .second, .val (.int (k &&& (3 : Int32))), .unset, .unset, .unset, .unset, .unset, .unset, .unset, .unset, .unset] [(.int (3 : Int32)), (.int ((k.toUInt32 >>> ((2 : Int32) &&& 31).toUInt32).toInt32))])) _
    refine XS.iand X2.here hx rfl (hb hby at_16) rfl ?_
    show Steps p.tables e below (T2.setTop (mkF m 17 #[.val (.int i), .val (.int j), .val (.int k), .val (.double (18442240474082181120 : UInt64)), .second, .val (.int (k &&& (3 : Int32))), .unset, .unset, .unset, .unset, .unset, .unset, .unset, .unset, .unset] [(.int (((k.toUInt32 >>> ((2 : Int32) &&& 31).toUInt32).toInt32) &&& (3 : Int32)))])) _
    refine XS.istore X2.here hx rfl (hb hby at_17) rfl (l' := #[.val (.int i), .val (.int j), .val (.int k), .val (.double (18442240474082181120 : UInt64)), .second, .val (.int (k &&& (3 : Int32))), .val (.int (((k.toUInt32 >>> ((2 : Int32) &&& 31).toUInt32).toInt32) &&& (3 : Int32))), .unset, .unset, .unset, .unset, .unset, .unset, .unset, .unset]) rfl ?_
    exact kt
  obtain ⟨ls, hls⟩ : ∃ z, z = (k &&& (3 : Int32)) := ⟨_, rfl⟩
  obtain ⟨cs, hcs⟩ : ∃ z, z = (((k.toUInt32 >>> ((2 : Int32) &&& 31).toUInt32).toInt32) &&& (3 : Int32)) := ⟨_, rfl⟩
  rw [← hls, ← hcs] at sg3
  have l4 : ls = 0 ∨ ls = 1 ∨ ls = 2 ∨ ls = 3 := by rw [hls]; exact own_and3 _
  obtain ⟨lg, hlg, hlg_st⟩ : ∃ lg : UInt64, (cmpValue (FP.dcmp lg FP.dconst0) .l = 0 ↔ (ls = 1 ∨ ((ls = 0 ∨ ls = 3) ∧ i = 0))) ∧ ∀ t, Steps p.tables e below (T2.setTop (mkF m 65 #[.val (.int i), .val (.int j), .val (.int k), .val (.double (18442240474082181120 : UInt64)), .second, .val (.int ls), .val (.int cs), .val (.double lg), .second, .unset, .unset, .unset, .unset, .unset, .unset] [])) t → Steps p.tables e below (T2.setTop (mkF m 19 #[.val (.int i), .val (.int j), .val (.int k), .val (.double (18442240474082181120 : UInt64)), .second, .val (.int ls), .val (.int cs), .unset, .unset, .unset, .unset, .unset, .unset, .unset, .unset] [])) t := by
    rcases l4 with rfl | rfl | rfl | rfl
    · skip
      refine ⟨(FP.i2d i), by simpa using own_i2d_zero i, fun t kt => ?_⟩
      refine XS.iload X2.here hx rfl (hb hby at_19) rfl ?_
      show Steps p.tables e below (T2.setTop (mkF m 21 #[.val (.int i), .val (.int j), .val (.int k), .val (.double (18442240474082181120 : UInt64)), .second, .val (.int (0 : Int32)), .val (.int cs), .unset, .unset, .unset, .unset, .unset, .unset, .unset, .unset] [(.int (0 : Int32))])) _
      refine XS.ifNo X2.here hx rfl (hb hby at_21) rfl ((if0 _ _).trans (teq (rfl : (0 : Int32) = (0 : Int32))).2) ?_
      show Steps p.tables e below (T2.setTop (mkF m 24 #[.val (.int i), .val (.int j), .val (.int k), .val (.double (18442240474082181120 : UInt64)), .second, .val (.int (0 : Int32)), .val (.int cs), .unset, .unset, .unset, .unset, .unset, .unset, .unset, .unset] [])) _
      refine XS.iloadN X2.here hx rfl (hb hby at_24) rfl ?_
      show Steps p.tables e below (T2.setTop (mkF m 25 #[.val (.int i), .val (.int j), .val (.int k), .val (.double (18442240474082181120 : UInt64)), .second, .val (.int (0 : Int32)), .val (.int cs), .unset, .unset, .unset, .unset, .unset, .unset, .unset, .unset] [(.int i)])) _
      refine XS.i2dS X2.here hx rfl (hb hby at_25) rfl (v := (FP.i2d i)) rfl ?_
      show Steps p.tables e below (T2.setTop (mkF m 26 #[.val (.int i), .val (.int j), .val (.int k), .val (.double (18442240474082181120 : UInt64)), .second, .val (.int (0 : Int32)), .val (.int cs), .unset, .unset, .unset, .unset, .unset, .unset, .unset, .unset] [(.double (FP.i2d i))])) _
      refine XS.dstore X2.here hx rfl (hb hby at_26) rfl (l' := #[.val (.int i), .val (.int j), .val (.int k), .val (.double (18442240474082181120 : UInt64)), .second, .val (.int (0 : Int32)), .val (.int cs), .val (.double (FP.i2d i)), .second, .unset, .unset, .unset, .unset, .unset, .unset]) rfl ?_
      show Steps p.tables e below (T2.setTop (mkF m 28 #[.val (.int i), .val (.int j), .val (.int k), .val (.double (18442240474082181120 : UInt64)), .second, .val (.int (0 : Int32)), .val (.int cs), .val (.double (FP.i2d i)), .second, .unset, .unset, .unset, .unset, .unset, .unset] [])) _
      refine XS.goto X2.here hx rfl (pc0 := 28) (pc' := 65) rfl (hb hby at_28) (by decide) (by decide) ?_
      exact kt
    · skip
      refine ⟨(9223372036854775808 : UInt64), by simpa using own_nz, fun t kt => ?_⟩
      refine XS.iload X2.here hx rfl (hb hby at_19) rfl ?_
      show Steps p.tables e below (T2.setTop (mkF m 21 #[.val (.int i), .val (.int j), .val (.int k), .val (.double (18442240474082181120 : UInt64)), .second, .val (.int (1 : Int32)), .val (.int cs), .unset, .unset, .unset, .unset, .unset, .unset, .unset, .unset] [(.int (1 : Int32))])) _
      refine XS.ifYes X2.here hx rfl (pc0 := 21) (pc' := 31) rfl (hb hby at_21) rfl ((if0 _ _).trans (feq (by decide : ¬ ((1 : Int32) = (0 : Int32)))).2) (by decide) (by decide) ?_
      show Steps p.tables e below (T2.setTop (mkF m 31 #[.val (.int i), .val (.int j), .val (.int k), .val (.double (18442240474082181120 : UInt64)), .second, .val (.int (1 : Int32)), .val (.int cs), .unset, .unset, .unset, .unset, .unset, .unset, .unset, .unset] [])) _
      refine XS.iload X2.here hx rfl (hb hby at_31) rfl ?_
      show Steps p.tables e below (T2.setTop (mkF m 33 #[.val (.int i), .val (.int j), .val (.int k), .val (.double (18442240474082181120 : UInt64)), .second, .val (.int (1 : Int32)), .val (.int cs), .unset, .unset, .unset, .unset, .unset, .unset, .unset, .unset] [(.int (1 : Int32))])) _
      refine XS.iconst X2.here hx rfl (hb hby at_33) ?_
      show Steps p.tables e below (T2.setTop (mkF m 34 #[.val (.int i), .val (.int j), .val (.int k), .val (.double (18442240474082181120 : UInt64)), .second, .val (.int (1 : Int32)), .val (.int cs), .unset, .unset, .unset, .unset, .unset, .unset, .unset, .unset] [(.int (1 : Int32)), (.int (1 : Int32))])) _
      refine XS.icmpNo X2.here hx rfl (hb hby at_34) rfl (teq (rfl : (1 : Int32) = (1 : Int32))).2 ?_
      show Steps p.tables e below (T2.setTop (mkF m 37 #[.val (.int i), .val (.int j), .val (.int k), .val (.double (18442240474082181120 : UInt64)), .second, .val (.int (1 : Int32)), .val (.int cs), .unset, .unset, .unset, .unset, .unset, .unset, .unset, .unset] [])) _
      refine X2.ldc2DoubleC hx hown (mvT hZ (hw _ (List.mem_of_getElem? (i := 31) rfl))) (g := (mkF m 37 #[.val (.int i), .val (.int j), .val (.int k), .val (.double (18442240474082181120 : UInt64)), .second, .val (.int (1 : Int32)), .val (.int cs), .unset, .unset, .unset, .unset, .unset, .unset, .unset, .unset] [])) rfl (hb hby at_37) _ ?_
      show Steps p.tables e below (T2.setTop (mkF m 40 #[.val (.int i), .val (.int j), .val (.int k), .val (.double (18442240474082181120 : UInt64)), .second, .val (.int (1 : Int32)), .val (.int cs), .unset, .unset, .unset, .unset, .unset, .unset, .unset, .unset] [(.double (9223372036854775808 : UInt64))])) _
      refine XS.dstore X2.here hx rfl (hb hby at_40) rfl (l' := #[.val (.int i), .val (.int j), .val (.int k), .val (.double (18442240474082181120 : UInt64)), .second, .val (.int (1 : Int32)), .val (.int cs), .val (.double (9223372036854775808 : UInt64)), .second, .unset, .unset, .unset, .unset, .unset, .unset]) rfl ?_
      show Steps p.tables e below (T2.setTop (mkF m 42 #[.val (.int i), .val (.int j), .val (.int k), .val (.double (18442240474082181120 : UInt64)), .second, .val (.int (1 : Int32)), .val (.int cs), .val (.double (9223372036854775808 : UInt64)), .second, .unset, .unset, .unset, .unset, .unset, .unset] [])) _
      refine XS.goto X2.here hx rfl (pc0 := 42) (pc' := 65) rfl (hb hby at_42) (by decide) (by decide) ?_
      exact kt
    · skip
      refine ⟨(18442240474082181120 : UInt64), by simpa using own_ninf_nz, fun t kt => ?_⟩
      refine XS.iload X2.here hx rfl (hb hby at_19) rfl ?_
      show Steps p.tables e below (T2.setTop (mkF m 21 #[.val (.int i), .val (.int j), .val (.int k), .val (.double (18442240474082181120 : UInt64)), .second, .val (.int (2 : Int32)), .val (.int cs), .unset, .unset, .unset, .unset, .unset, .unset, .unset, .unset] [(.int (2 : Int32))])) _
      refine XS.ifYes X2.here hx rfl (pc0 := 21) (pc' := 31) rfl (hb hby at_21) rfl ((if0 _ _).trans (feq (by decide : ¬ ((2 : Int32) = (0 : Int32)))).2) (by decide) (by decide) ?_
      show Steps p.tables e below (T2.setTop (mkF m 31 #[.val (.int i), .val (.int j), .val (.int k), .val (.double (18442240474082181120 : UInt64)), .second, .val (.int (2 : Int32)), .val (.int cs), .unset, .unset, .unset, .unset, .unset, .unset, .unset, .unset] [])) _
      refine XS.iload X2.here hx rfl (hb hby at_31) rfl ?_
      show Steps p.tables e below (T2.setTop (mkF m 33 #[.val (.int i), .val (.int j), .val (.int k), .val (.double (18442240474082181120 : UInt64)), .second, .val (.int (2 : Int32)), .val (.int cs), .unset, .unset, .unset, .unset, .unset, .unset, .unset, .unset] [(.int (2 : Int32))])) _
      refine XS.iconst X2.here hx rfl (hb hby at_33) ?_
      show Steps p.tables e below (T2.setTop (mkF m 34 #[.val (.int i), .val (.int j), .val (.int k), .val (.double (18442240474082181120 : UInt64)), .second, .val (.int (2 : Int32)), .val (.int cs), .unset, .unset, .unset, .unset, .unset, .unset, .unset, .unset] [(.int (1 : Int32)), (.int (2 : Int32))])) _
      refine XS.icmpYes X2.here hx rfl (pc0 := 34) (pc' := 45) rfl (hb hby at_34) rfl (feq (by decide : ¬ ((2 : Int32) = (1 : Int32)))).2 (by decide) (by decide) ?_
      show Steps p.tables e below (T2.setTop (mkF m 45 #[.val (.int i), .val (.int j), .val (.int k), .val (.double (18442240474082181120 : UInt64)), .second, .val (.int (2 : Int32)), .val (.int cs), .unset, .unset, .unset, .unset, .unset, .unset, .unset, .unset] [])) _
      refine XS.iload X2.here hx rfl (hb hby at_45) rfl ?_
      show Steps p.tables e below (T2.setTop (mkF m 47 #[.val (.int i), .val (.int j), .val (.int k), .val (.double (18442240474082181120 : UInt64)), .second, .val (.int (2 : Int32)), .val (.int cs), .unset, .unset, .unset, .unset, .unset, .unset, .unset, .unset] [(.int (2 : Int32))])) _
      refine XS.iconst X2.here hx rfl (hb hby at_47) ?_
      show Steps p.tables e below (T2.setTop (mkF m 48 #[.val (.int i), .val (.int j), .val (.int k), .val (.double (18442240474082181120 : UInt64)), .second, .val (.int (2 : Int32)), .val (.int cs), .unset, .unset, .unset, .unset, .unset, .unset, .unset, .unset] [(.int (2 : Int32)), (.int (2 : Int32))])) _
      refine XS.icmpNo X2.here hx rfl (hb hby at_48) rfl (teq (rfl : (2 : Int32) = (2 : Int32))).2 ?_
      show Steps p.tables e below (T2.setTop (mkF m 51 #[.val (.int i), .val (.int j), .val (.int k), .val (.double (18442240474082181120 : UInt64)), .second, .val (.int (2 : Int32)), .val (.int cs), .unset, .unset, .unset, .unset, .unset, .unset, .unset, .unset] [])) _
      refine XS.dloadN X2.here hx rfl (hb hby at_51) rfl ?_
      show Steps p.tables e below (T2.setTop (mkF m 52 #[.val (.int i), .val (.int j), .val (.int k), .val (.double (18442240474082181120 : UInt64)), .second, .val (.int (2 : Int32)), .val (.int cs), .unset, .unset, .unset, .unset, .unset, .unset, .unset, .unset] [(.double (18442240474082181120 : UInt64))])) _
      refine XS.dstore X2.here hx rfl (hb hby at_52) rfl (l' := #[.val (.int i), .val (.int j), .val (.int k), .val (.double (18442240474082181120 : UInt64)), .second, .val (.int (2 : Int32)), .val (.int cs), .val (.double (18442240474082181120 : UInt64)), .second, .unset, .unset, .unset, .unset, .unset, .unset]) rfl ?_
      show Steps p.tables e below (T2.setTop (mkF m 54 #[.val (.int i), .val (.int j), .val (.int k), .val (.double (18442240474082181120 : UInt64)), .second, .val (.int (2 : Int32)), .val (.int cs), .val (.double (18442240474082181120 : UInt64)), .second, .unset, .unset, .unset, .unset, .unset, .unset] [])) _
      refine XS.goto X2.here hx rfl (pc0 := 54) (pc' := 65) rfl (hb hby at_54) (by decide) (by decide) ?_
      exact kt
    · skip
      refine ⟨(FP.ddiv (FP.i2d i) (4652218415073722368 : UInt64)), by simpa using own_div_zero i, fun t kt => ?_⟩
      refine XS.iload X2.here hx rfl (hb hby at_19) rfl ?_
      show Steps p.tables e below (T2.setTop (mkF m 21 #[.val (.int i), .val (.int j), .val (.int k), .val (.double (18442240474082181120 : UInt64)), .second, .val (.int (3 : Int32)), .val (.int cs), .unset, .unset, .unset, .unset, .unset, .unset, .unset, .unset] [(.int (3 : Int32))])) _
      refine XS.ifYes X2.here hx rfl (pc0 := 21) (pc' := 31) rfl (hb hby at_21) rfl ((if0 _ _).trans (feq (by decide : ¬ ((3 : Int32) = (0 : Int32)))).2) (by decide) (by decide) ?_
      show Steps p.tables e below (T2.setTop (mkF m 31 #[.val (.int i), .val (.int j), .val (.int k), .val (.double (18442240474082181120 : UInt64)), .second, .val (.int (3 : Int32)), .val (.int cs), .unset, .unset, .unset, .unset, .unset, .unset, .unset, .unset] [])) _
      refine XS.iload X2.here hx rfl (hb hby at_31) rfl ?_
      show Steps p.tables e below (T2.setTop (mkF m 33 #[.val (.int i), .val (.int j), .val (.int k), .val (.double (18442240474082181120 : UInt64)), .second, .val (.int (3 : Int32)), .val (.int cs), .unset, .unset, .unset, .unset, .unset, .unset, .unset, .unset] [(.int (3 : Int32))])) _
      refine XS.iconst X2.here hx rfl (hb hby at_33) ?_
      show Steps p.tables e below (T2.setTop (mkF m 34 #[.val (.int i), .val (.int j), .val (.int k), .val (.double (18442240474082181120 : UInt64)), .second, .val (.int (3 : Int32)), .val (.int cs), .unset, .unset, .unset, .unset, .unset, .unset, .unset, .unset] [(.int (1 : Int32)), (.int (3 : Int32))])) _
      refine XS.icmpYes X2.here hx rfl (pc0 := 34) (pc' := 45) rfl (hb hby at_34) rfl (feq (by decide : ¬ ((3 : Int32) = (1 : Int32)))).2 (by decide) (by decide) ?_
      show Steps p.tables e below (T2.setTop (mkF m 45 #[.val (.int i), .val (.int j), .val (.int k), .val (.double (18442240474082181120 : UInt64)), .second, .val (.int (3 : Int32)), .val (.int cs), .unset, .unset, .unset, .unset, .unset, .unset, .unset, .unset] [])) _
      refine XS.iload X2.here hx rfl (hb hby at_45) rfl ?_
      show Steps p.tables e below (T2.setTop (mkF m 47 #[.val (.int i), .val (.int j), .val (.int k), .val (.double (18442240474082181120 : UInt64)), .second, .val (.int (3 : Int32)), .val (.int cs), .unset, .unset, .unset, .unset, .unset, .unset, .unset, .unset] [(.int (3 : Int32))])) _
      refine XS.iconst X2.here hx rfl (hb hby at_47) ?_
      show Steps p.tables e below (T2.setTop (mkF m 48 #[.val (.int i), .val (.int j), .val (.int k), .val (.double (18442240474082181120 : UInt64)), .second, .val (.int (3 : Int32)), .val (.int cs), .unset, .unset, .unset, .unset, .unset, .unset, .unset, .unset] [(.int (2 : Int32)), (.int (3 : Int32))])) _
      refine XS.icmpYes X2.here hx rfl (pc0 := 48) (pc' := 57) rfl (hb hby at_48) rfl (feq (by decide : ¬ ((3 : Int32) = (2 : Int32)))).2 (by decide) (by decide) ?_
      show Steps p.tables e below (T2.setTop (mkF m 57 #[.val (.int i), .val (.int j), .val (.int k), .val (.double (18442240474082181120 : UInt64)), .second, .val (.int (3 : Int32)), .val (.int cs), .unset, .unset, .unset, .unset, .unset, .unset, .unset, .unset] [])) _
      refine XS.iloadN X2.here hx rfl (hb hby at_57) rfl ?_
      show Steps p.tables e below (T2.setTop (mkF m 58 #[.val (.int i), .val (.int j), .val (.int k), .val (.double (18442240474082181120 : UInt64)), .second, .val (.int (3 : Int32)), .val (.int cs), .unset, .unset, .unset, .unset, .unset, .unset, .unset, .unset] [(.int i)])) _
      refine XS.i2dS X2.here hx rfl (hb hby at_58) rfl (v := (FP.i2d i)) rfl ?_
      show Steps p.tables e below (T2.setTop (mkF m 59 #[.val (.int i), .val (.int j), .val (.int k), .val (.double (18442240474082181120 : UInt64)), .second, .val (.int (3 : Int32)), .val (.int cs), .unset, .unset, .unset, .unset, .unset, .unset, .unset, .unset] [(.double (FP.i2d i))])) _
      refine X2.ldc2DoubleC hx hown (mvT hZ (hw _ (List.mem_of_getElem? (i := 30) rfl))) (g := (mkF m 59 #[.val (.int i), .val (.int j), .val (.int k), .val (.double (18442240474082181120 : UInt64)), .second, .val (.int (3 : Int32)), .val (.int cs), .unset, .unset, .unset, .unset, .unset, .unset, .unset, .unset] [(.double (FP.i2d i))])) rfl (hb hby at_59) _ ?_
      show Steps p.tables e below (T2.setTop (mkF m 62 #[.val (.int i), .val (.int j), .val (.int k), .val (.double (18442240474082181120 : UInt64)), .second, .val (.int (3 : Int32)), .val (.int cs), .unset, .unset, .unset, .unset, .unset, .unset, .unset, .unset] [(.double (4652218415073722368 : UInt64)), (.double (FP.i2d i))])) _
      refine XS.ddivS X2.here hx rfl (hb hby at_62) rfl (own_div_nn i) (v := (FP.ddiv (FP.i2d i) (4652218415073722368 : UInt64))) rfl ?_
      show Steps p.tables e below (T2.setTop (mkF m 63 #[.val (.int i), .val (.int j), .val (.int k), .val (.double (18442240474082181120 : UInt64)), .second, .val (.int (3 : Int32)), .val (.int cs), .unset, .unset, .unset, .unset, .unset, .unset, .unset, .unset] [(.double (FP.ddiv (FP.i2d i) (4652218415073722368 : UInt64)))])) _
      refine XS.dstore X2.here hx rfl (hb hby at_63) rfl (l' := #[.val (.int i), .val (.int j), .val (.int k), .val (.double (18442240474082181120 : UInt64)), .second, .val (.int (3 : Int32)), .val (.int cs), .val (.double (FP.ddiv (FP.i2d i) (4652218415073722368 : UInt64))), .second, .unset, .unset, .unset, .unset, .unset, .unset]) rfl ?_
      exact kt
  have c4 : cs = 0 ∨ cs = 1 ∨ cs = 2 ∨ cs = 3 := by rw [hcs]; exact own_and3 _
  obtain ⟨cm, hcm, hcm_st⟩ : ∃ cm : UInt64, (cmpValue (FP.dcmp cm (18442240474082181120 : UInt64)) .l = 0 ↔ cs = 1) ∧ ∀ t, Steps p.tables e below (T2.setTop (mkF m 107 #[.val (.int i), .val (.int j), .val (.int k), .val (.double (18442240474082181120 : UInt64)), .second, .val (.int ls), .val (.int cs), .val (.double lg), .second, .val (.double cm), .second, .unset, .unset, .unset, .unset] [])) t → Steps p.tables e below (T2.setTop (mkF m 65 #[.val (.int i), .val (.int j), .val (.int k), .val (.double (18442240474082181120 : UInt64)), .second, .val (.int ls), .val (.int cs), .val (.double lg), .second, .unset, .unset, .unset, .unset, .unset, .unset] [])) t := by
    rcases c4 with rfl | rfl | rfl | rfl
    · skip
      refine ⟨(FP.i2d j), by simpa using own_i2d_ninf j, fun t kt => ?_⟩
      refine XS.iload X2.here hx rfl (hb hby at_65) rfl ?_
      show Steps p.tables e below (T2.setTop (mkF m 67 #[.val (.int i), .val (.int j), .val (.int k), .val (.double (18442240474082181120 : UInt64)), .second, .val (.int ls), .val (.int (0 : Int32)), .val (.double lg), .second, .unset, .unset, .unset, .unset, .unset, .unset] [(.int (0 : Int32))])) _
      refine XS.ifNo X2.here hx rfl (hb hby at_67) rfl ((if0 _ _).trans (teq (rfl : (0 : Int32) = (0 : Int32))).2) ?_
      show Steps p.tables e below (T2.setTop (mkF m 70 #[.val (.int i), .val (.int j), .val (.int k), .val (.double (18442240474082181120 : UInt64)), .second, .val (.int ls), .val (.int (0 : Int32)), .val (.double lg), .second, .unset, .unset, .unset, .unset, .unset, .unset] [])) _
      refine XS.iloadN X2.here hx rfl (hb hby at_70) rfl ?_
      show Steps p.tables e below (T2.setTop (mkF m 71 #[.val (.int i), .val (.int j), .val (.int k), .val (.double (18442240474082181120 : UInt64)), .second, .val (.int ls), .val (.int (0 : Int32)), .val (.double lg), .second, .unset, .unset, .unset, .unset, .unset, .unset] [(.int j)])) _
      refine XS.i2dS X2.here hx rfl (hb hby at_71) rfl (v := (FP.i2d j)) rfl ?_
      show Steps p.tables e below (T2.setTop (mkF m 72 #[.val (.int i), .val (.int j), .val (.int k), .val (.double (18442240474082181120 : UInt64)), .second, .val (.int ls), .val (.int (0 : Int32)), .val (.double lg), .second, .unset, .unset, .unset, .unset, .unset, .unset] [(.double (FP.i2d j))])) _
      refine XS.dstore X2.here hx rfl (hb hby at_72) rfl (l' := #[.val (.int i), .val (.int j), .val (.int k), .val (.double (18442240474082181120 : UInt64)), .second, .val (.int ls), .val (.int (0 : Int32)), .val (.double lg), .second, .val (.double (FP.i2d j)), .second, .unset, .unset, .unset, .unset]) rfl ?_
      show Steps p.tables e below (T2.setTop (mkF m 74 #[.val (.int i), .val (.int j), .val (.int k), .val (.double (18442240474082181120 : UInt64)), .second, .val (.int ls), .val (.int (0 : Int32)), .val (.double lg), .second, .val (.double (FP.i2d j)), .second, .unset, .unset, .unset, .unset] [])) _
      refine XS.goto X2.here hx rfl (pc0 := 74) (pc' := 107) rfl (hb hby at_74) (by decide) (by decide) ?_
      exact kt
    · skip
      refine ⟨(18442240474082181120 : UInt64), by simpa using own_ninf_ninf, fun t kt => ?_⟩
      refine XS.iload X2.here hx rfl (hb hby at_65) rfl ?_
      show Steps p.tables e below (T2.setTop (mkF m 67 #[.val (.int i), .val (.int j), .val (.int k), .val (.double (18442240474082181120 : UInt64)), .second, .val (.int ls), .val (.int (1 : Int32)), .val (.double lg), .second, .unset, .unset, .unset, .unset, .unset, .unset] [(.int (1 : Int32))])) _
      refine XS.ifYes X2.here hx rfl (pc0 := 67) (pc' := 77) rfl (hb hby at_67) rfl ((if0 _ _).trans (feq (by decide : ¬ ((1 : Int32) = (0 : Int32)))).2) (by decide) (by decide) ?_
      show Steps p.tables e below (T2.setTop (mkF m 77 #[.val (.int i), .val (.int j), .val (.int k), .val (.double (18442240474082181120 : UInt64)), .second, .val (.int ls), .val (.int (1 : Int32)), .val (.double lg), .second, .unset, .unset, .unset, .unset, .unset, .unset] [])) _
      refine XS.iload X2.here hx rfl (hb hby at_77) rfl ?_
      show Steps p.tables e below (T2.setTop (mkF m 79 #[.val (.int i), .val (.int j), .val (.int k), .val (.double (18442240474082181120 : UInt64)), .second, .val (.int ls), .val (.int (1 : Int32)), .val (.double lg), .second, .unset, .unset, .unset, .unset, .unset, .unset] [(.int (1 : Int32))])) _
      refine XS.iconst X2.here hx rfl (hb hby at_79) ?_
      show Steps p.tables e below (T2.setTop (mkF m 80 #[.val (.int i), .val (.int j), .val (.int k), .val (.double (18442240474082181120 : UInt64)), .second, .val (.int ls), .val (.int (1 : Int32)), .val (.double lg), .second, .unset, .unset, .unset, .unset, .unset, .unset] [(.int (1 : Int32)), (.int (1 : Int32))])) _
      refine XS.icmpNo X2.here hx rfl (hb hby at_80) rfl (teq (rfl : (1 : Int32) = (1 : Int32))).2 ?_
      show Steps p.tables e below (T2.setTop (mkF m 83 #[.val (.int i), .val (.int j), .val (.int k), .val (.double (18442240474082181120 : UInt64)), .second, .val (.int ls), .val (.int (1 : Int32)), .val (.double lg), .second, .unset, .unset, .unset, .unset, .unset, .unset] [])) _
      refine XS.dloadN X2.here hx rfl (hb hby at_83) rfl ?_
      show Steps p.tables e below (T2.setTop (mkF m 84 #[.val (.int i), .val (.int j), .val (.int k), .val (.double (18442240474082181120 : UInt64)), .second, .val (.int ls), .val (.int (1 : Int32)), .val (.double lg), .second, .unset, .unset, .unset, .unset, .unset, .unset] [(.double (18442240474082181120 : UInt64))])) _
      refine XS.dstore X2.here hx rfl (hb hby at_84) rfl (l' := #[.val (.int i), .val (.int j), .val (.int k), .val (.double (18442240474082181120 : UInt64)), .second, .val (.int ls), .val (.int (1 : Int32)), .val (.double lg), .second, .val (.double (18442240474082181120 : UInt64)), .second, .unset, .unset, .unset, .unset]) rfl ?_
      show Steps p.tables e below (T2.setTop (mkF m 86 #[.val (.int i), .val (.int j), .val (.int k), .val (.double (18442240474082181120 : UInt64)), .second, .val (.int ls), .val (.int (1 : Int32)), .val (.double lg), .second, .val (.double (18442240474082181120 : UInt64)), .second, .unset, .unset, .unset, .unset] [])) _
      refine XS.goto X2.here hx rfl (pc0 := 86) (pc' := 107) rfl (hb hby at_86) (by decide) (by decide) ?_
      exact kt
    · skip
      refine ⟨(FP.dneg (18442240474082181120 : UInt64)), by simpa using own_pinf_ninf, fun t kt => ?_⟩
      refine XS.iload X2.here hx rfl (hb hby at_65) rfl ?_
      show Steps p.tables e below (T2.setTop (mkF m 67 #[.val (.int i), .val (.int j), .val (.int k), .val (.double (18442240474082181120 : UInt64)), .second, .val (.int ls), .val (.int (2 : Int32)), .val (.double lg), .second, .unset, .unset, .unset, .unset, .unset, .unset] [(.int (2 : Int32))])) _
      refine XS.ifYes X2.here hx rfl (pc0 := 67) (pc' := 77) rfl (hb hby at_67) rfl ((if0 _ _).trans (feq (by decide : ¬ ((2 : Int32) = (0 : Int32)))).2) (by decide) (by decide) ?_
      show Steps p.tables e below (T2.setTop (mkF m 77 #[.val (.int i), .val (.int j), .val (.int k), .val (.double (18442240474082181120 : UInt64)), .second, .val (.int ls), .val (.int (2 : Int32)), .val (.double lg), .second, .unset, .unset, .unset, .unset, .unset, .unset] [])) _
      refine XS.iload X2.here hx rfl (hb hby at_77) rfl ?_
      show Steps p.tables e below (T2.setTop (mkF m 79 #[.val (.int i), .val (.int j), .val (.int k), .val (.double (18442240474082181120 : UInt64)), .second, .val (.int ls), .val (.int (2 : Int32)), .val (.double lg), .second, .unset, .unset, .unset, .unset, .unset, .unset] [(.int (2 : Int32))])) _
      refine XS.iconst X2.here hx rfl (hb hby at_79) ?_
      show Steps p.tables e below (T2.setTop (mkF m 80 #[.val (.int i), .val (.int j), .val (.int k), .val (.double (18442240474082181120 : UInt64)), .second, .val (.int ls), .val (.int (2 : Int32)), .val (.double lg), .second, .unset, .unset, .unset, .unset, .unset, .unset] [(.int (1 : Int32)), (.int (2 : Int32))])) _
      refine XS.icmpYes X2.here hx rfl (pc0 := 80) (pc' := 89) rfl (hb hby at_80) rfl (feq (by decide : ¬ ((2 : Int32) = (1 : Int32)))).2 (by decide) (by decide) ?_
      show Steps p.tables e below (T2.setTop (mkF m 89 #[.val (.int i), .val (.int j), .val (.int k), .val (.double (18442240474082181120 : UInt64)), .second, .val (.int ls), .val (.int (2 : Int32)), .val (.double lg), .second, .unset, .unset, .unset, .unset, .unset, .unset] [])) _
      refine XS.iload X2.here hx rfl (hb hby at_89) rfl ?_
      show Steps p.tables e below (T2.setTop (mkF m 91 #[.val (.int i), .val (.int j), .val (.int k), .val (.double (18442240474082181120 : UInt64)), .second, .val (.int ls), .val (.int (2 : Int32)), .val (.double lg), .second, .unset, .unset, .unset, .unset, .unset, .unset] [(.int (2 : Int32))])) _
      refine XS.iconst X2.here hx rfl (hb hby at_91) ?_
      show Steps p.tables e below (T2.setTop (mkF m 92 #[.val (.int i), .val (.int j), .val (.int k), .val (.double (18442240474082181120 : UInt64)), .second, .val (.int ls), .val (.int (2 : Int32)), .val (.double lg), .second, .unset, .unset, .unset, .unset, .unset, .unset] [(.int (2 : Int32)), (.int (2 : Int32))])) _
      refine XS.icmpNo X2.here hx rfl (hb hby at_92) rfl (teq (rfl : (2 : Int32) = (2 : Int32))).2 ?_
      show Steps p.tables e below (T2.setTop (mkF m 95 #[.val (.int i), .val (.int j), .val (.int k), .val (.double (18442240474082181120 : UInt64)), .second, .val (.int ls), .val (.int (2 : Int32)), .val (.double lg), .second, .unset, .unset, .unset, .unset, .unset, .unset] [])) _
      refine XS.dloadN X2.here hx rfl (hb hby at_95) rfl ?_
      show Steps p.tables e below (T2.setTop (mkF m 96 #[.val (.int i), .val (.int j), .val (.int k), .val (.double (18442240474082181120 : UInt64)), .second, .val (.int ls), .val (.int (2 : Int32)), .val (.double lg), .second, .unset, .unset, .unset, .unset, .unset, .unset] [(.double (18442240474082181120 : UInt64))])) _
      refine XS.dnegS X2.here hx rfl (hb hby at_96) rfl (v := (FP.dneg (18442240474082181120 : UInt64))) rfl ?_
      show Steps p.tables e below (T2.setTop (mkF m 97 #[.val (.int i), .val (.int j), .val (.int k), .val (.double (18442240474082181120 : UInt64)), .second, .val (.int ls), .val (.int (2 : Int32)), .val (.double lg), .second, .unset, .unset, .unset, .unset, .unset, .unset] [(.double (FP.dneg (18442240474082181120 : UInt64)))])) _
      refine XS.dstore X2.here hx rfl (hb hby at_97) rfl (l' := #[.val (.int i), .val (.int j), .val (.int k), .val (.double (18442240474082181120 : UInt64)), .second, .val (.int ls), .val (.int (2 : Int32)), .val (.double lg), .second, .val (.double (FP.dneg (18442240474082181120 : UInt64))), .second, .unset, .unset, .unset, .unset]) rfl ?_
      show Steps p.tables e below (T2.setTop (mkF m 99 #[.val (.int i), .val (.int j), .val (.int k), .val (.double (18442240474082181120 : UInt64)), .second, .val (.int ls), .val (.int (2 : Int32)), .val (.double lg), .second, .val (.double (FP.dneg (18442240474082181120 : UInt64))), .second, .unset, .unset, .unset, .unset] [])) _
      refine XS.goto X2.here hx rfl (pc0 := 99) (pc' := 107) rfl (hb hby at_99) (by decide) (by decide) ?_
      exact kt
    · skip
      refine ⟨(9223372036854775808 : UInt64), by simpa using own_nz_ninf, fun t kt => ?_⟩
      refine XS.iload X2.here hx rfl (hb hby at_65) rfl ?_
      show Steps p.tables e below (T2.setTop (mkF m 67 #[.val (.int i), .val (.int j), .val (.int k), .val (.double (18442240474082181120 : UInt64)), .second, .val (.int ls), .val (.int (3 : Int32)), .val (.double lg), .second, .unset, .unset, .unset, .unset, .unset, .unset] [(.int (3 : Int32))])) _
      refine XS.ifYes X2.here hx rfl (pc0 := 67) (pc' := 77) rfl (hb hby at_67) rfl ((if0 _ _).trans (feq (by decide : ¬ ((3 : Int32) = (0 : Int32)))).2) (by decide) (by decide) ?_
      show Steps p.tables e below (T2.setTop (mkF m 77 #[.val (.int i), .val (.int j), .val (.int k), .val (.double (18442240474082181120 : UInt64)), .second, .val (.int ls), .val (.int (3 : Int32)), .val (.double lg), .second, .unset, .unset, .unset, .unset, .unset, .unset] [])) _
      refine XS.iload X2.here hx rfl (hb hby at_77) rfl ?_
      show Steps p.tables e below (T2.setTop (mkF m 79 #[.val (.int i), .val (.int j), .val (.int k), .val (.double (18442240474082181120 : UInt64)), .second, .val (.int ls), .val (.int (3 : Int32)), .val (.double lg), .second, .unset, .unset, .unset, .unset, .unset, .unset] [(.int (3 : Int32))])) _
      refine XS.iconst X2.here hx rfl (hb hby at_79) ?_
      show Steps p.tables e below (T2.setTop (mkF m 80 #[.val (.int i), .val (.int j), .val (.int k), .val (.double (18442240474082181120 : UInt64)), .second, .val (.int ls), .val (.int (3 : Int32)), .val (.double lg), .second, .unset, .unset, .unset, .unset, .unset, .unset] [(.int (1 : Int32)), (.int (3 : Int32))])) _
      refine XS.icmpYes X2.here hx rfl (pc0 := 80) (pc' := 89) rfl (hb hby at_80) rfl (feq (by decide : ¬ ((3 : Int32) = (1 : Int32)))).2 (by decide) (by decide) ?_
      show Steps p.tables e below (T2.setTop (mkF m 89 #[.val (.int i), .val (.int j), .val (.int k), .val (.double (18442240474082181120 : UInt64)), .second, .val (.int ls), .val (.int (3 : Int32)), .val (.double lg), .second, .unset, .unset, .unset, .unset, .unset, .unset] [])) _
      refine XS.iload X2.here hx rfl (hb hby at_89) rfl ?_
      show Steps p.tables e below (T2.setTop (mkF m 91 #[.val (.int i), .val (.int j), .val (.int k), .val (.double (18442240474082181120 : UInt64)), .second, .val (.int ls), .val (.int (3 : Int32)), .val (.double lg), .second, .unset, .unset, .unset, .unset, .unset, .unset] [(.int (3 : Int32))])) _
      refine XS.iconst X2.here hx rfl (hb hby at_91) ?_
      show Steps p.tables e below (T2.setTop (mkF m 92 #[.val (.int i), .val (.int j), .val (.int k), .val (.double (18442240474082181120 : UInt64)), .second, .val (.int ls), .val (.int (3 : Int32)), .val (.double lg), .second, .unset, .unset, .unset, .unset, .unset, .unset] [(.int (2 : Int32)), (.int (3 : Int32))])) _
      refine XS.icmpYes X2.here hx rfl (pc0 := 92) (pc' := 102) rfl (hb hby at_92) rfl (feq (by decide : ¬ ((3 : Int32) = (2 : Int32)))).2 (by decide) (by decide) ?_
      show Steps p.tables e below (T2.setTop (mkF m 102 #[.val (.int i), .val (.int j), .val (.int k), .val (.double (18442240474082181120 : UInt64)), .second, .val (.int ls), .val (.int (3 : Int32)), .val (.double lg), .second, .unset, .unset, .unset, .unset, .unset, .unset] [])) _
      refine X2.ldc2DoubleC hx hown (mvT hZ (hw _ (List.mem_of_getElem? (i := 31) rfl))) (g := (mkF m 102 #[.val (.int i), .val (.int j), .val (.int k), .val (.double (18442240474082181120 : UInt64)), .second, .val (.int ls), .val (.int (3 : Int32)), .val (.double lg), .second, .unset, .unset, .unset, .unset, .unset, .unset] [])) rfl (hb hby at_102) _ ?_
      show Steps p.tables e below (T2.setTop (mkF m 105 #[.val (.int i), .val (.int j), .val (.int k), .val (.double (18442240474082181120 : UInt64)), .second, .val (.int ls), .val (.int (3 : Int32)), .val (.double lg), .second, .unset, .unset, .unset, .unset, .unset, .unset] [(.double (9223372036854775808 : UInt64))])) _
      refine XS.dstore X2.here hx rfl (hb hby at_105) rfl (l' := #[.val (.int i), .val (.int j), .val (.int k), .val (.double (18442240474082181120 : UInt64)), .second, .val (.int ls), .val (.int (3 : Int32)), .val (.double lg), .second, .val (.double (9223372036854775808 : UInt64)), .second, .unset, .unset, .unset, .unset]) rfl ?_
      exact kt
  obtain ⟨zf, hzf, hzf_st⟩ : ∃ zf : Int32, (zf = 1 ∧ (ls = 1 ∨ ((ls = 0 ∨ ls = 3) ∧ i = 0)) ∨ zf = 0 ∧ ¬ (ls = 1 ∨ ((ls = 0 ∨ ls = 3) ∧ i = 0))) ∧ ∀ t, Steps p.tables e below (T2.setTop (mkF m 135 #[.val (.int i), .val (.int j), .val (.int k), .val (.double (18442240474082181120 : UInt64)), .second, .val (.int ls), .val (.int cs), .val (.double lg), .second, .val (.double cm), .second, .val (.int zf), .unset, .unset, .unset] [])) t → Steps p.tables e below (T2.setTop (mkF m 107 #[.val (.int i), .val (.int j), .val (.int k), .val (.double (18442240474082181120 : UInt64)), .second, .val (.int ls), .val (.int cs), .val (.double lg), .second, .val (.double cm), .second, .unset, .unset, .unset, .unset] [])) t := by
    by_cases q1 : ls = 1
    · skip
      refine ⟨(1 : Int32), by simp [q1], fun t kt => ?_⟩
      refine XS.iload X2.here hx rfl (hb hby at_107) rfl ?_
      show Steps p.tables e below (T2.setTop (mkF m 109 #[.val (.int i), .val (.int j), .val (.int k), .val (.double (18442240474082181120 : UInt64)), .second, .val (.int ls), .val (.int cs), .val (.double lg), .second, .val (.double cm), .second, .unset, .unset, .unset, .unset] [(.int ls)])) _
      refine XS.iconst X2.here hx rfl (hb hby at_109) ?_
      show Steps p.tables e below (T2.setTop (mkF m 110 #[.val (.int i), .val (.int j), .val (.int k), .val (.double (18442240474082181120 : UInt64)), .second, .val (.int ls), .val (.int cs), .val (.double lg), .second, .val (.double cm), .second, .unset, .unset, .unset, .unset] [(.int (1 : Int32)), (.int ls)])) _
      refine XS.icmpYes X2.here hx rfl (pc0 := 110) (pc' := 128) rfl (hb hby at_110) rfl (teq (q1 : ls = (1 : Int32))).1 (by decide) (by decide) ?_
      show Steps p.tables e below (T2.setTop (mkF m 128 #[.val (.int i), .val (.int j), .val (.int k), .val (.double (18442240474082181120 : UInt64)), .second, .val (.int ls), .val (.int cs), .val (.double lg), .second, .val (.double cm), .second, .unset, .unset, .unset, .unset] [])) _
      refine XS.iconst X2.here hx rfl (hb hby at_128) ?_
      show Steps p.tables e below (T2.setTop (mkF m 129 #[.val (.int i), .val (.int j), .val (.int k), .val (.double (18442240474082181120 : UInt64)), .second, .val (.int ls), .val (.int cs), .val (.double lg), .second, .val (.double cm), .second, .unset, .unset, .unset, .unset] [(.int (1 : Int32))])) _
      refine XS.goto X2.here hx rfl (pc0 := 129) (pc' := 133) rfl (hb hby at_129) (by decide) (by decide) ?_
      show Steps p.tables e below (T2.setTop (mkF m 133 #[.val (.int i), .val (.int j), .val (.int k), .val (.double (18442240474082181120 : UInt64)), .second, .val (.int ls), .val (.int cs), .val (.double lg), .second, .val (.double cm), .second, .unset, .unset, .unset, .unset] [(.int (1 : Int32))])) _
      refine XS.istore X2.here hx rfl (hb hby at_133) rfl (l' := #[.val (.int i), .val (.int j), .val (.int k), .val (.double (18442240474082181120 : UInt64)), .second, .val (.int ls), .val (.int cs), .val (.double lg), .second, .val (.double cm), .second, .val (.int (1 : Int32)), .unset, .unset, .unset]) rfl ?_
      exact kt
    by_cases q2 : ls = 0
    · by_cases q3 : i = 0
      · skip
        refine ⟨(1 : Int32), by simp [q1, q2, q3], fun t kt => ?_⟩
        refine XS.iload X2.here hx rfl (hb hby at_107) rfl ?_
        show Steps p.tables e below (T2.setTop (mkF m 109 #[.val (.int i), .val (.int j), .val (.int k), .val (.double (18442240474082181120 : UInt64)), .second, .val (.int ls), .val (.int cs), .val (.double lg), .second, .val (.double cm), .second, .unset, .unset, .unset, .unset] [(.int ls)])) _
        refine XS.iconst X2.here hx rfl (hb hby at_109) ?_
        show Steps p.tables e below (T2.setTop (mkF m 110 #[.val (.int i), .val (.int j), .val (.int k), .val (.double (18442240474082181120 : UInt64)), .second, .val (.int ls), .val (.int cs), .val (.double lg), .second, .val (.double cm), .second, .unset, .unset, .unset, .unset] [(.int (1 : Int32)), (.int ls)])) _
        refine XS.icmpNo X2.here hx rfl (hb hby at_110) rfl (feq (q1 : ¬ (ls = (1 : Int32)))).1 ?_
        show Steps p.tables e below (T2.setTop (mkF m 113 #[.val (.int i), .val (.int j), .val (.int k), .val (.double (18442240474082181120 : UInt64)), .second, .val (.int ls), .val (.int cs), .val (.double lg), .second, .val (.double cm), .second, .unset, .unset, .unset, .unset] [])) _
        refine XS.iload X2.here hx rfl (hb hby at_113) rfl ?_
        show Steps p.tables e below (T2.setTop (mkF m 115 #[.val (.int i), .val (.int j), .val (.int k), .val (.double (18442240474082181120 : UInt64)), .second, .val (.int ls), .val (.int cs), .val (.double lg), .second, .val (.double cm), .second, .unset, .unset, .unset, .unset] [(.int ls)])) _
        refine XS.ifYes X2.here hx rfl (pc0 := 115) (pc' := 124) rfl (hb hby at_115) rfl ((if0 _ _).trans (teq (q2 : ls = (0 : Int32))).1) (by decide) (by decide) ?_
        show Steps p.tables e below (T2.setTop (mkF m 124 #[.val (.int i), .val (.int j), .val (.int k), .val (.double (18442240474082181120 : UInt64)), .second, .val (.int ls), .val (.int cs), .val (.double lg), .second, .val (.double cm), .second, .unset, .unset, .unset, .unset] [])) _
        refine XS.iloadN X2.here hx rfl (hb hby at_124) rfl ?_
        show Steps p.tables e below (T2.setTop (mkF m 125 #[.val (.int i), .val (.int j), .val (.int k), .val (.double (18442240474082181120 : UInt64)), .second, .val (.int ls), .val (.int cs), .val (.double lg), .second, .val (.double cm), .second, .unset, .unset, .unset, .unset] [(.int i)])) _
        refine XS.ifNo X2.here hx rfl (hb hby at_125) rfl ((if0 _ _).trans (teq (q3 : i = (0 : Int32))).2) ?_
        show Steps p.tables e below (T2.setTop (mkF m 128 #[.val (.int i), .val (.int j), .val (.int k), .val (.double (18442240474082181120 : UInt64)), .second, .val (.int ls), .val (.int cs), .val (.double lg), .second, .val (.double cm), .second, .unset, .unset, .unset, .unset] [])) _
        refine XS.iconst X2.here hx rfl (hb hby at_128) ?_
        show Steps p.tables e below (T2.setTop (mkF m 129 #[.val (.int i), .val (.int j), .val (.int k), .val (.double (18442240474082181120 : UInt64)), .second, .val (.int ls), .val (.int cs), .val (.double lg), .second, .val (.double cm), .second, .unset, .unset, .unset, .unset] [(.int (1 : Int32))])) _
        refine XS.goto X2.here hx rfl (pc0 := 129) (pc' := 133) rfl (hb hby at_129) (by decide) (by decide) ?_
        show Steps p.tables e below (T2.setTop (mkF m 133 #[.val (.int i), .val (.int j), .val (.int k), .val (.double (18442240474082181120 : UInt64)), .second, .val (.int ls), .val (.int cs), .val (.double lg), .second, .val (.double cm), .second, .unset, .unset, .unset, .unset] [(.int (1 : Int32))])) _
        refine XS.istore X2.here hx rfl (hb hby at_133) rfl (l' := #[.val (.int i), .val (.int j), .val (.int k), .val (.double (18442240474082181120 : UInt64)), .second, .val (.int ls), .val (.int cs), .val (.double lg), .second, .val (.double cm), .second, .val (.int (1 : Int32)), .unset, .unset, .unset]) rfl ?_
        exact kt
      · skip
        refine ⟨(0 : Int32), by simp [q1, q2, q3], fun t kt => ?_⟩
        refine XS.iload X2.here hx rfl (hb hby at_107) rfl ?_
        show Steps p.tables e below (T2.setTop (mkF m 109 #[.val (.int i), .val (.int j), .val (.int k), .val (.double (18442240474082181120 : UInt64)), .second, .val (.int ls), .val (.int cs), .val (.double lg), .second, .val (.double cm), .second, .unset, .unset, .unset, .unset] [(.int ls)])) _
        refine XS.iconst X2.here hx rfl (hb hby at_109) ?_
        show Steps p.tables e below (T2.setTop (mkF m 110 #[.val (.int i), .val (.int j), .val (.int k), .val (.double (18442240474082181120 : UInt64)), .second, .val (.int ls), .val (.int cs), .val (.double lg), .second, .val (.double cm), .second, .unset, .unset, .unset, .unset] [(.int (1 : Int32)), (.int ls)])) _
        refine XS.icmpNo X2.here hx rfl (hb hby at_110) rfl (feq (q1 : ¬ (ls = (1 : Int32)))).1 ?_
        show Steps p.tables e below (T2.setTop (mkF m 113 #[.val (.int i), .val (.int j), .val (.int k), .val (.double (18442240474082181120 : UInt64)), .second, .val (.int ls), .val (.int cs), .val (.double lg), .second, .val (.double cm), .second, .unset, .unset, .unset, .unset] [])) _
        refine XS.iload X2.here hx rfl (hb hby at_113) rfl ?_
        show Steps p.tables e below (T2.setTop (mkF m 115 #[.val (.int i), .val (.int j), .val (.int k), .val (.double (18442240474082181120 : UInt64)), .second, .val (.int ls), .val (.int cs), .val (.double lg), .second, .val (.double cm), .second, .unset, .unset, .unset, .unset] [(.int ls)])) _
        refine XS.ifYes X2.here hx rfl (pc0 := 115) (pc' := 124) rfl (hb hby at_115) rfl ((if0 _ _).trans (teq (q2 : ls = (0 : Int32))).1) (by decide) (by decide) ?_
        show Steps p.tables e below (T2.setTop (mkF m 124 #[.val (.int i), .val (.int j), .val (.int k), .val (.double (18442240474082181120 : UInt64)), .second, .val (.int ls), .val (.int cs), .val (.double lg), .second, .val (.double cm), .second, .unset, .unset, .unset, .unset] [])) _
        refine XS.iloadN X2.here hx rfl (hb hby at_124) rfl ?_
        show Steps p.tables e below (T2.setTop (mkF m 125 #[.val (.int i), .val (.int j), .val (.int k), .val (.double (18442240474082181120 : UInt64)), .second, .val (.int ls), .val (.int cs), .val (.double lg), .second, .val (.double cm), .second, .unset, .unset, .unset, .unset] [(.int i)])) _
        refine XS.ifYes X2.here hx rfl (pc0 := 125) (pc' := 132) rfl (hb hby at_125) rfl ((if0 _ _).trans (feq (q3 : ¬ (i = (0 : Int32)))).2) (by decide) (by decide) ?_
        show Steps p.tables e below (T2.setTop (mkF m 132 #[.val (.int i), .val (.int j), .val (.int k), .val (.double (18442240474082181120 : UInt64)), .second, .val (.int ls), .val (.int cs), .val (.double lg), .second, .val (.double cm), .second, .unset, .unset, .unset, .unset] [])) _
        refine XS.iconst X2.here hx rfl (hb hby at_132) ?_
        show Steps p.tables e below (T2.setTop (mkF m 133 #[.val (.int i), .val (.int j), .val (.int k), .val (.double (18442240474082181120 : UInt64)), .second, .val (.int ls), .val (.int cs), .val (.double lg), .second, .val (.double cm), .second, .unset, .unset, .unset, .unset] [(.int (0 : Int32))])) _
        refine XS.istore X2.here hx rfl (hb hby at_133) rfl (l' := #[.val (.int i), .val (.int j), .val (.int k), .val (.double (18442240474082181120 : UInt64)), .second, .val (.int ls), .val (.int cs), .val (.double lg), .second, .val (.double cm), .second, .val (.int (0 : Int32)), .unset, .unset, .unset]) rfl ?_
        exact kt
    by_cases q4 : ls = 3
    · by_cases q3 : i = 0
      · skip
        refine ⟨(1 : Int32), by simp [q1, q2, q3, q4], fun t kt => ?_⟩
        refine XS.iload X2.here hx rfl (hb hby at_107) rfl ?_
        show Steps p.tables e below (T2.setTop (mkF m 109 #[.val (.int i), .val (.int j), .val (.int k), .val (.double (18442240474082181120 : UInt64)), .second, .val (.int ls), .val (.int cs), .val (.double lg), .second, .val (.double cm), .second, .unset, .unset, .unset, .unset] [(.int ls)])) _
        refine XS.iconst X2.here hx rfl (hb hby at_109) ?_
        show Steps p.tables e below (T2.setTop (mkF m 110 #[.val (.int i), .val (.int j), .val (.int k), .val (.double (18442240474082181120 : UInt64)), .second, .val (.int ls), .val (.int cs), .val (.double lg), .second, .val (.double cm), .second, .unset, .unset, .unset, .unset] [(.int (1 : Int32)), (.int ls)])) _
        refine XS.icmpNo X2.here hx rfl (hb hby at_110) rfl (feq (q1 : ¬ (ls = (1 : Int32)))).1 ?_
        show Steps p.tables e below (T2.setTop (mkF m 113 #[.val (.int i), .val (.int j), .val (.int k), .val (.double (18442240474082181120 : UInt64)), .second, .val (.int ls), .val (.int cs), .val (.double lg), .second, .val (.double cm), .second, .unset, .unset, .unset, .unset] [])) _
        refine XS.iload X2.here hx rfl (hb hby at_113) rfl ?_
        show Steps p.tables e below (T2.setTop (mkF m 115 #[.val (.int i), .val (.int j), .val (.int k), .val (.double (18442240474082181120 : UInt64)), .second, .val (.int ls), .val (.int cs), .val (.double lg), .second, .val (.double cm), .second, .unset, .unset, .unset, .unset] [(.int ls)])) _
        refine XS.ifNo X2.here hx rfl (hb hby at_115) rfl ((if0 _ _).trans (feq (q2 : ¬ (ls = (0 : Int32)))).1) ?_
        show Steps p.tables e below (T2.setTop (mkF m 118 #[.val (.int i), .val (.int j), .val (.int k), .val (.double (18442240474082181120 : UInt64)), .second, .val (.int ls), .val (.int cs), .val (.double lg), .second, .val (.double cm), .second, .unset, .unset, .unset, .unset] [])) _
        refine XS.iload X2.here hx rfl (hb hby at_118) rfl ?_
        show Steps p.tables e below (T2.setTop (mkF m 120 #[.val (.int i), .val (.int j), .val (.int k), .val (.double (18442240474082181120 : UInt64)), .second, .val (.int ls), .val (.int cs), .val (.double lg), .second, .val (.double cm), .second, .unset, .unset, .unset, .unset] [(.int ls)])) _
        refine XS.iconst X2.here hx rfl (hb hby at_120) ?_
        show Steps p.tables e below (T2.setTop (mkF m 121 #[.val (.int i), .val (.int j), .val (.int k), .val (.double (18442240474082181120 : UInt64)), .second, .val (.int ls), .val (.int cs), .val (.double lg), .second, .val (.double cm), .second, .unset, .unset, .unset, .unset] [(.int (3 : Int32)), (.int ls)])) _
        refine XS.icmpNo X2.here hx rfl (hb hby at_121) rfl (teq (q4 : ls = (3 : Int32))).2 ?_
        show Steps p.tables e below (T2.setTop (mkF m 124 #[.val (.int i), .val (.int j), .val (.int k), .val (.double (18442240474082181120 : UInt64)), .second, .val (.int ls), .val (.int cs), .val (.double lg), .second, .val (.double cm), .second, .unset, .unset, .unset, .unset] [])) _
        refine XS.iloadN X2.here hx rfl (hb hby at_124) rfl ?_
        show Steps p.tables e below (T2.setTop (mkF m 125 #[.val (.int i), .val (.int j), .val (.int k), .val (.double (18442240474082181120 : UInt64)), .second, .val (.int ls), .val (.int cs), .val (.double lg), .second, .val (.double cm), .second, .unset, .unset, .unset, .unset] [(.int i)])) _
        refine XS.ifNo X2.here hx rfl (hb hby at_125) rfl ((if0 _ _).trans (teq (q3 : i = (0 : Int32))).2) ?_
        show Steps p.tables e below (T2.setTop (mkF m 128 #[.val (.int i), .val (.int j), .val (.int k), .val (.double (18442240474082181120 : UInt64)), .second, .val (.int ls), .val (.int cs), .val (.double lg), .second, .val (.double cm), .second, .unset, .unset, .unset, .unset] [])) _
        refine XS.iconst X2.here hx rfl (hb hby at_128) ?_
        show Steps p.tables e below (T2.setTop (mkF m 129 #[.val (.int i), .val (.int j), .val (.int k), .val (.double (18442240474082181120 : UInt64)), .second, .val (.int ls), .val (.int cs), .val (.double lg), .second, .val (.double cm), .second, .unset, .unset, .unset, .unset] [(.int (1 : Int32))])) _
        refine XS.goto X2.here hx rfl (pc0 := 129) (pc' := 133) rfl (hb hby at_129) (by decide) (by decide) ?_
        show Steps p.tables e below (T2.setTop (mkF m 133 #[.val (.int i), .val (.int j), .val (.int k), .val (.double (18442240474082181120 : UInt64)), .second, .val (.int ls), .val (.int cs), .val (.double lg), .second, .val (.double cm), .second, .unset, .unset, .unset, .unset] [(.int (1 : Int32))])) _
        refine XS.istore X2.here hx rfl (hb hby at_133) rfl (l' := #[.val (.int i), .val (.int j), .val (.int k), .val (.double (18442240474082181120 : UInt64)), .second, .val (.int ls), .val (.int cs), .val (.double lg), .second, .val (.double cm), .second, .val (.int (1 : Int32)), .unset, .unset, .unset]) rfl ?_
        exact kt
      · skip
        refine ⟨(0 : Int32), by simp [q1, q2, q3, q4], fun t kt => ?_⟩
        refine XS.iload X2.here hx rfl (hb hby at_107) rfl ?_
        show Steps p.tables e below (T2.setTop (mkF m 109 #[.val (.int i), .val (.int j), .val (.int k), .val (.double (18442240474082181120 : UInt64)), .second, .val (.int ls), .val (.int cs), .val (.double lg), .second, .val (.double cm), .second, .unset, .unset, .unset, .unset] [(.int ls)])) _
        refine XS.iconst X2.here hx rfl (hb hby at_109) ?_
        show Steps p.tables e below (T2.setTop (mkF m 110 #[.val (.int i), .val (.int j), .val (.int k), .val (.double (18442240474082181120 : UInt64)), .second, .val (.int ls), .val (.int cs), .val (.double lg), .second, .val (.double cm), .second, .unset, .unset, .unset, .unset] [(.int (1 : Int32)), (.int ls)])) _
        refine XS.icmpNo X2.here hx rfl (hb hby at_110) rfl (feq (q1 : ¬ (ls = (1 : Int32)))).1 ?_
        show Steps p.tables e below (T2.setTop (mkF m 113 #[.val (.int i), .val (.int j), .val (.int k), .val (.double (18442240474082181120 : UInt64)), .second, .val (.int ls), .val (.int cs), .val (.double lg), .second, .val (.double cm), .second, .unset, .unset, .unset, .unset] [])) _
        refine XS.iload X2.here hx rfl (hb hby at_113) rfl ?_
        show Steps p.tables e below (T2.setTop (mkF m 115 #[.val (.int i), .val (.int j), .val (.int k), .val (.double (18442240474082181120 : UInt64)), .second, .val (.int ls), .val (.int cs), .val (.double lg), .second, .val (.double cm), .second, .unset, .unset, .unset, .unset] [(.int ls)])) _
        refine XS.ifNo X2.here hx rfl (hb hby at_115) rfl ((if0 _ _).trans (feq (q2 : ¬ (ls = (0 : Int32)))).1) ?_
        show Steps p.tables e below (T2.setTop (mkF m 118 #[.val (.int i), .val (.int j), .val (.int k), .val (.double (18442240474082181120 : UInt64)), .second, .val (.int ls), .val (.int cs), .val (.double lg), .second, .val (.double cm), .second, .unset, .unset, .unset, .unset] [])) _
        refine XS.iload X2.here hx rfl (hb hby at_118) rfl ?_
        show Steps p.tables e below (T2.setTop (mkF m 120 #[.val (.int i), .val (.int j), .val (.int k), .val (.double (18442240474082181120 : UInt64)), .second, .val (.int ls), .val (.int cs), .val (.double lg), .second, .val (.double cm), .second, .unset, .unset, .unset, .unset] [(.int ls)])) _
        refine XS.iconst X2.here hx rfl (hb hby at_120) ?_
        show Steps p.tables e below (T2.setTop (mkF m 121 #[.val (.int i), .val (.int j), .val (.int k), .val (.double (18442240474082181120 : UInt64)), .second, .val (.int ls), .val (.int cs), .val (.double lg), .second, .val (.double cm), .second, .unset, .unset, .unset, .unset] [(.int (3 : Int32)), (.int ls)])) _
        refine XS.icmpNo X2.here hx rfl (hb hby at_121) rfl (teq (q4 : ls = (3 : Int32))).2 ?_
        show Steps p.tables e below (T2.setTop (mkF m 124 #[.val (.int i), .val (.int j), .val (.int k), .val (.double (18442240474082181120 : UInt64)), .second, .val (.int ls), .val (.int cs), .val (.double lg), .second, .val (.double cm), .second, .unset, .unset, .unset, .unset] [])) _
        refine XS.iloadN X2.here hx rfl (hb hby at_124) rfl ?_
        show Steps p.tables e below (T2.setTop (mkF m 125 #[.val (.int i), .val (.int j), .val (.int k), .val (.double (18442240474082181120 : UInt64)), .second, .val (.int ls), .val (.int cs), .val (.double lg), .second, .val (.double cm), .second, .unset, .unset, .unset, .unset] [(.int i)])) _
        refine XS.ifYes X2.here hx rfl (pc0 := 125) (pc' := 132) rfl (hb hby at_125) rfl ((if0 _ _).trans (feq (q3 : ¬ (i = (0 : Int32)))).2) (by decide) (by decide) ?_
        show Steps p.tables e below (T2.setTop (mkF m 132 #[.val (.int i), .val (.int j), .val (.int k), .val (.double (18442240474082181120 : UInt64)), .second, .val (.int ls), .val (.int cs), .val (.double lg), .second, .val (.double cm), .second, .unset, .unset, .unset, .unset] [])) _
        refine XS.iconst X2.here hx rfl (hb hby at_132) ?_
        show Steps p.tables e below (T2.setTop (mkF m 133 #[.val (.int i), .val (.int j), .val (.int k), .val (.double (18442240474082181120 : UInt64)), .second, .val (.int ls), .val (.int cs), .val (.double lg), .second, .val (.double cm), .second, .unset, .unset, .unset, .unset] [(.int (0 : Int32))])) _
        refine XS.istore X2.here hx rfl (hb hby at_133) rfl (l' := #[.val (.int i), .val (.int j), .val (.int k), .val (.double (18442240474082181120 : UInt64)), .second, .val (.int ls), .val (.int cs), .val (.double lg), .second, .val (.double cm), .second, .val (.int (0 : Int32)), .unset, .unset, .unset]) rfl ?_
        exact kt
    · skip
      refine ⟨(0 : Int32), by simp [q1, q2, q4], fun t kt => ?_⟩
      refine XS.iload X2.here hx rfl (hb hby at_107) rfl ?_
      show Steps p.tables e below (T2.setTop (mkF m 109 #[.val (.int i), .val (.int j), .val (.int k), .val (.double (18442240474082181120 : UInt64)), .second, .val (.int ls), .val (.int cs), .val (.double lg), .second, .val (.double cm), .second, .unset, .unset, .unset, .unset] [(.int ls)])) _
      refine XS.iconst X2.here hx rfl (hb hby at_109) ?_
      show Steps p.tables e below (T2.setTop (mkF m 110 #[.val (.int i), .val (.int j), .val (.int k), .val (.double (18442240474082181120 : UInt64)), .second, .val (.int ls), .val (.int cs), .val (.double lg), .second, .val (.double cm), .second, .unset, .unset, .unset, .unset] [(.int (1 : Int32)), (.int ls)])) _
      refine XS.icmpNo X2.here hx rfl (hb hby at_110) rfl (feq (q1 : ¬ (ls = (1 : Int32)))).1 ?_
      show Steps p.tables e below (T2.setTop (mkF m 113 #[.val (.int i), .val (.int j), .val (.int k), .val (.double (18442240474082181120 : UInt64)), .second, .val (.int ls), .val (.int cs), .val (.double lg), .second, .val (.double cm), .second, .unset, .unset, .unset, .unset] [])) _
      refine XS.iload X2.here hx rfl (hb hby at_113) rfl ?_
      show Steps p.tables e below (T2.setTop (mkF m 115 #[.val (.int i), .val (.int j), .val (.int k), .val (.double (18442240474082181120 : UInt64)), .second, .val (.int ls), .val (.int cs), .val (.double lg), .second, .val (.double cm), .second, .unset, .unset, .unset, .unset] [(.int ls)])) _
      refine XS.ifNo X2.here hx rfl (hb hby at_115) rfl ((if0 _ _).trans (feq (q2 : ¬ (ls = (0 : Int32)))).1) ?_
      show Steps p.tables e below (T2.setTop (mkF m 118 #[.val (.int i), .val (.int j), .val (.int k), .val (.double (18442240474082181120 : UInt64)), .second, .val (.int ls), .val (.int cs), .val (.double lg), .second, .val (.double cm), .second, .unset, .unset, .unset, .unset] [])) _
      refine XS.iload X2.here hx rfl (hb hby at_118) rfl ?_
      show Steps p.tables e below (T2.setTop (mkF m 120 #[.val (.int i), .val (.int j), .val (.int k), .val (.double (18442240474082181120 : UInt64)), .second, .val (.int ls), .val (.int cs), .val (.double lg), .second, .val (.double cm), .second, .unset, .unset, .unset, .unset] [(.int ls)])) _
      refine XS.iconst X2.here hx rfl (hb hby at_120) ?_
      show Steps p.tables e below (T2.setTop (mkF m 121 #[.val (.int i), .val (.int j), .val (.int k), .val (.double (18442240474082181120 : UInt64)), .second, .val (.int ls), .val (.int cs), .val (.double lg), .second, .val (.double cm), .second, .unset, .unset, .unset, .unset] [(.int (3 : Int32)), (.int ls)])) _
      refine XS.icmpYes X2.here hx rfl (pc0 := 121) (pc' := 132) rfl (hb hby at_121) rfl (feq (q4 : ¬ (ls = (3 : Int32)))).2 (by decide) (by decide) ?_
      show Steps p.tables e below (T2.setTop (mkF m 132 #[.val (.int i), .val (.int j), .val (.int k), .val (.double (18442240474082181120 : UInt64)), .second, .val (.int ls), .val (.int cs), .val (.double lg), .second, .val (.double cm), .second, .unset, .unset, .unset, .unset] [])) _
      refine XS.iconst X2.here hx rfl (hb hby at_132) ?_
      show Steps p.tables e below (T2.setTop (mkF m 133 #[.val (.int i), .val (.int j), .val (.int k), .val (.double (18442240474082181120 : UInt64)), .second, .val (.int ls), .val (.int cs), .val (.double lg), .second, .val (.double cm), .second, .unset, .unset, .unset, .unset] [(.int (0 : Int32))])) _
      refine XS.istore X2.here hx rfl (hb hby at_133) rfl (l' := #[.val (.int i), .val (.int j), .val (.int k), .val (.double (18442240474082181120 : UInt64)), .second, .val (.int ls), .val (.int cs), .val (.double lg), .second, .val (.double cm), .second, .val (.int (0 : Int32)), .unset, .unset, .unset]) rfl ?_
      exact kt
  obtain ⟨cf, hcf, hcf_st⟩ : ∃ cf : Int32, (cf = 1 ∧ cs = 1 ∨ cf = 0 ∧ ¬ cs = 1) ∧ ∀ t, Steps p.tables e below (T2.setTop (mkF m 148 #[.val (.int i), .val (.int j), .val (.int k), .val (.double (18442240474082181120 : UInt64)), .second, .val (.int ls), .val (.int cs), .val (.double lg), .second, .val (.double cm), .second, .val (.int zf), .val (.int cf), .unset, .unset] [])) t → Steps p.tables e below (T2.setTop (mkF m 135 #[.val (.int i), .val (.int j), .val (.int k), .val (.double (18442240474082181120 : UInt64)), .second, .val (.int ls), .val (.int cs), .val (.double lg), .second, .val (.double cm), .second, .val (.int zf), .unset, .unset, .unset] [])) t := by
    by_cases q1 : cs = 1
    · skip
      refine ⟨(1 : Int32), by simp [q1], fun t kt => ?_⟩
      refine XS.iload X2.here hx rfl (hb hby at_135) rfl ?_
      show Steps p.tables e below (T2.setTop (mkF m 137 #[.val (.int i), .val (.int j), .val (.int k), .val (.double (18442240474082181120 : UInt64)), .second, .val (.int ls), .val (.int cs), .val (.double lg), .second, .val (.double cm), .second, .val (.int zf), .unset, .unset, .unset] [(.int cs)])) _
      refine XS.iconst X2.here hx rfl (hb hby at_137) ?_
      show Steps p.tables e below (T2.setTop (mkF m 138 #[.val (.int i), .val (.int j), .val (.int k), .val (.double (18442240474082181120 : UInt64)), .second, .val (.int ls), .val (.int cs), .val (.double lg), .second, .val (.double cm), .second, .val (.int zf), .unset, .unset, .unset] [(.int (1 : Int32)), (.int cs)])) _
      refine XS.icmpNo X2.here hx rfl (hb hby at_138) rfl (teq (q1 : cs = (1 : Int32))).2 ?_
      show Steps p.tables e below (T2.setTop (mkF m 141 #[.val (.int i), .val (.int j), .val (.int k), .val (.double (18442240474082181120 : UInt64)), .second, .val (.int ls), .val (.int cs), .val (.double lg), .second, .val (.double cm), .second, .val (.int zf), .unset, .unset, .unset] [])) _
      refine XS.iconst X2.here hx rfl (hb hby at_141) ?_
      show Steps p.tables e below (T2.setTop (mkF m 142 #[.val (.int i), .val (.int j), .val (.int k), .val (.double (18442240474082181120 : UInt64)), .second, .val (.int ls), .val (.int cs), .val (.double lg), .second, .val (.double cm), .second, .val (.int zf), .unset, .unset, .unset] [(.int (1 : Int32))])) _
      refine XS.goto X2.here hx rfl (pc0 := 142) (pc' := 146) rfl (hb hby at_142) (by decide) (by decide) ?_
      show Steps p.tables e below (T2.setTop (mkF m 146 #[.val (.int i), .val (.int j), .val (.int k), .val (.double (18442240474082181120 : UInt64)), .second, .val (.int ls), .val (.int cs), .val (.double lg), .second, .val (.double cm), .second, .val (.int zf), .unset, .unset, .unset] [(.int (1 : Int32))])) _
      refine XS.istore X2.here hx rfl (hb hby at_146) rfl (l' := #[.val (.int i), .val (.int j), .val (.int k), .val (.double (18442240474082181120 : UInt64)), .second, .val (.int ls), .val (.int cs), .val (.double lg), .second, .val (.double cm), .second, .val (.int zf), .val (.int (1 : Int32)), .unset, .unset]) rfl ?_
      exact kt
    · skip
      refine ⟨(0 : Int32), by simp [q1], fun t kt => ?_⟩
      refine XS.iload X2.here hx rfl (hb hby at_135) rfl ?_
      show Steps p.tables e below (T2.setTop (mkF m 137 #[.val (.int i), .val (.int j), .val (.int k), .val (.double (18442240474082181120 : UInt64)), .second, .val (.int ls), .val (.int cs), .val (.double lg), .second, .val (.double cm), .second, .val (.int zf), .unset, .unset, .unset] [(.int cs)])) _
      refine XS.iconst X2.here hx rfl (hb hby at_137) ?_
      show Steps p.tables e below (T2.setTop (mkF m 138 #[.val (.int i), .val (.int j), .val (.int k), .val (.double (18442240474082181120 : UInt64)), .second, .val (.int ls), .val (.int cs), .val (.double lg), .second, .val (.double cm), .second, .val (.int zf), .unset, .unset, .unset] [(.int (1 : Int32)), (.int cs)])) _
      refine XS.icmpYes X2.here hx rfl (pc0 := 138) (pc' := 145) rfl (hb hby at_138) rfl (feq (q1 : ¬ (cs = (1 : Int32)))).2 (by decide) (by decide) ?_
      show Steps p.tables e below (T2.setTop (mkF m 145 #[.val (.int i), .val (.int j), .val (.int k), .val (.double (18442240474082181120 : UInt64)), .second, .val (.int ls), .val (.int cs), .val (.double lg), .second, .val (.double cm), .second, .val (.int zf), .unset, .unset, .unset] [])) _
      refine XS.iconst X2.here hx rfl (hb hby at_145) ?_
      show Steps p.tables e below (T2.setTop (mkF m 146 #[.val (.int i), .val (.int j), .val (.int k), .val (.double (18442240474082181120 : UInt64)), .second, .val (.int ls), .val (.int cs), .val (.double lg), .second, .val (.double cm), .second, .val (.int zf), .unset, .unset, .unset] [(.int (0 : Int32))])) _
      refine XS.istore X2.here hx rfl (hb hby at_146) rfl (l' := #[.val (.int i), .val (.int j), .val (.int k), .val (.double (18442240474082181120 : UInt64)), .second, .val (.int ls), .val (.int cs), .val (.double lg), .second, .val (.double cm), .second, .val (.int zf), .val (.int (0 : Int32)), .unset, .unset]) rfl ?_
      exact kt
  obtain ⟨xf, hxf, hxf_st⟩ : ∃ xf : Int32, xf = own_held lg cm ∧ ∀ t, Steps p.tables e below (T2.setTop (mkF m 165 #[.val (.int i), .val (.int j), .val (.int k), .val (.double (18442240474082181120 : UInt64)), .second, .val (.int ls), .val (.int cs), .val (.double lg), .second, .val (.double cm), .second, .val (.int zf), .val (.int cf), .val (.int xf), .unset] [])) t → Steps p.tables e below (T2.setTop (mkF m 148 #[.val (.int i), .val (.int j), .val (.int k), .val (.double (18442240474082181120 : UInt64)), .second, .val (.int ls), .val (.int cs), .val (.double lg), .second, .val (.double cm), .second, .val (.int zf), .val (.int cf), .unset, .unset] [])) t := by
    rcases hzf with ⟨rfl, p1⟩ | ⟨rfl, p1⟩ <;> rcases hcf with ⟨rfl, p2⟩ | ⟨rfl, p2⟩
    · skip
      refine ⟨(1 : Int32), ?_, fun t kt => ?_⟩
      · have z1 := hlg; have z2 := hcm; simp only [p1, p2, iff_true, iff_false] at z1 z2; simp [own_held, z1, z2]
      refine XS.iload X2.here hx rfl (hb hby at_148) rfl ?_
      show Steps p.tables e below (T2.setTop (mkF m 150 #[.val (.int i), .val (.int j), .val (.int k), .val (.double (18442240474082181120 : UInt64)), .second, .val (.int ls), .val (.int cs), .val (.double lg), .second, .val (.double cm), .second, .val (.int (1 : Int32)), .val (.int (1 : Int32)), .unset, .unset] [(.int (1 : Int32))])) _
      refine XS.ifNo X2.here hx rfl (hb hby at_150) rfl ((if0 _ _).trans (feq (by decide : ¬ ((1 : Int32) = (0 : Int32)))).1) ?_
      show Steps p.tables e below (T2.setTop (mkF m 153 #[.val (.int i), .val (.int j), .val (.int k), .val (.double (18442240474082181120 : UInt64)), .second, .val (.int ls), .val (.int cs), .val (.double lg), .second, .val (.double cm), .second, .val (.int (1 : Int32)), .val (.int (1 : Int32)), .unset, .unset] [])) _
      refine XS.iload X2.here hx rfl (hb hby at_153) rfl ?_
      show Steps p.tables e below (T2.setTop (mkF m 155 #[.val (.int i), .val (.int j), .val (.int k), .val (.double (18442240474082181120 : UInt64)), .second, .val (.int ls), .val (.int cs), .val (.double lg), .second, .val (.double cm), .second, .val (.int (1 : Int32)), .val (.int (1 : Int32)), .unset, .unset] [(.int (1 : Int32))])) _
      refine XS.ifNo X2.here hx rfl (hb hby at_155) rfl ((if0 _ _).trans (feq (by decide : ¬ ((1 : Int32) = (0 : Int32)))).1) ?_
      show Steps p.tables e below (T2.setTop (mkF m 158 #[.val (.int i), .val (.int j), .val (.int k), .val (.double (18442240474082181120 : UInt64)), .second, .val (.int ls), .val (.int cs), .val (.double lg), .second, .val (.double cm), .second, .val (.int (1 : Int32)), .val (.int (1 : Int32)), .unset, .unset] [])) _
      refine XS.iconst X2.here hx rfl (hb hby at_158) ?_
      show Steps p.tables e below (T2.setTop (mkF m 159 #[.val (.int i), .val (.int j), .val (.int k), .val (.double (18442240474082181120 : UInt64)), .second, .val (.int ls), .val (.int cs), .val (.double lg), .second, .val (.double cm), .second, .val (.int (1 : Int32)), .val (.int (1 : Int32)), .unset, .unset] [(.int (1 : Int32))])) _
      refine XS.goto X2.here hx rfl (pc0 := 159) (pc' := 163) rfl (hb hby at_159) (by decide) (by decide) ?_
      show Steps p.tables e below (T2.setTop (mkF m 163 #[.val (.int i), .val (.int j), .val (.int k), .val (.double (18442240474082181120 : UInt64)), .second, .val (.int ls), .val (.int cs), .val (.double lg), .second, .val (.double cm), .second, .val (.int (1 : Int32)), .val (.int (1 : Int32)), .unset, .unset] [(.int (1 : Int32))])) _
      refine XS.istore X2.here hx rfl (hb hby at_163) rfl (l' := #[.val (.int i), .val (.int j), .val (.int k), .val (.double (18442240474082181120 : UInt64)), .second, .val (.int ls), .val (.int cs), .val (.double lg), .second, .val (.double cm), .second, .val (.int (1 : Int32)), .val (.int (1 : Int32)), .val (.int (1 : Int32)), .unset]) rfl ?_
      exact kt
    · skip
      refine ⟨(0 : Int32), ?_, fun t kt => ?_⟩
      · have z1 := hlg; have z2 := hcm; simp only [p1, p2, iff_true, iff_false] at z1 z2; simp [own_held, z1, z2]
      refine XS.iload X2.here hx rfl (hb hby at_148) rfl ?_
      show Steps p.tables e below (T2.setTop (mkF m 150 #[.val (.int i), .val (.int j), .val (.int k), .val (.double (18442240474082181120 : UInt64)), .second, .val (.int ls), .val (.int cs), .val (.double lg), .second, .val (.double cm), .second, .val (.int (1 : Int32)), .val (.int (0 : Int32)), .unset, .unset] [(.int (1 : Int32))])) _
      refine XS.ifNo X2.here hx rfl (hb hby at_150) rfl ((if0 _ _).trans (feq (by decide : ¬ ((1 : Int32) = (0 : Int32)))).1) ?_
      show Steps p.tables e below (T2.setTop (mkF m 153 #[.val (.int i), .val (.int j), .val (.int k), .val (.double (18442240474082181120 : UInt64)), .second, .val (.int ls), .val (.int cs), .val (.double lg), .second, .val (.double cm), .second, .val (.int (1 : Int32)), .val (.int (0 : Int32)), .unset, .unset] [])) _
      refine XS.iload X2.here hx rfl (hb hby at_153) rfl ?_
      show Steps p.tables e below (T2.setTop (mkF m 155 #[.val (.int i), .val (.int j), .val (.int k), .val (.double (18442240474082181120 : UInt64)), .second, .val (.int ls), .val (.int cs), .val (.double lg), .second, .val (.double cm), .second, .val (.int (1 : Int32)), .val (.int (0 : Int32)), .unset, .unset] [(.int (0 : Int32))])) _
      refine XS.ifYes X2.here hx rfl (pc0 := 155) (pc' := 162) rfl (hb hby at_155) rfl ((if0 _ _).trans (teq (rfl : (0 : Int32) = (0 : Int32))).1) (by decide) (by decide) ?_
      show Steps p.tables e below (T2.setTop (mkF m 162 #[.val (.int i), .val (.int j), .val (.int k), .val (.double (18442240474082181120 : UInt64)), .second, .val (.int ls), .val (.int cs), .val (.double lg), .second, .val (.double cm), .second, .val (.int (1 : Int32)), .val (.int (0 : Int32)), .unset, .unset] [])) _
      refine XS.iconst X2.here hx rfl (hb hby at_162) ?_
      show Steps p.tables e below (T2.setTop (mkF m 163 #[.val (.int i), .val (.int j), .val (.int k), .val (.double (18442240474082181120 : UInt64)), .second, .val (.int ls), .val (.int cs), .val (.double lg), .second, .val (.double cm), .second, .val (.int (1 : Int32)), .val (.int (0 : Int32)), .unset, .unset] [(.int (0 : Int32))])) _
      refine XS.istore X2.here hx rfl (hb hby at_163) rfl (l' := #[.val (.int i), .val (.int j), .val (.int k), .val (.double (18442240474082181120 : UInt64)), .second, .val (.int ls), .val (.int cs), .val (.double lg), .second, .val (.double cm), .second, .val (.int (1 : Int32)), .val (.int (0 : Int32)), .val (.int (0 : Int32)), .unset]) rfl ?_
      exact kt
    · skip
      refine ⟨(1 : Int32), ?_, fun t kt => ?_⟩
      · have z1 := hlg; have z2 := hcm; simp only [p1, p2, iff_true, iff_false] at z1 z2; simp [own_held, z1, z2]
      refine XS.iload X2.here hx rfl (hb hby at_148) rfl ?_
      show Steps p.tables e below (T2.setTop (mkF m 150 #[.val (.int i), .val (.int j), .val (.int k), .val (.double (18442240474082181120 : UInt64)), .second, .val (.int ls), .val (.int cs), .val (.double lg), .second, .val (.double cm), .second, .val (.int (0 : Int32)), .val (.int (1 : Int32)), .unset, .unset] [(.int (0 : Int32))])) _
      refine XS.ifYes X2.here hx rfl (pc0 := 150) (pc' := 158) rfl (hb hby at_150) rfl ((if0 _ _).trans (teq (rfl : (0 : Int32) = (0 : Int32))).1) (by decide) (by decide) ?_
      show Steps p.tables e below (T2.setTop (mkF m 158 #[.val (.int i), .val (.int j), .val (.int k), .val (.double (18442240474082181120 : UInt64)), .second, .val (.int ls), .val (.int cs), .val (.double lg), .second, .val (.double cm), .second, .val (.int (0 : Int32)), .val (.int (1 : Int32)), .unset, .unset] [])) _
      refine XS.iconst X2.here hx rfl (hb hby at_158) ?_
      show Steps p.tables e below (T2.setTop (mkF m 159 #[.val (.int i), .val (.int j), .val (.int k), .val (.double (18442240474082181120 : UInt64)), .second, .val (.int ls), .val (.int cs), .val (.double lg), .second, .val (.double cm), .second, .val (.int (0 : Int32)), .val (.int (1 : Int32)), .unset, .unset] [(.int (1 : Int32))])) _
      refine XS.goto X2.here hx rfl (pc0 := 159) (pc' := 163) rfl (hb hby at_159) (by decide) (by decide) ?_
      show Steps p.tables e below (T2.setTop (mkF m 163 #[.val (.int i), .val (.int j), .val (.int k), .val (.double (18442240474082181120 : UInt64)), .second, .val (.int ls), .val (.int cs), .val (.double lg), .second, .val (.double cm), .second, .val (.int (0 : Int32)), .val (.int (1 : Int32)), .unset, .unset] [(.int (1 : Int32))])) _
      refine XS.istore X2.here hx rfl (hb hby at_163) rfl (l' := #[.val (.int i), .val (.int j), .val (.int k), .val (.double (18442240474082181120 : UInt64)), .second, .val (.int ls), .val (.int cs), .val (.double lg), .second, .val (.double cm), .second, .val (.int (0 : Int32)), .val (.int (1 : Int32)), .val (.int (1 : Int32)), .unset]) rfl ?_
      exact kt
    · skip
      refine ⟨(1 : Int32), ?_, fun t kt => ?_⟩
      · have z1 := hlg; have z2 := hcm; simp only [p1, p2, iff_true, iff_false] at z1 z2; simp [own_held, z1, z2]
      refine XS.iload X2.here hx rfl (hb hby at_148) rfl ?_
      show Steps p.tables e below (T2.setTop (mkF m 150 #[.val (.int i), .val (.int j), .val (.int k), .val (.double (18442240474082181120 : UInt64)), .second, .val (.int ls), .val (.int cs), .val (.double lg), .second, .val (.double cm), .second, .val (.int (0 : Int32)), .val (.int (0 : Int32)), .unset, .unset] [(.int (0 : Int32))])) _
      refine XS.ifYes X2.here hx rfl (pc0 := 150) (pc' := 158) rfl (hb hby at_150) rfl ((if0 _ _).trans (teq (rfl : (0 : Int32) = (0 : Int32))).1) (by decide) (by decide) ?_
      show Steps p.tables e below (T2.setTop (mkF m 158 #[.val (.int i), .val (.int j), .val (.int k), .val (.double (18442240474082181120 : UInt64)), .second, .val (.int ls), .val (.int cs), .val (.double lg), .second, .val (.double cm), .second, .val (.int (0 : Int32)), .val (.int (0 : Int32)), .unset, .unset] [])) _
      refine XS.iconst X2.here hx rfl (hb hby at_158) ?_
      show Steps p.tables e below (T2.setTop (mkF m 159 #[.val (.int i), .val (.int j), .val (.int k), .val (.double (18442240474082181120 : UInt64)), .second, .val (.int ls), .val (.int cs), .val (.double lg), .second, .val (.double cm), .second, .val (.int (0 : Int32)), .val (.int (0 : Int32)), .unset, .unset] [(.int (1 : Int32))])) _
      refine XS.goto X2.here hx rfl (pc0 := 159) (pc' := 163) rfl (hb hby at_159) (by decide) (by decide) ?_
      show Steps p.tables e below (T2.setTop (mkF m 163 #[.val (.int i), .val (.int j), .val (.int k), .val (.double (18442240474082181120 : UInt64)), .second, .val (.int ls), .val (.int cs), .val (.double lg), .second, .val (.double cm), .second, .val (.int (0 : Int32)), .val (.int (0 : Int32)), .unset, .unset] [(.int (1 : Int32))])) _
      refine XS.istore X2.here hx rfl (hb hby at_163) rfl (l' := #[.val (.int i), .val (.int j), .val (.int k), .val (.double (18442240474082181120 : UInt64)), .second, .val (.int ls), .val (.int cs), .val (.double lg), .second, .val (.double cm), .second, .val (.int (0 : Int32)), .val (.int (0 : Int32)), .val (.int (1 : Int32)), .unset]) rfl ?_
      exact kt
  obtain ⟨T4, h4, X4, e4, E4, A4, D4, -, st4⟩ := newO X2 hx hZ hown (hw _ (List.mem_of_getElem? (i := 10) rfl)) (hw _ (List.mem_of_getElem? (i := 11) rfl)) (hw _ (List.mem_of_getElem? (i := 1) rfl)) eq2 (g := (mkF m 165 #[.val (.int i), .val (.int j), .val (.int k), .val (.double (18442240474082181120 : UInt64)), .second, .val (.int ls), .val (.int cs), .val (.double lg), .second, .val (.double cm), .second, .val (.int zf), .val (.int cf), .val (.int xf), .unset] [])) rfl (hb hby at_165) (by decide) (by decide)
  obtain ⟨b5, g4⟩ : ∃ z, z = h0.size := ⟨_, rfl⟩
  rw [← g4] at A4 D4 st4
  have g_b5 : n0 ≤ b5 := Nat.le_trans Z0 (Nat.le_of_eq g4.symm)
  have ne_o1_b5 : o1 ≠ b5 := Nat.ne_of_lt (Nat.lt_of_lt_of_le Eo.lt (Nat.le_of_eq g4.symm))
  have f6 := (Fo.ext E4)
  have f7 := (Eo.ext E4)
  have Zs8 : n0 ≤ h4.size := Nat.le_trans Z0 E4.1
  have f9 : Fld Z h4 b5 "com/example/wildebeest/wildebeest/numeric/Probability" "complementLogarithm" "D" (.double (0 : UInt64)) := D4 (Or.inr (hw _ (List.mem_of_getElem? (i := 9) rfl))) (ty := .double) (by decide)
  have f10 : Fld Z h4 b5 "com/example/wildebeest/wildebeest/numeric/Probability" "logarithm" "D" (.double (0 : UInt64)) := D4 (Or.inr (hw _ (List.mem_of_getElem? (i := 24) rfl))) (ty := .double) (by decide)
  have sg11 : ∀ t, Steps p.tables e below (T4.setTop (mkF m 173 #[.val (.int i), .val (.int j), .val (.int k), .val (.double (18442240474082181120 : UInt64)), .second, .val (.int ls), .val (.int cs), .val (.double lg), .second, .val (.double cm), .second, .val (.int zf), .val (.int cf), .val (.int xf), .unset] [(.double cm), (.double lg), (.ref b5), (.ref b5)])) t → Steps p.tables e below (T4.setTop (mkF m 168 #[.val (.int i), .val (.int j), .val (.int k), .val (.double (18442240474082181120 : UInt64)), .second, .val (.int ls), .val (.int cs), .val (.double lg), .second, .val (.double cm), .second, .val (.int zf), .val (.int cf), .val (.int xf), .unset] [(.ref b5)])) t := by
    intro t kt
    refine XS.dup X4.here hx rfl (hb hby at_168) rfl rfl ?_
    show Steps p.tables e below (T4.setTop (mkF m 169 #[.val (.int i), .val (.int j), .val (.int k), .val (.double (18442240474082181120 : UInt64)), .second, .val (.int ls), .val (.int cs), .val (.double lg), .second, .val (.double cm), .second, .val (.int zf), .val (.int cf), .val (.int xf), .unset] [(.ref b5), (.ref b5)])) _
    refine XS.dload X4.here hx rfl (hb hby at_169) rfl ?_
    show Steps p.tables e below (T4.setTop (mkF m 171 #[.val (.int i), .val (.int j), .val (.int k), .val (.double (18442240474082181120 : UInt64)), .second, .val (.int ls), .val (.int cs), .val (.double lg), .second, .val (.double cm), .second, .val (.int zf), .val (.int cf), .val (.int xf), .unset] [(.double lg), (.ref b5), (.ref b5)])) _
    refine XS.dload X4.here hx rfl (hb hby at_171) rfl ?_
    exact kt
  obtain ⟨_, _, ⟨T12, L12, k12, n12⟩, -, X12, ⟨Lc12, hQ12, l12, y12, z12⟩, st12⟩ := X4.specialBack hx (y := (⟨"com/example/wildebeest/wildebeest/numeric/Probability", "<init>", "(DD)V"⟩ : MethodName)) rfl hown (mvT hZ (hw _ (List.mem_of_getElem? (i := 12) rfl))) (mvT hZ (hw _ (List.mem_of_getElem? (i := 13) rfl))) (mvT hZ (hw _ (List.mem_of_getElem? (i := 14) rfl))) (by decide) (backOf (W := 1) (rm2 l Z a0 hw [] b5 lg cm h4 n0 Zs8 A4 f10 f9 g_b5) hZ (hw _ (List.mem_of_getElem? (i := 14) rfl)) (hw _ (List.mem_of_getElem? (i := 1) rfl)) (by decide) (by decide)) (g := (mkF m 173 #[.val (.int i), .val (.int j), .val (.int k), .val (.double (18442240474082181120 : UInt64)), .second, .val (.int ls), .val (.int cs), .val (.double lg), .second, .val (.double cm), .second, .val (.int zf), .val (.int cf), .val (.int xf), .unset] [(.double cm), (.double lg), (.ref b5), (.ref b5)])) rfl (by rw [hml]; rfl) (Steps.refl _) (a := b5) (argsL := [(.double lg), (.double cm)]) (rest := [(.ref b5)]) (lenOf pd_2 rfl) rfl (by show 2 * 0 + _ ≤ _; exact Nat.le_of_eq rfl) (hb hby at_173) (fun _ _ => ⟨rfl, e4, (by decide : 1 + 0 ≤ _), (by decide : 2 + 0 ≤ _)⟩)
  dsimp only [Pt.U, Pt.locs, Pt.cells, Pt.slots] at X12 l12 y12 z12 st12 hQ12
  subst l12 y12 z12
  obtain ⟨rfl, Nq12, Kq12, Eq12, Fl12, Fc12⟩ := hQ12
  have N12 := Fr.app N2 Nq12
  have Zs13 : n0 ≤ T12.heap.size := Nat.le_trans Zs8 Kq12.1
  have sg14 : ∀ t, Steps p.tables e below (T12.setTop (mkF m 180 #[.val (.int i), .val (.int j), .val (.int k), .val (.double (18442240474082181120 : UInt64)), .second, .val (.int ls), .val (.int cs), .val (.double lg), .second, .val (.double cm), .second, .val (.int zf), .val (.int cf), .val (.int xf), .val (.ref b5)] [(.ref b5)])) t → Steps p.tables e below (T12.setTop (mkF m 176 #[.val (.int i), .val (.int j), .val (.int k), .val (.double (18442240474082181120 : UInt64)), .second, .val (.int ls), .val (.int cs), .val (.double lg), .second, .val (.double cm), .second, .val (.int zf), .val (.int cf), .val (.int xf), .unset] [(.ref b5)])) t := by
    intro t kt
    refine XS.astore X12.here hx rfl (hb hby at_176) rfl rfl (l' := #[.val (.int i), .val (.int j), .val (.int k), .val (.double (18442240474082181120 : UInt64)), .second, .val (.int ls), .val (.int cs), .val (.double lg), .second, .val (.double cm), .second, .val (.int zf), .val (.int cf), .val (.int xf), .val (.ref b5)]) rfl ?_
    show Steps p.tables e below (T12.setTop (mkF m 178 #[.val (.int i), .val (.int j), .val (.int k), .val (.double (18442240474082181120 : UInt64)), .second, .val (.int ls), .val (.int cs), .val (.double lg), .second, .val (.double cm), .second, .val (.int zf), .val (.int cf), .val (.int xf), .val (.ref b5)] [])) _
    refine XS.aload X12.here hx rfl (hb hby at_178) rfl rfl ?_
    exact kt
  obtain ⟨cq15, kq15, q15a, q15b, q15c⟩ := isOf hZ rfl Eq12
  obtain ⟨_, _, ⟨T15, L15, k15, n15⟩, -, X15, ⟨Lc15, hQ15, l15, y15, z15⟩, st15⟩ := X12.virtualBack hx (y := (⟨"com/example/wildebeest/wildebeest/numeric/Probability", "isLogarithmHeld", "()Z"⟩ : MethodName)) (z := (⟨"com/example/wildebeest/wildebeest/numeric/Probability", "isLogarithmHeld", "()Z"⟩ : MethodName)) hown (mvT hZ (hw _ (List.mem_of_getElem? (i := 25) rfl))) (mvT hZ (hw _ (List.mem_of_getElem? (i := 26) rfl))) (notFace_of_selects (args := #[]) (mvT hZ (hw _ (List.mem_of_getElem? (i := 28) rfl)))) (mvT hZ (hw _ (List.mem_of_getElem? (i := 28) rfl))) (mvT hZ (hw _ (List.mem_of_getElem? (i := 27) rfl))) (by decide) (backOf (W := 0) (rm5 l Z a0 hw [] b5 lg cm T12.heap n0 Zs13 Fl12 Fc12) hZ (hw _ (List.mem_of_getElem? (i := 29) rfl)) (hw _ (List.mem_of_getElem? (i := 1) rfl)) (by decide) (by decide)) q15a q15c (g := (mkF m 180 #[.val (.int i), .val (.int j), .val (.int k), .val (.double (18442240474082181120 : UInt64)), .second, .val (.int ls), .val (.int cs), .val (.double lg), .second, .val (.double cm), .second, .val (.int zf), .val (.int cf), .val (.int xf), .val (.ref b5)] [(.ref b5)])) rfl (by rw [hml]; rfl) (Steps.refl _) (argsL := []) (rest := []) (lenOf pd_3 rfl) rfl (by show 2 * 0 + _ ≤ _; exact Nat.le_of_eq rfl) (hb hby at_180) (fun _ _ => ⟨rfl, rfl, (by decide : 1 + 0 ≤ _), (by decide : 2 + 0 ≤ _)⟩)
  dsimp only [Pt.U, Pt.locs, Pt.cells, Pt.slots] at X15 l15 y15 z15 st15 hQ15
  subst l15 y15 z15
  obtain ⟨rfl, Nq15, eq15⟩ := hQ15
  have N15 := Fr.app N12 Nq15
  have sg16 : ∀ t, Steps p.tables e below (T15.setTop (mkF m 193 #[.val (.int i), .val (.int j), .val (.int k), .val (.double (18442240474082181120 : UInt64)), .second, .val (.int ls), .val (.int cs), .val (.double lg), .second, .val (.double cm), .second, .val (.int zf), .val (.int cf), .val (.int xf), .val (.ref b5)] [(.int (1 : Int32))])) t → Steps p.tables e below (T15.setTop (mkF m 183 #[.val (.int i), .val (.int j), .val (.int k), .val (.double (18442240474082181120 : UInt64)), .second, .val (.int ls), .val (.int cs), .val (.double lg), .second, .val (.double cm), .second, .val (.int zf), .val (.int cf), .val (.int xf), .val (.ref b5)] [(.int (own_held lg cm))])) t := by
    intro t kt
    refine XS.iload X15.here hx rfl (hb hby at_183) rfl ?_
    show Steps p.tables e below (T15.setTop (mkF m 185 #[.val (.int i), .val (.int j), .val (.int k), .val (.double (18442240474082181120 : UInt64)), .second, .val (.int ls), .val (.int cs), .val (.double lg), .second, .val (.double cm), .second, .val (.int zf), .val (.int cf), .val (.int xf), .val (.ref b5)] [(.int xf), (.int (own_held lg cm))])) _
    refine XS.icmpNo X15.here hx rfl (hb hby at_185) rfl (teq (hxf.symm : (own_held lg cm) = xf)).2 ?_
    show Steps p.tables e below (T15.setTop (mkF m 188 #[.val (.int i), .val (.int j), .val (.int k), .val (.double (18442240474082181120 : UInt64)), .second, .val (.int ls), .val (.int cs), .val (.double lg), .second, .val (.double cm), .second, .val (.int zf), .val (.int cf), .val (.int xf), .val (.ref b5)] [])) _
    refine XS.iconst X15.here hx rfl (hb hby at_188) ?_
    show Steps p.tables e below (T15.setTop (mkF m 189 #[.val (.int i), .val (.int j), .val (.int k), .val (.double (18442240474082181120 : UInt64)), .second, .val (.int ls), .val (.int cs), .val (.double lg), .second, .val (.double cm), .second, .val (.int zf), .val (.int cf), .val (.int xf), .val (.ref b5)] [(.int (1 : Int32))])) _
    refine XS.goto X15.here hx rfl (pc0 := 189) (pc' := 193) rfl (hb hby at_189) (by decide) (by decide) ?_
    exact kt
  obtain ⟨fs, hr, hrun, hended, hW, hsame⟩ := X15.leave (v := some (.int (1 : Int32))) (fun h => by rw [Bd.returns] at h; cases h)
  refine ⟨_, _, pre0 _ ?_, hrun, hended, _, _, rfl, ?_, ⟨_, rfl⟩, hW, hsame.mono (by decide) (by decide)⟩
  · refine st1 _ ?_
    refine st2.trans ?_
    refine sg3 _ ?_
    refine hlg_st _ ?_
    refine hcm_st _ ?_
    refine hzf_st _ ?_
    refine hcf_st _ ?_
    refine hxf_st _ ?_
    refine st4 _ ?_
    refine sg11 _ ?_
    refine st12.trans ?_
    refine sg14 _ ?_
    refine st15.trans ?_
    refine sg16 _ ?_
    exact retN X15 hx (t := .boolean) Bd.returns (by simp) (hb hby at_193) hr
  · show Q0 Z i j k o1 h0 n0 _ T15.heap _
    rw [eq15]; exact ⟨rfl, N15⟩
set_option maxRecDepth 65536 in
set_option maxHeartbeats 40000000 in
theorem comes_1 {Post : Tables → Env → Array Value → State → Outcome → State → Prop} (hpost : ∀ tb e args s v u, (limb_1_1.after args s (.returned v) u = true ∧ limb_1_2.after args s (.returned v) u = true ∧ True) → FrameEnd s (.returned v) u (Jvm.fieldLocs frame_1_writes args s ++ Jvm.arrayLocs frame_1_arrays args s ++ Jvm.staticLocs frame_1_statics s) 16 128 → Post tb e args s (.returned v) u) :
    ArmFor flags0 classFile x code maxLocals ret World_1 tables_1 room_1 Calls_1 rest_1 Pre_1 Post := by
  intro l hfl _ _ p e ha hc hk s m args below hf hA hF happ hP
  obtain ⟨hcalls, hrest, hpre⟩ := hP
  obtain ⟨-, -, -, hnamed, -, -, -, hat⟩ := (Spec.applies_iff hf).mp happ
  obtain ⟨hg, hn⟩ := and_e (Cond.before_iff.mp (show (Jvm.Cond.and given_1 narrow_1).before args s = true from hpre))
  obtain ⟨h1, h2⟩ := and_e hg
  obtain ⟨w0, w1, w2, rfl⟩ : ∃ w0 w1 w2 : Value, args = #[w0, w1, w2] := by
    have hs : args.size = 3 := by simpa [Cond.value, given_1] using h1
    obtain ⟨L⟩ := args
    match L, hs with
    | [w0, w1, w2], _ => exact ⟨w0, w1, w2, rfl⟩
  have hw := fun d (hd : d ∈ tables_1) => atoms_spec (ws := Jvm.Cond.code x code maxLocals ret :: tables_1) hat d (List.mem_cons_of_mem _ hd)
  have hfit : Fit s := fun {y c} hc i hi => by
    obtain ⟨ha, rfl⟩ := Array.getElem?_eq_some_iff.mp hc
    have q := List.all_eq_true.mp ((Array.all_eq_true_iff_forall_mem.mp hF) _ (Array.getElem_mem ha)) i (List.mem_range.mpr hi)
    simpa [Array.getElem?_eq_getElem hi] using q
  obtain ⟨a0, b0⟩ := and_e h2
  obtain ⟨i0, e0⟩ := is_v a0
  obtain rfl : w0 = (.int i0) := Option.some.inj e0
  obtain ⟨a1, b1⟩ := and_e b0
  obtain ⟨i1, e1⟩ := is_v a1
  obtain rfl : w1 = (.int i1) := Option.some.inj e1
  obtain ⟨i2, e2⟩ := is_v b1
  obtain rfl : w2 = (.int i2) := Option.some.inj e2
  obtain ⟨n1, n2⟩ := and_e hn
  obtain ⟨o1, ev⟩ := exa_v n1
  have So := Sta.start ev (Or.inr ⟨(hw _ (List.mem_of_getElem? (i := 1) rfl)), (hw _ (List.mem_of_getElem? (i := 2) rfl))⟩)
  have Eo := Exa.start ev n1
  have Fo : Fld s s.heap o1 "com/example/wildebeest/wildebeest/numeric/Probability" "complementLogarithm" "D" (.double (18442240474082181120 : UInt64)) := by
    refine Fld.start ?_
    rw [← fld_at (C := "com/example/wildebeest/wildebeest/numeric/Probability") (n := "complementLogarithm") (dd := "D") ev]
    obtain ⟨u, y, eu, ey, -, k2⟩ := cmp_v (Or.inl n2)
    have hv : (Jvm.Term.op1 Jvm.Unary.bitsD (Jvm.Term.long (-4503599627370496 : Int64))).eval #[Value.int i0, Value.int i1, Value.int i2] s none [] s = some (.double (18442240474082181120 : UInt64)) := rfl
    obtain rfl := Option.some.inj (ey.symm.trans hv)
    obtain ⟨z, rfl⟩ := k2
    have n3 := n2
    simp only [Cond.value, eu, ey] at n3
    have hz : z = (18442240474082181120 : UInt64) := by simpa using n3
    rw [eu, hz]
  obtain ⟨n, o, h1, h2, h3, _, L, rfl, ⟨rfl, N⟩, hq⟩ := rm0 l s _ hw tables_1 i0 i1 i2 o1 s.heap s.heap.size (Nat.le_refl _) So Eo Fo p e ha hc hk s m _ below hf ((Spec.applies_iff_loose hf).mp happ).1 ⟨rfl, State.Warmed39.refl s, rfl⟩ trivial
  refine ⟨n, _, h1, h2, h3, hpost _ _ _ _ _ _ ⟨Cond.after_iff.mpr rfl, Cond.after_iff.mpr (eq_i res_at (Term.int_eval (1)) rfl), trivial⟩ ⟨hq.1, hq.2.1, (hq.2.2.sift fun y hy => Or.inr (N y hy)).mono (by decide) (by decide)⟩⟩
theorem main_1_1 : Claimed_1_1 := comes_1 fun _ _ _ _ _ _ h hF => ⟨h.1, hF⟩
theorem main_1_2 : Claimed_1_2 := comes_1 fun _ _ _ _ _ _ h hF => ⟨h.2.1, hF⟩
end Jvm.Pilot.@@N@@
namespace Jvm.Pilot.@@N@@
open Jvm Jvm.ClassFile Sem Op Lib Jvm.Free Jvm.Stand Jvm.Pilot.@@N@@.Jvm.D
/-! MADE BY PROGRAM (witnessworld.py) out of the Statement's table words and the real class files: 10 classes; the members and pool entries that the words name. The judged class is class 1, her method 1. -/
namespace start1
open Jvm.ClassFile
def u (s : String) : CpInfo := .utf8 (stringToUtf16 s)
/-- a pool by its gaps: so many unusable entries, then the entry; so many at the end -/
def gap : Nat → List CpInfo → List CpInfo
  | 0, r => r
  | n + 1, r => .unusable :: gap n r
def poolList (es : List (Nat × CpInfo)) (last : Nat) : List CpInfo := es.foldr (fun e r => gap e.1 (e.2 :: r)) (gap last [])
def pool (es : List (Nat × CpInfo)) (last : Nat) : Array CpInfo := ⟨poolList es last⟩
def fileOf (pool : Array CpInfo) (this : Nat) (attrs : Array Attribute := #[]) (ms : Array MethodInfo := #[]) (fl : Nat := 33) (sup : Nat := 0) (ifs : Array Nat := #[]) (fds : Array FieldInfo := #[]) : ClassFile where
  minorVersion := 0
  majorVersion := 65
  constantPool := pool
  accessFlags := fl
  thisClass := this
  superClass := sup
  interfaces := ifs
  fields := fds
  methods := ms
  attributes := attrs
def plain (name : String) (sup : Option ClassId) : Class where
  name := name
  kind := .ordinary
  loader := none
  accessFlags := 33
  super := sup
  interfaces := #[]
  cf := none
  fields := #[]
  methods := #[]
  instanceTypes := #[]
  staticTypes := #[]
  resolved := #[]
  callSites := []
  init := .initialized
  statics := none
  mirror := none

def pool0 : Array CpInfo := pool [(5, u "<init>"), (0, u "()V"), (1, .class_ 10), (1, u "java/lang/Object")] 113

def k0c0 : Code := { maxStack := 0, maxLocals := 1, code := object_method_1_code, exceptionTable := #[], attributes := #[] }
def k0m0 : Method := { name := "<init>", desc := "()V", sig := { parameters := [], returnType := none }, accessFlags := 1, code := some k0c0 }
/-- java/lang/Object -/
def k0 : Class := { plain "java/lang/Object" none with
  accessFlags := 33
  interfaces := #[]
  cf := some (fileOf pool0 8 #[] #[{ accessFlags := 1, nameIndex := 5, descriptorIndex := 6, attributes := #[] }] 33 0 #[] #[])
  fields := #[]
  methods := #[k0m0]
  instanceTypes := #[]
  staticTypes := #[]
  resolved := Array.replicate 124 none
  statics := none }

def pool1 : Array CpInfo := pool [(2, .class_ 4), (1, u "java/lang/Object"), (0, u "<init>"), (0, u "()V"), (0, .fieldref 8 9), (0, .class_ 10), (0, .nameAndType 11 12), (0, u "com/example/wildebeest/wildebeest/numeric/Probability"), (0, u "ONE"), (0, u "Lcom/example/wildebeest/wildebeest/numeric/Probability;"), (0, .methodref 8 14), (0, .nameAndType 15 16), (0, u "complementLogarithm"), (0, u "()D"), (0, .double 9223372036854775808), (1, .double 4652218415073722368), (1, .methodref 8 22), (0, .nameAndType 5 23), (0, u "(DD)V"), (0, .methodref 8 25), (0, .nameAndType 26 27), (0, u "isLogarithmHeld"), (0, u "()Z"), (0, .class_ 29), (0, u "com/example/wildebeest/wildebeest/numeric/ProbabilityIsLogarithmHeldPinLaw"), (2, u "law"), (0, u "(III)Z")] 3

def k1m0 : Method := { name := "<init>", desc := "()V", sig := { parameters := [], returnType := none }, accessFlags := 1, code := none }
def k1c1 : Code := { maxStack := 6, maxLocals := 15, code := code, exceptionTable := #[], attributes := #[] }
def k1m1 : Method := { name := "law", desc := "(III)Z", sig := { parameters := [.int, .int, .int], returnType := some .boolean }, accessFlags := 9, code := some k1c1 }
/-- com/example/wildebeest/wildebeest/numeric/ProbabilityIsLogarithmHeldPinLaw -/
def k1 : Class := { plain "com/example/wildebeest/wildebeest/numeric/ProbabilityIsLogarithmHeldPinLaw" (some 0) with
  accessFlags := 49
  interfaces := #[]
  cf := some (fileOf pool1 28 #[] #[{ accessFlags := 1, nameIndex := 5, descriptorIndex := 6, attributes := #[] }, { accessFlags := 9, nameIndex := 32, descriptorIndex := 33, attributes := #[] }] 49 2 #[] #[])
  fields := #[]
  methods := #[k1m0, k1m1]
  instanceTypes := #[]
  staticTypes := #[]
  resolved := Array.replicate 37 none
  statics := none }

def pool2 : Array CpInfo := pool [(1, .methodref 2 3), (0, .class_ 4), (0, .nameAndType 5 6), (0, u "java/lang/Object"), (0, u "<init>"), (0, u "()V"), (0, .class_ 8), (0, u "java/lang/Record")] 13

def k2c0 : Code := { maxStack := 1, maxLocals := 1, code := jdk_30_method_1_code, exceptionTable := #[], attributes := #[] }
def k2m0 : Method := { name := "<init>", desc := "()V", sig := { parameters := [], returnType := none }, accessFlags := 4, code := some k2c0 }
/-- java/lang/Record -/
def k2 : Class := { plain "java/lang/Record" (some 0) with
  accessFlags := 1057
  interfaces := #[]
  cf := some (fileOf pool2 7 #[] #[{ accessFlags := 4, nameIndex := 5, descriptorIndex := 6, attributes := #[] }] 1057 2 #[] #[])
  fields := #[]
  methods := #[k2m0]
  instanceTypes := #[]
  staticTypes := #[]
  resolved := Array.replicate 22 none
  statics := none }

def pool3 : Array CpInfo := pool [(1, .methodref 2 3), (0, .class_ 4), (0, .nameAndType 5 6), (0, u "java/lang/Record"), (0, u "<init>"), (0, u "()V"), (0, .fieldref 8 9), (0, .class_ 10), (0, .nameAndType 11 12), (0, u "com/example/wildebeest/wildebeest/numeric/Probability"), (0, u "logarithm"), (0, u "D"), (0, .fieldref 8 14), (0, .nameAndType 15 12), (0, u "complementLogarithm"), (15, u "()D"), (6, u "(DD)V"), (28, .double 18442240474082181120), (18, u "ONE"), (0, u "Lcom/example/wildebeest/wildebeest/numeric/Probability;"), (2, u "ZERO"), (4, u "UNDEFINED"), (7, u "isLogarithmHeld"), (0, u "()Z")] 25

def k3c0 : Code := { maxStack := 3, maxLocals := 5, code := prog_96_method_1_code, exceptionTable := #[], attributes := #[] }
def k3m0 : Method := { name := "<init>", desc := "(DD)V", sig := { parameters := [.double, .double], returnType := none }, accessFlags := 1, code := some k3c0 }
def k3c1 : Code := { maxStack := 4, maxLocals := 1, code := prog_96_method_5_code, exceptionTable := #[], attributes := #[] }
def k3m1 : Method := { name := "isLogarithmHeld", desc := "()Z", sig := { parameters := [], returnType := some .boolean }, accessFlags := 1, code := some k3c1 }
def k3c2 : Code := { maxStack := 2, maxLocals := 1, code := prog_96_method_11_code, exceptionTable := #[], attributes := #[] }
def k3m2 : Method := { name := "complementLogarithm", desc := "()D", sig := { parameters := [], returnType := some .double }, accessFlags := 1, code := some k3c2 }
/-- com/example/wildebeest/wildebeest/numeric/Probability -/
def k3 : Class := { plain "com/example/wildebeest/wildebeest/numeric/Probability" (some 2) with
  accessFlags := 49
  interfaces := #[]
  cf := some (fileOf pool3 8 #[] #[{ accessFlags := 1, nameIndex := 5, descriptorIndex := 38, attributes := #[] }, { accessFlags := 1, nameIndex := 103, descriptorIndex := 104, attributes := #[] }, { accessFlags := 1, nameIndex := 15, descriptorIndex := 31, attributes := #[] }] 49 2 #[] #[{ accessFlags := 18, nameIndex := 11, descriptorIndex := 12, attributes := #[] }, { accessFlags := 18, nameIndex := 15, descriptorIndex := 12, attributes := #[] }, { accessFlags := 25, nameIndex := 86, descriptorIndex := 87, attributes := #[] }, { accessFlags := 25, nameIndex := 90, descriptorIndex := 87, attributes := #[] }, { accessFlags := 25, nameIndex := 95, descriptorIndex := 87, attributes := #[] }])
  fields := #[{ name := "logarithm", type := .double, accessFlags := 18, slot := 0, constantValue := 0 }, { name := "complementLogarithm", type := .double, accessFlags := 18, slot := 1, constantValue := 0 }, { name := "ONE", type := (.object "com/example/wildebeest/wildebeest/numeric/Probability"), accessFlags := 25, slot := 0, constantValue := 0 }, { name := "ZERO", type := (.object "com/example/wildebeest/wildebeest/numeric/Probability"), accessFlags := 25, slot := 1, constantValue := 0 }, { name := "UNDEFINED", type := (.object "com/example/wildebeest/wildebeest/numeric/Probability"), accessFlags := 25, slot := 2, constantValue := 0 }]
  methods := #[k3m0, k3m1, k3m2]
  instanceTypes := #[.double, .double]
  staticTypes := #[(.object "com/example/wildebeest/wildebeest/numeric/Probability"), (.object "com/example/wildebeest/wildebeest/numeric/Probability"), (.object "com/example/wildebeest/wildebeest/numeric/Probability")]
  resolved := Array.replicate 130 none
  statics := some 0 }

def pool4 : Array CpInfo := pool [(1, u "java/lang/Cloneable"), (0, .class_ 1), (0, u "java/lang/Object"), (0, .class_ 3)] 3

/-- java/lang/Cloneable -/
def k4 : Class := { plain "java/lang/Cloneable" (some 0) with
  accessFlags := 1537
  interfaces := #[]
  cf := some (fileOf pool4 2 #[] #[] 1537 4 #[] #[])
  fields := #[]
  methods := #[]
  instanceTypes := #[]
  staticTypes := #[]
  resolved := Array.replicate 8 none
  statics := none }

def pool5 : Array CpInfo := pool [(1, u "java/io/Serializable"), (0, .class_ 1), (0, u "java/lang/Object"), (0, .class_ 3)] 3

/-- java/io/Serializable -/
def k5 : Class := { plain "java/io/Serializable" (some 0) with
  accessFlags := 1537
  interfaces := #[]
  cf := some (fileOf pool5 2 #[] #[] 1537 4 #[] #[])
  fields := #[]
  methods := #[]
  instanceTypes := #[]
  staticTypes := #[]
  resolved := Array.replicate 8 none
  statics := none }

/-- the primitive byte -/
def k6 : Class := { plain "byte" none with kind := .primitive 'B', accessFlags := 0x411 }
/-- [B -/
def k7 : Class := { plain "[B" (some 0) with kind := .array 6 .byte, interfaces := #[4, 5], accessFlags := 1041 }

/-- the primitive int -/
def k8 : Class := { plain "int" none with kind := .primitive 'I', accessFlags := 0x411 }
/-- [I -/
def k9 : Class := { plain "[I" (some 0) with kind := .array 8 .int, interfaces := #[4, 5], accessFlags := 1041 }

def heap : Heap := #[{ cls := 3, slots := #[.ref 1, .null, .null], vm := .statics 3 },
  { cls := 3, slots := #[.double 0, .double 18442240474082181120], vm := .none }]
def classes : Array Class := #[k0, k1, k2, k3, k4, k5, k6, k7, k8, k9]
def interned : List (Array UInt16 × Addr) := []
def slotsUsed : Nat := 5
def theMethod : MethodId := ⟨1, 1⟩
def args0 : Array Value := #[.int 5, .int 3, .int 6]
def aboutOver (below : List Frame) : State where
  vm := { classes := classes, interned := interned.toArray }
  heap := heap
  slotsUsed := slotsUsed
  threads := #[{ frames := .invoking theMethod args0 :: below }]
def below0 : List Frame := [.native { method := ⟨0, 0⟩, args := #[] }]
def about1 : State := aboutOver below0
def p0 : Program := .bare "" "" ""
def e0 : Env := launch0.env 0 0 0
theorem w_frames : about1.frames = Frame.invoking theMethod args0 :: below0 := rfl
set_option maxRecDepth 65536 in
theorem w_args : argsFit about1.vm theMethod args0 = true := by decide +kernel
set_option maxRecDepth 65536 in
theorem w_heap : heapFits about1 = true := by decide +kernel
set_option maxRecDepth 65536 in
theorem w_runnable : about1.curStatus? = some .runnable := by decide +kernel
set_option maxRecDepth 65536 in
theorem w_alone : about1.alone = true := by decide +kernel
set_option maxRecDepth 65536 in
theorem w_named : about1.methodNamed? x = some theMethod := by decide +kernel
set_option maxRecDepth 65536 in
theorem w_hears : about1.hears theMethod below0 = true := by decide +kernel
set_option maxRecDepth 65536 in
theorem w_ripe : about1.ripe theMethod args0 below0 = true := by decide +kernel
theorem w_running : about1.status = .running := rfl
set_option maxRecDepth 65536 in
theorem w_room : about1.hasRoom e0.platform room_1 = true :=
  launch0.hasRoom_least _ room_1 (by decide +kernel) (by decide +kernel) (by decide +kernel) (by decide +kernel) (by decide +kernel) (by decide +kernel)
theorem allAtoms_all (ts : List Jvm.Cond) (a : Array Jvm.Value) (st : Jvm.State) : (allAtoms ts).before a st = ts.all (fun c => c.before a st) := by
  induction ts with
  | nil => rfl
  | cons c t ih =>
    show (Jvm.Cond.and c (allAtoms t)).before a st = _
    rw [Jvm.Cond.before_and, ih, List.all_cons]
def words1 : List Jvm.Cond := Jvm.Cond.code x code maxLocals ret :: tables_1
/-- a 'code' word, met by the world's own term for the bytes: nothing is compared byte by byte -/
theorem code_word {y : MethodName} {bytes : ByteArray} {mx : Nat} {rt : Option FieldType} {a : Array Value} {s : State} {m : MethodId} {meth : Method} {c : Code} (h1 : s.methodNamed? y = some m) (h2 : s.vm.method? m = some meth) (h3 : meth.code = some c) (h4 : c.code = bytes)
    (h5 : (c.maxLocals == mx && c.exceptionTable.isEmpty && decide (c.maxStack ≤ mostOperands) && decide (meth.sig.returnType = rt) && !meth.locks && decide (parseMethodDescriptor y.desc = some meth.sig)) = true) : (Jvm.Cond.code y bytes mx rt).before a s = true := by
  simp only [Bool.and_eq_true, beq_iff_eq, Bool.not_eq_true', decide_eq_true_eq] at h5
  obtain ⟨⟨⟨⟨⟨g1, g2⟩, g3⟩, g4⟩, g5⟩, g6⟩ := h5
  simp [Cond.before, Cond.holds, Cond.value, h1, h2, h3, h4, g1, g2, g3, g4, g5, g6]
def isCode : Jvm.Cond → Bool
  | .code _ _ _ _ => true
  | _ => false
theorem all_split {L : List Jvm.Cond} {P : Jvm.Cond → Bool} (h1 : L.all (fun c => isCode c || P c) = true) (h2 : ∀ c ∈ L.filter isCode, P c = true) : L.all P = true := by
  refine List.all_eq_true.mpr fun c hc => ?_
  have h := List.all_eq_true.mp h1 c hc
  rcases Bool.eq_false_or_eq_true (isCode c) with hi | hi
  · exact h2 c (List.mem_filter.mpr ⟨hc, hi⟩)
  · simpa [hi] using h
set_option maxRecDepth 65536 in
theorem w_c0 : (Jvm.Cond.code x code maxLocals ret).before args0 about1 = true := code_word (m := ⟨1, 1⟩) (meth := k1m1) (c := k1c1) (by decide +kernel) rfl rfl rfl (by decide +kernel)
set_option maxRecDepth 65536 in
theorem w_c1 : (Jvm.Cond.code ({ cls := "com/example/wildebeest/wildebeest/numeric/Probability", name := "complementLogarithm", desc := "()D" } : Jvm.MethodName) prog_96_method_11_code (1 : Nat) (Option.some Jvm.ClassFile.FieldType.double)).before args0 about1 = true := code_word (m := ⟨3, 2⟩) (meth := k3m2) (c := k3c2) (by decide +kernel) rfl rfl rfl (by decide +kernel)
set_option maxRecDepth 65536 in
theorem w_c2 : (Jvm.Cond.code ({ cls := "com/example/wildebeest/wildebeest/numeric/Probability", name := "<init>", desc := "(DD)V" } : Jvm.MethodName) prog_96_method_1_code (5 : Nat) (Option.none : Option Jvm.ClassFile.FieldType)).before args0 about1 = true := code_word (m := ⟨3, 0⟩) (meth := k3m0) (c := k3c0) (by decide +kernel) rfl rfl rfl (by decide +kernel)
set_option maxRecDepth 65536 in
theorem w_c3 : (Jvm.Cond.code ({ cls := "java/lang/Record", name := "<init>", desc := "()V" } : Jvm.MethodName) jdk_30_method_1_code (1 : Nat) (Option.none : Option Jvm.ClassFile.FieldType)).before args0 about1 = true := code_word (m := ⟨2, 0⟩) (meth := k2m0) (c := k2c0) (by decide +kernel) rfl rfl rfl (by decide +kernel)
set_option maxRecDepth 65536 in
theorem w_c4 : (Jvm.Cond.code ({ cls := "java/lang/Object", name := "<init>", desc := "()V" } : Jvm.MethodName) object_method_1_code (1 : Nat) (Option.none : Option Jvm.ClassFile.FieldType)).before args0 about1 = true := code_word (m := ⟨0, 0⟩) (meth := k0m0) (c := k0c0) (by decide +kernel) rfl rfl rfl (by decide +kernel)
set_option maxRecDepth 65536 in
theorem w_c5 : (Jvm.Cond.code ({ cls := "com/example/wildebeest/wildebeest/numeric/Probability", name := "isLogarithmHeld", desc := "()Z" } : Jvm.MethodName) prog_96_method_5_code (1 : Nat) (Option.some Jvm.ClassFile.FieldType.boolean)).before args0 about1 = true := code_word (m := ⟨3, 1⟩) (meth := k3m1) (c := k3c1) (by decide +kernel) rfl rfl rfl (by decide +kernel)
def codes1 : List Jvm.Cond := [Jvm.Cond.code x code maxLocals ret, Jvm.Cond.code ({ cls := "com/example/wildebeest/wildebeest/numeric/Probability", name := "complementLogarithm", desc := "()D" } : Jvm.MethodName) prog_96_method_11_code (1 : Nat) (Option.some Jvm.ClassFile.FieldType.double), Jvm.Cond.code ({ cls := "com/example/wildebeest/wildebeest/numeric/Probability", name := "<init>", desc := "(DD)V" } : Jvm.MethodName) prog_96_method_1_code (5 : Nat) (Option.none : Option Jvm.ClassFile.FieldType), Jvm.Cond.code ({ cls := "java/lang/Record", name := "<init>", desc := "()V" } : Jvm.MethodName) jdk_30_method_1_code (1 : Nat) (Option.none : Option Jvm.ClassFile.FieldType), Jvm.Cond.code ({ cls := "java/lang/Object", name := "<init>", desc := "()V" } : Jvm.MethodName) object_method_1_code (1 : Nat) (Option.none : Option Jvm.ClassFile.FieldType), Jvm.Cond.code ({ cls := "com/example/wildebeest/wildebeest/numeric/Probability", name := "isLogarithmHeld", desc := "()Z" } : Jvm.MethodName) prog_96_method_5_code (1 : Nat) (Option.some Jvm.ClassFile.FieldType.boolean)]
set_option maxRecDepth 65536 in
theorem codes_eq : words1.filter isCode = codes1 := rfl
theorem w_codes : ∀ c ∈ words1.filter isCode, c.before args0 about1 = true := by
  rw [codes_eq]
  intro c hc
  simp only [codes1, List.mem_cons, List.not_mem_nil, or_false] at hc
  rcases hc with rfl | rfl | rfl | rfl | rfl | rfl
  · exact w_c0
  · exact w_c1
  · exact w_c2
  · exact w_c3
  · exact w_c4
  · exact w_c5
set_option maxRecDepth 65536 in
theorem w_t1 : (words1.take 24).all (fun c => isCode c || c.before args0 about1) = true := by decide +kernel
set_option maxRecDepth 65536 in
theorem w_t2 : (words1.drop 24).all (fun c => isCode c || c.before args0 about1) = true := by decide +kernel
theorem w_tables : (allAtoms (Jvm.Cond.code x code maxLocals ret :: tables_1)).before args0 about1 = true := by
  rw [allAtoms_all]
  show words1.all (fun c => c.before args0 about1) = true
  refine all_split ?_ w_codes
  rw [← List.take_append_drop 24 words1, List.all_append, w_t1, w_t2]
  rfl
set_option maxRecDepth 65536 in
theorem w_case : (Jvm.Cond.and given_1 narrow_1).before args0 about1 = true := by decide +kernel
theorem w_applies : (headSpec (Jvm.Cond.code x code maxLocals ret :: tables_1) room_1).applies x e0.platform about1 = true :=
  (Spec.applies_iff w_frames).mpr ⟨w_running, w_runnable, w_alone, w_named, w_hears, w_ripe, w_room, w_tables⟩
theorem atStart : AtStart classFile x code maxLocals ret World_1 tables_1 room_1 Calls_1 rest_1 Pre_1 launch0 p0 e0 about1 theMethod args0 below0 :=
  ⟨lists_1, trivial, launch0.admits_env _ _ _, launch0.least_env, fairChoices_fair.cas, fairChoices_fair.clock, w_frames, w_args, w_heap, w_applies, trivial, trivial, w_case⟩
end start1
theorem witness_1 : WitnessClaimed_1 := ⟨start1.p0, start1.e0, start1.about1, start1.theMethod, start1.args0, start1.below0, start1.atStart⟩
end Jvm.Pilot.@@N@@
