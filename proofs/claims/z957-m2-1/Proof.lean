import JvmDerived
import JvmDerived.Pilot.@@N@@Statement
import JvmDerived.Pilot.@@N@@Code
set_option linter.unusedVariables false
set_option linter.unusedSimpArgs false
namespace Jvm.RoadKit
open Sem ClassFile Op Lib Jvm.Stand Jvm.Free Jvm.LawKit
section New
variable {p : Program} {l : Launch} {e : Env} {R : Room} {s : State} {m : MethodId} {args : Array Value} {below : List Frame} {meth : Method} {c : Code} {T : State} {locs : List Loc} {cells slots : Nat}
theorem retI (X : Stand p l e R s m args below meth c T locs cells slots) (hx : p.tables.exec = Jvm.exec) {pc : Nat} {Ls : Array Slot} {z : Int32} {rest : List Value} (hret : meth.sig.returnType = some .int) (hd : decode c.code pc = .ok (.ireturn, 1)) {fs : List Frame}
    (hl : ∀ (f : JFrame) (acts : List Action), f.method = m → f.locked = none → f.entered = [] → (doReturn e (T.setTop f) acts (some (.int z))).1 = T.setFrames fs) : Steps p.tables e below (T.setTop (mkF m pc Ls (.int z :: rest))) (T.setFrames fs) := by
  have hm' : T.vm.method? m = some meth := X.method'
  have hn : narrow .int (.int z) = .int z := rfl
  show Steps p.tables e below (T.setTop { method := m, pc := pc, locals := Ls, stack := _ :: rest, locked := none }) _
  jvm_step X.here [X.here.top, hx, hd, hm', hret, hn]
  first | (intro acts; rw [hl _ acts rfl rfl rfl]) | rw [hl _ _ rfl rfl rfl]
  exact Steps.refl _
theorem retD (X : Stand p l e R s m args below meth c T locs cells slots) (hx : p.tables.exec = Jvm.exec) {pc : Nat} {Ls : Array Slot} {z : UInt64} {rest : List Value} (hret : meth.sig.returnType = some .double) (hd : decode c.code pc = .ok (.dreturn, 1)) {fs : List Frame}
    (hl : ∀ (f : JFrame) (acts : List Action), f.method = m → f.locked = none → f.entered = [] → (doReturn e (T.setTop f) acts (some (.double z))).1 = T.setFrames fs) : Steps p.tables e below (T.setTop (mkF m pc Ls (.double z :: rest))) (T.setFrames fs) := by
  have hm' : T.vm.method? m = some meth := X.method'
  have hn : narrow .double (.double z) = .double z := rfl
  show Steps p.tables e below (T.setTop { method := m, pc := pc, locals := Ls, stack := _ :: rest, locked := none }) _
  jvm_step X.here [X.here.top, hx, hd, hm', hret, hn]
  first | (intro acts; rw [hl _ acts rfl rfl rfl]) | rw [hl _ _ rfl rfl rfl]
  exact Steps.refl _
theorem retJ (X : Stand p l e R s m args below meth c T locs cells slots) (hx : p.tables.exec = Jvm.exec) {pc : Nat} {Ls : Array Slot} {z : Int64} {rest : List Value} (hret : meth.sig.returnType = some .long) (hd : decode c.code pc = .ok (.lreturn, 1)) {fs : List Frame}
    (hl : ∀ (f : JFrame) (acts : List Action), f.method = m → f.locked = none → f.entered = [] → (doReturn e (T.setTop f) acts (some (.long z))).1 = T.setFrames fs) : Steps p.tables e below (T.setTop (mkF m pc Ls (.long z :: rest))) (T.setFrames fs) := by
  have hm' : T.vm.method? m = some meth := X.method'
  have hn : narrow .long (.long z) = .long z := rfl
  show Steps p.tables e below (T.setTop { method := m, pc := pc, locals := Ls, stack := _ :: rest, locked := none }) _
  jvm_step X.here [X.here.top, hx, hd, hm', hret, hn]
  first | (intro acts; rw [hl _ acts rfl rfl rfl]) | rw [hl _ _ rfl rfl rfl]
  exact Steps.refl _
end New
end Jvm.RoadKit
namespace Jvm.Pilot.@@N@@
open Jvm Jvm.ClassFile Sem Op Lib Jvm.Free Jvm.Stand Jvm.LawKit Jvm.RoadKit Bundle Jvm.Pilot.@@N@@.Jvm.D Jvm.Free.Fl
open Jvm.Free.XT (n32 succ32 add32n lt32 nlt32)

theorem own_cl (r : Option Ordering) : cmpValue r .l = 0 ↔ r = some .eq := by rcases r with _ | (_ | _ | _) <;> decide
theorem own_cl_pos (r : Option Ordering) : 0 < cmpValue r .l ↔ r = some .gt := by rcases r with _ | (_ | _ | _) <;> decide
theorem own_dconst0 : FP.Core.DInt 0 FP.dconst0 := FP.Core.i2d_int 0
theorem own_i2d_pos (a : Int32) : 0 < cmpValue (FP.dcmp (FP.i2d a) FP.dconst0) .l ↔ 0 < a := by
  rw [own_cl_pos, show FP.dcmp (FP.i2d a) FP.dconst0 = _ from FP.Core.dcmp_int (FP.Core.i2d_int a) own_dconst0, Option.some.injEq, FP.Core.compare_gt_iff, Int32.lt_iff_toInt_lt]
  rfl

theorem own_and3 (x : Int32) : 0 ≤ (x &&& 3).toInt ∧ (x &&& 3).toInt ≤ 3 := c_and x 3 (by decide)
def own_lo (x : Int64) : Int32 := ((x.toInt32) >>> ((8 : Int32) &&& 31))
def own_hi (x : Int64) : Int32 := ((((x.toUInt64 >>> ((32 : Int32) &&& 0x3f).toInt64.toUInt64).toInt64).toInt32) >>> ((8 : Int32) &&& 31))
def own_B (x : Int32) : Prop := -8388608 ≤ x.toInt ∧ x.toInt ≤ 8388607
theorem own_shr8 (x : Int32) : own_B (x >>> ((8 : Int32) &&& 31)) := by
  have h := c_ishr x 8 8 (by decide)
  have := rng32 x
  unfold own_B
  rw [h]
  have e : ((2 ^ 8 : Nat) : Int) = 256 := by decide
  rw [e]; omega
theorem own_lo_B (x : Int64) : own_B (own_lo x) := own_shr8 _
theorem own_hi_B (x : Int64) : own_B (own_hi x) := own_shr8 _
theorem own_sq_bound {z : Int} (h1 : -16777215 ≤ z) (h2 : z ≤ 16777215) : 0 ≤ z * z ∧ z * z ≤ 281474943156225 := by
  have h := Int.natAbs_mul_self' z
  have hn : z.natAbs ≤ 16777215 := by omega
  have h3 := Nat.mul_le_mul hn hn
  have e : (z.natAbs : Int) * (z.natAbs : Int) = ((z.natAbs * z.natAbs : Nat) : Int) := by rw [Int.natCast_mul]
  omega
/-- the sum of the squares of the first n differences -/
def own_ssq (f g : Nat → Int32) : Nat → Int
  | 0 => 0
  | n + 1 => own_ssq f g n + ((f n).toInt - (g n).toInt) * ((f n).toInt - (g n).toInt)
theorem own_ssq_b (f g : Nat → Int32) (hf : ∀ n, own_B (f n)) (hg : ∀ n, own_B (g n)) : ∀ n, 0 ≤ own_ssq f g n ∧ own_ssq f g n ≤ 281474943156225 * n
  | 0 => ⟨by simp [own_ssq], by simp [own_ssq]⟩
  | n + 1 => by
    have h := own_ssq_b f g hf hg n
    have h1 := hf n; have h2 := hg n
    unfold own_B at h1 h2
    have := own_sq_bound (z := (f n).toInt - (g n).toInt) (by omega) (by omega)
    simp only [own_ssq]
    omega
def own_at (L : List Int32) (k : Nat) (n : Nat) : Int32 := L.getD (k + n) 0
def own_term (u v : Int32) : Int64 := ((u.toInt64 - v.toInt64) * (u.toInt64 - v.toInt64))
theorem own_term_v {u v : Int32} (hu : own_B u) (hv : own_B v) : (own_term u v).toInt = (u.toInt - v.toInt) * (u.toInt - v.toInt) := by
  unfold own_B at hu hv
  have h1 : (u.toInt64 - v.toInt64).toInt = u.toInt - v.toInt := by
    have := c_lsub u.toInt64 v.toInt64
    rw [c_i2l, c_i2l] at this
    have := rng64 (u.toInt64 - v.toInt64); omega
  have h2 := c_lmul (u.toInt64 - v.toInt64) (u.toInt64 - v.toInt64)
  have h3 := rng64 ((u.toInt64 - v.toInt64) * (u.toInt64 - v.toInt64))
  have h4 := own_sq_bound (z := u.toInt - v.toInt) (by omega) (by omega)
  unfold own_term
  rw [h1] at h2
  omega
theorem own_ladd {a b : Int64} (h1 : 0 ≤ a.toInt) (h2 : a.toInt ≤ 2000000000000000) (h3 : 0 ≤ b.toInt) (h4 : b.toInt ≤ 2000000000000000) : (a + b).toInt = a.toInt + b.toInt := by
  have := c_ladd a b; have := rng64 (a + b); omega
theorem own_dint_nn {n : Int} {a : UInt64} (h : FP.Core.DInt n a) : NoNaN64 a := noNaN64_no.mpr ((FP.Core.notNaN_iff _).mpr (FP.Core.DInt_ne_nan h))
theorem own_diff {u v : Int32} (hu : own_B u) (hv : own_B v) : FP.Core.DInt (u.toInt - v.toInt) (FP.dsub (FP.i2d u) (FP.i2d v)) := by
  unfold own_B at hu hv
  exact FP.Core.dsub_int (FP.Core.i2d_int u) (FP.Core.i2d_int v) (by omega)
theorem own_sqd {z : Int} {a : UInt64} (h : FP.Core.DInt z a) (h1 : -16777215 ≤ z) (h2 : z ≤ 16777215) : FP.Core.DInt (z * z) (FP.dmul a a) := by
  have := own_sq_bound h1 h2
  exact FP.Core.dmul_int h h (by omega)
theorem d1_0 : decode method_3_code 0 = .ok (.lload_n 0, 1) := by decide +kernel
theorem d1_1 : decode method_3_code 1 = .ok (.l2i, 1) := by decide +kernel
theorem d1_2 : decode method_3_code 2 = .ok (.bipush 8, 2) := by decide +kernel
theorem d1_4 : decode method_3_code 4 = .ok (.ishr, 1) := by decide +kernel
theorem d1_5 : decode method_3_code 5 = .ok (.ireturn, 1) := by decide +kernel
theorem pn_1 : plainName "com/example/cairnwise/cairnwise/model/PointsSquaredDistancePinLaw" = true := by first | (simp [plainName, overriddenIn]; done) | decide +kernel
theorem ef_1 (m : MethodId) (x0 : Int64) : entryFrame m #[(.long x0)] 2 = mkF m 0 #[.val (.long x0), .second] [] := by first | (simp [entryFrame, mkF, argsToLocals, Value.category]; done) | rfl
def Q1 (Z : State) (x1 : Int64) (h0 : Heap) (n0 : Nat) (v : Option Value) (h : Heap) (L : List Loc) : Prop := v = some (.int (own_lo x1)) ∧ Fr n0 L ∧ h = h0
set_option maxRecDepth 65536 in
set_option maxHeartbeats 40000000 in
theorem rm1 (l : Launch) (Z : State) (a0 : Array Value) (hw : ∀ d ∈ tables_1, d.before a0 Z = true) (ws : List Jvm.Cond) (x1 : Int64) (h0 : Heap) (n0 : Nat) (Z0 : n0 ≤ h0.size)  :
    MetFree l (⟨"com/example/cairnwise/cairnwise/model/PointsSquaredDistancePinLaw", "lo", "(J)I"⟩ : MethodName) (head1 (Jvm.Cond.code (⟨"com/example/cairnwise/cairnwise/model/PointsSquaredDistancePinLaw", "lo", "(J)I"⟩ : MethodName) method_3_code 2 (some .int) :: ws) ({ frames := 0, cells := 0, slots := 0, locals := 0 } : Room)) (fun a U => a = #[(.long x1)] ∧ Z.Warmed39 U.vm ∧ U.heap = h0) (fun _ _ _ _ _ => True) (fun _ U o U' => ∃ v L, o = .returned v ∧ Q1 Z x1 h0 n0 v U'.heap L ∧ FrameEnd U o U' L ({ frames := 0, cells := 0, slots := 0, locals := 0 } : Room).cells ({ frames := 0, cells := 0, slots := 0, locals := 0 } : Room).slots) := by
  refine MetFree.of_bodySF (plainFor_of_name pn_1) hisR ?_
  intro p e s m args below meth c s₁ Bd hml0 hP hK
  obtain ⟨rfl, hZ, hh⟩ := hP
  have hx := Bd.exec
  have hby := Bd.bytes
  have hml : c.maxLocals = 2 := hml0
  have hown : s.vm.findClass "com/example/cairnwise/cairnwise/model/PointsSquaredDistancePinLaw" = some m.cls := findClass_of_methodNamed Bd.named
  have hnm := (name_of_methodNamed Bd.named Bd.method).1
  have X0 : Stand p l e ({ frames := 0, cells := 0, slots := 0, locals := 0 } : Room) s m #[(.long x1)] below meth c s₁ [] 0 0 := Stand.of_body Bd
  have e0 : s₁.heap = h0 := by rw [← hh, Bd.state]; rfl
  have N0 := Fr.nil n0
  have pre0 : ∀ t, Steps p.tables e below (s₁.setTop (mkF m 0 #[.val (.long x1), .second] [])) t → Steps p.tables e below (s₁.setTop (entryFrame m #[(.long x1)] 2)) t := fun t kq0 => castTop (ef_1 m x1) kq0
  have sg1 : ∀ t, Steps p.tables e below (s₁.setTop (mkF m 5 #[.val (.long x1), .second] [(.int ((x1.toInt32) >>> ((8 : Int32) &&& 31)))])) t → Steps p.tables e below (s₁.setTop (mkF m 0 #[.val (.long x1), .second] [])) t := by
    intro t kt
    refine XS.lloadN X0.here hx rfl (hb hby d1_0) rfl ?_
    show Steps p.tables e below (s₁.setTop (mkF m 1 #[.val (.long x1), .second] [(.long x1)])) _
    refine XS.l2i X0.here hx rfl (hb hby d1_1) rfl ?_
    show Steps p.tables e below (s₁.setTop (mkF m 2 #[.val (.long x1), .second] [(.int (x1.toInt32))])) _
    refine XS.bipush X0.here hx rfl (hb hby d1_2) ?_
    show Steps p.tables e below (s₁.setTop (mkF m 4 #[.val (.long x1), .second] [(.int (8 : Int32)), (.int (x1.toInt32))])) _
    refine XS.ishr X0.here hx rfl (hb hby d1_4) rfl ?_
    exact kt
  obtain ⟨fs, hr, hrun, hended, hW, hsame⟩ := X0.leave (v := some (.int ((x1.toInt32) >>> ((8 : Int32) &&& 31)))) (fun h => by rw [Bd.returns] at h; cases h)
  refine ⟨_, _, pre0 _ ?_, hrun, hended, _, _, rfl, ?_, ⟨_, rfl⟩, hW, hsame.mono (by decide) (by decide)⟩
  · refine sg1 _ ?_
    exact retI X0 hx Bd.returns (hb hby d1_5) hr
  · show Q1 Z x1 h0 n0 _ s₁.heap _
    rw [e0]; exact ⟨rfl, N0, rfl⟩
theorem d2_0 : decode method_4_code 0 = .ok (.lload_n 0, 1) := by decide +kernel
theorem d2_1 : decode method_4_code 1 = .ok (.bipush 32, 2) := by decide +kernel
theorem d2_3 : decode method_4_code 3 = .ok (.lushr, 1) := by decide +kernel
theorem d2_4 : decode method_4_code 4 = .ok (.l2i, 1) := by decide +kernel
theorem d2_5 : decode method_4_code 5 = .ok (.bipush 8, 2) := by decide +kernel
theorem d2_7 : decode method_4_code 7 = .ok (.ishr, 1) := by decide +kernel
theorem d2_8 : decode method_4_code 8 = .ok (.ireturn, 1) := by decide +kernel
theorem pn_2 : plainName "com/example/cairnwise/cairnwise/model/PointsSquaredDistancePinLaw" = true := by first | (simp [plainName, overriddenIn]; done) | decide +kernel
theorem ef_2 (m : MethodId) (x0 : Int64) : entryFrame m #[(.long x0)] 2 = mkF m 0 #[.val (.long x0), .second] [] := by first | (simp [entryFrame, mkF, argsToLocals, Value.category]; done) | rfl
def Q2 (Z : State) (x1 : Int64) (h0 : Heap) (n0 : Nat) (v : Option Value) (h : Heap) (L : List Loc) : Prop := v = some (.int (own_hi x1)) ∧ Fr n0 L ∧ h = h0
set_option maxRecDepth 65536 in
set_option maxHeartbeats 40000000 in
theorem rm2 (l : Launch) (Z : State) (a0 : Array Value) (hw : ∀ d ∈ tables_1, d.before a0 Z = true) (ws : List Jvm.Cond) (x1 : Int64) (h0 : Heap) (n0 : Nat) (Z0 : n0 ≤ h0.size)  :
    MetFree l (⟨"com/example/cairnwise/cairnwise/model/PointsSquaredDistancePinLaw", "hi", "(J)I"⟩ : MethodName) (head1 (Jvm.Cond.code (⟨"com/example/cairnwise/cairnwise/model/PointsSquaredDistancePinLaw", "hi", "(J)I"⟩ : MethodName) method_4_code 2 (some .int) :: ws) ({ frames := 0, cells := 0, slots := 0, locals := 0 } : Room)) (fun a U => a = #[(.long x1)] ∧ Z.Warmed39 U.vm ∧ U.heap = h0) (fun _ _ _ _ _ => True) (fun _ U o U' => ∃ v L, o = .returned v ∧ Q2 Z x1 h0 n0 v U'.heap L ∧ FrameEnd U o U' L ({ frames := 0, cells := 0, slots := 0, locals := 0 } : Room).cells ({ frames := 0, cells := 0, slots := 0, locals := 0 } : Room).slots) := by
  refine MetFree.of_bodySF (plainFor_of_name pn_2) hisR ?_
  intro p e s m args below meth c s₁ Bd hml0 hP hK
  obtain ⟨rfl, hZ, hh⟩ := hP
  have hx := Bd.exec
  have hby := Bd.bytes
  have hml : c.maxLocals = 2 := hml0
  have hown : s.vm.findClass "com/example/cairnwise/cairnwise/model/PointsSquaredDistancePinLaw" = some m.cls := findClass_of_methodNamed Bd.named
  have hnm := (name_of_methodNamed Bd.named Bd.method).1
  have X0 : Stand p l e ({ frames := 0, cells := 0, slots := 0, locals := 0 } : Room) s m #[(.long x1)] below meth c s₁ [] 0 0 := Stand.of_body Bd
  have e0 : s₁.heap = h0 := by rw [← hh, Bd.state]; rfl
  have N0 := Fr.nil n0
  have pre0 : ∀ t, Steps p.tables e below (s₁.setTop (mkF m 0 #[.val (.long x1), .second] [])) t → Steps p.tables e below (s₁.setTop (entryFrame m #[(.long x1)] 2)) t := fun t kq0 => castTop (ef_2 m x1) kq0
  have sg1 : ∀ t, Steps p.tables e below (s₁.setTop (mkF m 8 #[.val (.long x1), .second] [(.int ((((x1.toUInt64 >>> ((32 : Int32) &&& 0x3f).toInt64.toUInt64).toInt64).toInt32) >>> ((8 : Int32) &&& 31)))])) t → Steps p.tables e below (s₁.setTop (mkF m 0 #[.val (.long x1), .second] [])) t := by
    intro t kt
    refine XS.lloadN X0.here hx rfl (hb hby d2_0) rfl ?_
    show Steps p.tables e below (s₁.setTop (mkF m 1 #[.val (.long x1), .second] [(.long x1)])) _
    refine XS.bipush X0.here hx rfl (hb hby d2_1) ?_
    show Steps p.tables e below (s₁.setTop (mkF m 3 #[.val (.long x1), .second] [(.int (32 : Int32)), (.long x1)])) _
    refine XS.lushr X0.here hx rfl (hb hby d2_3) rfl ?_
    show Steps p.tables e below (s₁.setTop (mkF m 4 #[.val (.long x1), .second] [(.long ((x1.toUInt64 >>> ((32 : Int32) &&& 0x3f).toInt64.toUInt64).toInt64))])) _
    refine XS.l2i X0.here hx rfl (hb hby d2_4) rfl ?_
    show Steps p.tables e below (s₁.setTop (mkF m 5 #[.val (.long x1), .second] [(.int (((x1.toUInt64 >>> ((32 : Int32) &&& 0x3f).toInt64.toUInt64).toInt64).toInt32))])) _
    refine XS.bipush X0.here hx rfl (hb hby d2_5) ?_
    show Steps p.tables e below (s₁.setTop (mkF m 7 #[.val (.long x1), .second] [(.int (8 : Int32)), (.int (((x1.toUInt64 >>> ((32 : Int32) &&& 0x3f).toInt64.toUInt64).toInt64).toInt32))])) _
    refine XS.ishr X0.here hx rfl (hb hby d2_7) rfl ?_
    exact kt
  obtain ⟨fs, hr, hrun, hended, hW, hsame⟩ := X0.leave (v := some (.int ((((x1.toUInt64 >>> ((32 : Int32) &&& 0x3f).toInt64.toUInt64).toInt64).toInt32) >>> ((8 : Int32) &&& 31)))) (fun h => by rw [Bd.returns] at h; cases h)
  refine ⟨_, _, pre0 _ ?_, hrun, hended, _, _, rfl, ?_, ⟨_, rfl⟩, hW, hsame.mono (by decide) (by decide)⟩
  · refine sg1 _ ?_
    exact retI X0 hx Bd.returns (hb hby d2_8) hr
  · show Q2 Z x1 h0 n0 _ s₁.heap _
    rw [e0]; exact ⟨rfl, N0, rfl⟩
theorem d3_0 : decode method_5_code 0 = .ok (.aload_n 0, 1) := by decide +kernel
theorem d3_1 : decode method_5_code 1 = .ok (.iload_n 1, 1) := by decide +kernel
theorem d3_2 : decode method_5_code 2 = .ok (.iaload, 1) := by decide +kernel
theorem d3_3 : decode method_5_code 3 = .ok (.i2l, 1) := by decide +kernel
theorem d3_4 : decode method_5_code 4 = .ok (.aload_n 2, 1) := by decide +kernel
theorem d3_5 : decode method_5_code 5 = .ok (.iload_n 3, 1) := by decide +kernel
theorem d3_6 : decode method_5_code 6 = .ok (.iaload, 1) := by decide +kernel
theorem d3_7 : decode method_5_code 7 = .ok (.i2l, 1) := by decide +kernel
theorem d3_8 : decode method_5_code 8 = .ok (.lsub, 1) := by decide +kernel
theorem d3_9 : decode method_5_code 9 = .ok (.lstore 4, 2) := by decide +kernel
theorem d3_11 : decode method_5_code 11 = .ok (.lload 4, 2) := by decide +kernel
theorem d3_13 : decode method_5_code 13 = .ok (.lload 4, 2) := by decide +kernel
theorem d3_15 : decode method_5_code 15 = .ok (.lmul, 1) := by decide +kernel
theorem d3_16 : decode method_5_code 16 = .ok (.lreturn, 1) := by decide +kernel
theorem pn_3 : plainName "com/example/cairnwise/cairnwise/model/PointsSquaredDistancePinLaw" = true := by first | (simp [plainName, overriddenIn]; done) | decide +kernel
theorem ef_3 (m : MethodId) (x0 : Addr) (x1 : Int32) (x2 : Addr) (x3 : Int32) : entryFrame m #[(.ref x0), (.int x1), (.ref x2), (.int x3)] 6 = mkF m 0 #[.val (.ref x0), .val (.int x1), .val (.ref x2), .val (.int x3), .unset, .unset] [] := by first | (simp [entryFrame, mkF, argsToLocals, Value.category]; done) | rfl
def Q3 (Z : State) (a1 : Addr) (j1 : Int32) (a2 : Addr) (j2 : Int32) (x1 x2 : Int32) (c1 c2 : Cell) (h0 : Heap) (n0 : Nat) (v : Option Value) (h : Heap) (L : List Loc) : Prop := v = some (.long (own_term x1 x2)) ∧ Fr n0 L ∧ h = h0
set_option maxRecDepth 65536 in
set_option maxHeartbeats 40000000 in
theorem rm3 (l : Launch) (Z : State) (a0 : Array Value) (hw : ∀ d ∈ tables_1, d.before a0 Z = true) (ws : List Jvm.Cond) (a1 : Addr) (j1 : Int32) (a2 : Addr) (j2 : Int32) (x1 x2 : Int32) (c1 c2 : Cell) (h0 : Heap) (n0 : Nat) (Z0 : n0 ≤ h0.size) (Ar1 : Arr Z h0 a1 c1 .int) (hin1 : ¬ (j1 < 0 ∨ c1.slots.size ≤ j1.toNatClampNeg)) (hat1 : c1.slots[j1.toNatClampNeg]? = some (.int x1)) (Ar2 : Arr Z h0 a2 c2 .int) (hin2 : ¬ (j2 < 0 ∨ c2.slots.size ≤ j2.toNatClampNeg)) (hat2 : c2.slots[j2.toNatClampNeg]? = some (.int x2)) :
    MetFree l (⟨"com/example/cairnwise/cairnwise/model/PointsSquaredDistancePinLaw", "term", "([II[II)J"⟩ : MethodName) (head1 (Jvm.Cond.code (⟨"com/example/cairnwise/cairnwise/model/PointsSquaredDistancePinLaw", "term", "([II[II)J"⟩ : MethodName) method_5_code 6 (some .long) :: ws) ({ frames := 0, cells := 0, slots := 0, locals := 0 } : Room)) (fun a U => a = #[(.ref a1), (.int j1), (.ref a2), (.int j2)] ∧ Z.Warmed39 U.vm ∧ U.heap = h0) (fun _ _ _ _ _ => True) (fun _ U o U' => ∃ v L, o = .returned v ∧ Q3 Z a1 j1 a2 j2 x1 x2 c1 c2 h0 n0 v U'.heap L ∧ FrameEnd U o U' L ({ frames := 0, cells := 0, slots := 0, locals := 0 } : Room).cells ({ frames := 0, cells := 0, slots := 0, locals := 0 } : Room).slots) := by
  refine MetFree.of_bodySF (plainFor_of_name pn_3) hisR ?_
  intro p e s m args below meth c s₁ Bd hml0 hP hK
  obtain ⟨rfl, hZ, hh⟩ := hP
  have hx := Bd.exec
  have hby := Bd.bytes
  have hml : c.maxLocals = 6 := hml0
  have hown : s.vm.findClass "com/example/cairnwise/cairnwise/model/PointsSquaredDistancePinLaw" = some m.cls := findClass_of_methodNamed Bd.named
  have hnm := (name_of_methodNamed Bd.named Bd.method).1
  have X0 : Stand p l e ({ frames := 0, cells := 0, slots := 0, locals := 0 } : Room) s m #[(.ref a1), (.int j1), (.ref a2), (.int j2)] below meth c s₁ [] 0 0 := Stand.of_body Bd
  have e0 : s₁.heap = h0 := by rw [← hh, Bd.state]; rfl
  have N0 := Fr.nil n0
  have pre0 : ∀ t, Steps p.tables e below (s₁.setTop (mkF m 0 #[.val (.ref a1), .val (.int j1), .val (.ref a2), .val (.int j2), .unset, .unset] [])) t → Steps p.tables e below (s₁.setTop (entryFrame m #[(.ref a1), (.int j1), (.ref a2), (.int j2)] 6)) t := fun t kq0 => castTop (ef_3 m a1 j1 a2 j2) kq0
  have sg1 : ∀ t, Steps p.tables e below (s₁.setTop (mkF m 16 #[.val (.ref a1), .val (.int j1), .val (.ref a2), .val (.int j2), .val (.long ((x1.toInt64) - (x2.toInt64))), .second] [(.long (((x1.toInt64) - (x2.toInt64)) * ((x1.toInt64) - (x2.toInt64))))])) t → Steps p.tables e below (s₁.setTop (mkF m 0 #[.val (.ref a1), .val (.int j1), .val (.ref a2), .val (.int j2), .unset, .unset] [])) t := by
    intro t kt
    refine XS.aloadN X0.here hx rfl (hb hby d3_0) rfl rfl ?_
    show Steps p.tables e below (s₁.setTop (mkF m 1 #[.val (.ref a1), .val (.int j1), .val (.ref a2), .val (.int j2), .unset, .unset] [(.ref a1)])) _
    refine XS.iloadN X0.here hx rfl (hb hby d3_1) rfl ?_
    show Steps p.tables e below (s₁.setTop (mkF m 2 #[.val (.ref a1), .val (.int j1), .val (.ref a2), .val (.int j2), .unset, .unset] [(.int j1), (.ref a1)])) _
    refine X0.iaload hx (j := j1) (v := (.int x1)) (by rw [e0]; exact Ar1.1) (State.isArrayOf_alike hZ.alike Ar1.2.1) Ar1.2.2 hin1 hat1 (g := (mkF m 2 #[.val (.ref a1), .val (.int j1), .val (.ref a2), .val (.int j2), .unset, .unset] [(.int j1), (.ref a1)])) rfl rfl (hb hby d3_2) _ ?_
    show Steps p.tables e below (s₁.setTop (mkF m 3 #[.val (.ref a1), .val (.int j1), .val (.ref a2), .val (.int j2), .unset, .unset] [(.int x1)])) _
    refine XS.i2l X0.here hx rfl (hb hby d3_3) rfl ?_
    show Steps p.tables e below (s₁.setTop (mkF m 4 #[.val (.ref a1), .val (.int j1), .val (.ref a2), .val (.int j2), .unset, .unset] [(.long (x1.toInt64))])) _
    refine XS.aloadN X0.here hx rfl (hb hby d3_4) rfl rfl ?_
    show Steps p.tables e below (s₁.setTop (mkF m 5 #[.val (.ref a1), .val (.int j1), .val (.ref a2), .val (.int j2), .unset, .unset] [(.ref a2), (.long (x1.toInt64))])) _
    refine XS.iloadN X0.here hx rfl (hb hby d3_5) rfl ?_
    show Steps p.tables e below (s₁.setTop (mkF m 6 #[.val (.ref a1), .val (.int j1), .val (.ref a2), .val (.int j2), .unset, .unset] [(.int j2), (.ref a2), (.long (x1.toInt64))])) _
    refine X0.iaload hx (j := j2) (v := (.int x2)) (by rw [e0]; exact Ar2.1) (State.isArrayOf_alike hZ.alike Ar2.2.1) Ar2.2.2 hin2 hat2 (g := (mkF m 6 #[.val (.ref a1), .val (.int j1), .val (.ref a2), .val (.int j2), .unset, .unset] [(.int j2), (.ref a2), (.long (x1.toInt64))])) rfl rfl (hb hby d3_6) _ ?_
    show Steps p.tables e below (s₁.setTop (mkF m 7 #[.val (.ref a1), .val (.int j1), .val (.ref a2), .val (.int j2), .unset, .unset] [(.int x2), (.long (x1.toInt64))])) _
    refine XS.i2l X0.here hx rfl (hb hby d3_7) rfl ?_
    show Steps p.tables e below (s₁.setTop (mkF m 8 #[.val (.ref a1), .val (.int j1), .val (.ref a2), .val (.int j2), .unset, .unset] [(.long (x2.toInt64)), (.long (x1.toInt64))])) _
    refine XS.lsub X0.here hx rfl (hb hby d3_8) rfl ?_
    show Steps p.tables e below (s₁.setTop (mkF m 9 #[.val (.ref a1), .val (.int j1), .val (.ref a2), .val (.int j2), .unset, .unset] [(.long ((x1.toInt64) - (x2.toInt64)))])) _
    refine XS.lstore X0.here hx rfl (hb hby d3_9) rfl (l' := #[.val (.ref a1), .val (.int j1), .val (.ref a2), .val (.int j2), .val (.long ((x1.toInt64) - (x2.toInt64))), .second]) rfl ?_
    show Steps p.tables e below (s₁.setTop (mkF m 11 #[.val (.ref a1), .val (.int j1), .val (.ref a2), .val (.int j2), .val (.long ((x1.toInt64) - (x2.toInt64))), .second] [])) _
    refine XS.lload X0.here hx rfl (hb hby d3_11) rfl ?_
    show Steps p.tables e below (s₁.setTop (mkF m 13 #[.val (.ref a1), .val (.int j1), .val (.ref a2), .val (.int j2), .val (.long ((x1.toInt64) - (x2.toInt64))), .second] [(.long ((x1.toInt64) - (x2.toInt64)))])) _
    refine XS.lload X0.here hx rfl (hb hby d3_13) rfl ?_
    show Steps p.tables e below (s₁.setTop (mkF m 15 #[.val (.ref a1), .val (.int j1), .val (.ref a2), .val (.int j2), .val (.long ((x1.toInt64) - (x2.toInt64))), .second] [(.long ((x1.toInt64) - (x2.toInt64))), (.long ((x1.toInt64) - (x2.toInt64)))])) _
    refine XS.lmul X0.here hx rfl (hb hby d3_15) rfl ?_
    exact kt
  obtain ⟨fs, hr, hrun, hended, hW, hsame⟩ := X0.leave (v := some (.long (((x1.toInt64) - (x2.toInt64)) * ((x1.toInt64) - (x2.toInt64))))) (fun h => by rw [Bd.returns] at h; cases h)
  refine ⟨_, _, pre0 _ ?_, hrun, hended, _, _, rfl, ?_, ⟨_, rfl⟩, hW, hsame.mono (by decide) (by decide)⟩
  · refine sg1 _ ?_
    exact retJ X0 hx Bd.returns (hb hby d3_16) hr
  · show Q3 Z a1 j1 a2 j2 x1 x2 c1 c2 h0 n0 _ s₁.heap _
    rw [e0]; exact ⟨rfl, N0, rfl⟩
theorem d4_0 : decode prog_43_method_11_code 0 = .ok (.dconst 0, 1) := by decide +kernel
theorem d4_1 : decode prog_43_method_11_code 1 = .ok (.dstore 5, 2) := by decide +kernel
theorem d4_3 : decode prog_43_method_11_code 3 = .ok (.iconst 0, 1) := by decide +kernel
theorem d4_4 : decode prog_43_method_11_code 4 = .ok (.istore 7, 2) := by decide +kernel
theorem d4_6 : decode prog_43_method_11_code 6 = .ok (.iload 7, 2) := by decide +kernel
theorem d4_8 : decode prog_43_method_11_code 8 = .ok (.iload 4, 2) := by decide +kernel
theorem d4_10 : decode prog_43_method_11_code 10 = .ok (.if_icmp .ge 34, 3) := by decide +kernel
theorem d4_13 : decode prog_43_method_11_code 13 = .ok (.aload_n 0, 1) := by decide +kernel
theorem d4_14 : decode prog_43_method_11_code 14 = .ok (.iload_n 1, 1) := by decide +kernel
theorem d4_15 : decode prog_43_method_11_code 15 = .ok (.iload 7, 2) := by decide +kernel
theorem d4_17 : decode prog_43_method_11_code 17 = .ok (.iadd, 1) := by decide +kernel
theorem d4_18 : decode prog_43_method_11_code 18 = .ok (.daload, 1) := by decide +kernel
theorem d4_19 : decode prog_43_method_11_code 19 = .ok (.aload_n 2, 1) := by decide +kernel
theorem d4_20 : decode prog_43_method_11_code 20 = .ok (.iload_n 3, 1) := by decide +kernel
theorem d4_21 : decode prog_43_method_11_code 21 = .ok (.iload 7, 2) := by decide +kernel
theorem d4_23 : decode prog_43_method_11_code 23 = .ok (.iadd, 1) := by decide +kernel
theorem d4_24 : decode prog_43_method_11_code 24 = .ok (.daload, 1) := by decide +kernel
theorem d4_25 : decode prog_43_method_11_code 25 = .ok (.dsub, 1) := by decide +kernel
theorem d4_26 : decode prog_43_method_11_code 26 = .ok (.dstore 8, 2) := by decide +kernel
theorem d4_28 : decode prog_43_method_11_code 28 = .ok (.dload 5, 2) := by decide +kernel
theorem d4_30 : decode prog_43_method_11_code 30 = .ok (.dload 8, 2) := by decide +kernel
theorem d4_32 : decode prog_43_method_11_code 32 = .ok (.dload 8, 2) := by decide +kernel
theorem d4_34 : decode prog_43_method_11_code 34 = .ok (.dmul, 1) := by decide +kernel
theorem d4_35 : decode prog_43_method_11_code 35 = .ok (.dadd, 1) := by decide +kernel
theorem d4_36 : decode prog_43_method_11_code 36 = .ok (.dstore 5, 2) := by decide +kernel
theorem d4_38 : decode prog_43_method_11_code 38 = .ok (.iinc 7 1, 3) := by decide +kernel
theorem d4_41 : decode prog_43_method_11_code 41 = .ok (.goto (-35), 3) := by decide +kernel
theorem d4_44 : decode prog_43_method_11_code 44 = .ok (.dload 5, 2) := by decide +kernel
theorem d4_46 : decode prog_43_method_11_code 46 = .ok (.dreturn, 1) := by decide +kernel
theorem pn_4 : plainName "com/example/cairnwise/cairnwise/model/Points" = true := by first | (simp [plainName, overriddenIn]; done) | decide +kernel
theorem ef_4 (m : MethodId) (x0 : Addr) (x1 : Int32) (x2 : Addr) (x3 : Int32) (x4 : Int32) : entryFrame m #[(.ref x0), (.int x1), (.ref x2), (.int x3), (.int x4)] 10 = mkF m 0 #[.val (.ref x0), .val (.int x1), .val (.ref x2), .val (.int x3), .val (.int x4), .unset, .unset, .unset, .unset, .unset] [] := by first | (simp [entryFrame, mkF, argsToLocals, Value.category]; done) | rfl
set_option maxRecDepth 65536 in
set_option maxHeartbeats 40000000 in
theorem own_loop (f g : Nat → Int32) (hf : ∀ n, own_B (f n)) (hg : ∀ n, own_B (g n)) (fr ot dn : Nat) (hfr : fr + dn ≤ 4) (hot : ot + dn ≤ 4) {p : Program} {l : Launch} {e : Env} {R : Room} {s : State} {m : MethodId} {args : Array Value} {below : List Frame} {meth : Method} {c : Code} {T0 : State} {locs : List Loc} {cells slots : Nat} {Z : State} {h0 : Heap} (a1 a2 : Addr) (c1 c2 : Cell) (X0 : Stand p l e R s m args below meth c T0 locs cells slots) (hx : p.tables.exec = Jvm.exec) (hZ : Z.Warmed39 s.vm) (hby : c.code = prog_43_method_11_code) (e0 : T0.heap = h0) (Ar1 : Arr Z h0 a1 c1 .double) (Z1 : c1.slots.size = 4) (H1 : ∀ n, n < dn → c1.slots[fr + n]? = some (.double (FP.i2d (f n)))) (Ar2 : Arr Z h0 a2 c2 .double) (Z2 : c2.slots.size = 4) (H2 : ∀ n, n < dn → c2.slots[ot + n]? = some (.double (FP.i2d (g n)))) :
    ∀ (k cn : Nat) (uu : UInt64) (s8 s9 : Slot), cn + k = dn → FP.Core.DInt (own_ssq f g cn) uu → ((s8 = .unset ∧ s9 = .unset) ∨ ∃ d8, s8 = .val (.double d8) ∧ s9 = .second) →
    ∃ u' Ls, FP.Core.DInt (own_ssq f g dn) u' ∧ ∀ t, Steps p.tables e below (T0.setTop (mkF m 46 Ls [(.double u')])) t → Steps p.tables e below (T0.setTop (mkF m 6 #[.val (.ref a1), .val (.int (Int32.ofNat fr)), .val (.ref a2), .val (.int (Int32.ofNat ot)), .val (.int (Int32.ofNat dn)), .val (.double uu), .second, .val (.int (Int32.ofNat cn)), s8, s9] [])) t := by
  intro k
  induction k with
  | zero =>
    intro cn uu s8 s9 hk hu hs
    have hcn : cn = dn := by omega
    subst hcn
    have hge : ¬ (Int32.ofNat cn < Int32.ofNat cn) := nlt32 (by omega) (Nat.le_refl _)
    refine ⟨uu, #[.val (.ref a1), .val (.int (Int32.ofNat fr)), .val (.ref a2), .val (.int (Int32.ofNat ot)), .val (.int (Int32.ofNat cn)), .val (.double uu), .second, .val (.int (Int32.ofNat cn)), s8, s9], hu, fun t kt => ?_⟩
    refine XS.iload X0.here hx rfl (hb hby d4_6) rfl ?_
    show Steps p.tables e below (T0.setTop (mkF m 8 #[.val (.ref a1), .val (.int (Int32.ofNat fr)), .val (.ref a2), .val (.int (Int32.ofNat ot)), .val (.int (Int32.ofNat cn)), .val (.double uu), .second, .val (.int (Int32.ofNat cn)), s8, s9] [(.int (Int32.ofNat cn))])) _
    refine XS.iload X0.here hx rfl (hb hby d4_8) rfl ?_
    show Steps p.tables e below (T0.setTop (mkF m 10 #[.val (.ref a1), .val (.int (Int32.ofNat fr)), .val (.ref a2), .val (.int (Int32.ofNat ot)), .val (.int (Int32.ofNat cn)), .val (.double uu), .second, .val (.int (Int32.ofNat cn)), s8, s9] [(.int (Int32.ofNat cn)), (.int (Int32.ofNat cn))])) _
    refine XS.icmpYes X0.here hx rfl (pc0 := 10) (pc' := 44) rfl (hb hby d4_10) rfl (flt (hge : ¬ ((Int32.ofNat cn) < (Int32.ofNat cn)))).2.1 (by decide) (by decide) ?_
    show Steps p.tables e below (T0.setTop (mkF m 44 #[.val (.ref a1), .val (.int (Int32.ofNat fr)), .val (.ref a2), .val (.int (Int32.ofNat ot)), .val (.int (Int32.ofNat cn)), .val (.double uu), .second, .val (.int (Int32.ofNat cn)), s8, s9] [])) _
    refine XS.dload X0.here hx rfl (hb hby d4_44) rfl ?_
    exact kt
  | succ k ih =>
    intro cn uu s8 s9 hk hu hs
    have hlt : Int32.ofNat cn < Int32.ofNat dn := lt32 (by omega) (by omega)
    have a1e : Int32.ofNat fr + Int32.ofNat cn = Int32.ofNat (fr + cn) := add32n _ _
    have a2e : Int32.ofNat ot + Int32.ofNat cn = Int32.ofNat (ot + cn) := add32n _ _
    have n1 : (Int32.ofNat fr + Int32.ofNat cn).toNatClampNeg = fr + cn := by rw [a1e]; exact n32 (by omega)
    have n2 : (Int32.ofNat ot + Int32.ofNat cn).toNatClampNeg = ot + cn := by rw [a2e]; exact n32 (by omega)
    have hin1 : ¬ ((Int32.ofNat fr + Int32.ofNat cn) < 0 ∨ c1.slots.size ≤ (Int32.ofNat fr + Int32.ofNat cn).toNatClampNeg) := by
      rw [n1, Z1, a1e]
      rintro (q | q)
      · exact nlt32 (a := fr + cn) (b := 0) (by omega) (by omega) q
      · omega
    have hin2 : ¬ ((Int32.ofNat ot + Int32.ofNat cn) < 0 ∨ c2.slots.size ≤ (Int32.ofNat ot + Int32.ofNat cn).toNatClampNeg) := by
      rw [n2, Z2, a2e]
      rintro (q | q)
      · exact nlt32 (a := ot + cn) (b := 0) (by omega) (by omega) q
      · omega
    have hat1 : c1.slots[(Int32.ofNat fr + Int32.ofNat cn).toNatClampNeg]? = some (.double (FP.i2d (f cn))) := by rw [n1]; exact H1 cn (by omega)
    have hat2 : c2.slots[(Int32.ofNat ot + Int32.ofNat cn).toNatClampNeg]? = some (.double (FP.i2d (g cn))) := by rw [n2]; exact H2 cn (by omega)
    have bf := hf cn
    have bg := hg cn
    have D1 := own_diff bf bg
    unfold own_B at bf bg
    have D2 := own_sqd D1 (by omega) (by omega)
    have q1 := own_ssq_b f g hf hg cn
    have q2 := own_ssq_b f g hf hg (cn + 1)
    have D3 : FP.Core.DInt (own_ssq f g (cn + 1)) (FP.dadd uu (FP.dmul (FP.dsub (FP.i2d (f cn)) (FP.i2d (g cn))) (FP.dsub (FP.i2d (f cn)) (FP.i2d (g cn))))) := by
      have hb : (own_ssq f g (cn + 1)).natAbs ≤ 2 ^ 53 := by
        have : ((cn + 1 : Nat) : Int) ≤ 4 := by omega
        omega
      exact FP.Core.dadd_int hu D2 hb
    have e1 := own_dint_nn D1
    have e2 := own_dint_nn D2
    have e3 := own_dint_nn D3
    obtain ⟨u', Ls, hu', hk'⟩ := ih (cn + 1) _ (.val (.double (FP.dsub (FP.i2d (f cn)) (FP.i2d (g cn))))) .second (by omega) D3 (Or.inr ⟨_, rfl, rfl⟩)
    refine ⟨u', Ls, hu', fun t kt => ?_⟩
    have kt2 := hk' t kt
    rw [← succ32 cn] at kt2
    rcases hs with ⟨rfl, rfl⟩ | ⟨d8, rfl, rfl⟩
    · refine XS.iload X0.here hx rfl (hb hby d4_6) rfl ?_
      show Steps p.tables e below (T0.setTop (mkF m 8 #[.val (.ref a1), .val (.int (Int32.ofNat fr)), .val (.ref a2), .val (.int (Int32.ofNat ot)), .val (.int (Int32.ofNat dn)), .val (.double uu), .second, .val (.int (Int32.ofNat cn)), .unset, .unset] [(.int (Int32.ofNat cn))])) _
      refine XS.iload X0.here hx rfl (hb hby d4_8) rfl ?_
      show Steps p.tables e below (T0.setTop (mkF m 10 #[.val (.ref a1), .val (.int (Int32.ofNat fr)), .val (.ref a2), .val (.int (Int32.ofNat ot)), .val (.int (Int32.ofNat dn)), .val (.double uu), .second, .val (.int (Int32.ofNat cn)), .unset, .unset] [(.int (Int32.ofNat dn)), (.int (Int32.ofNat cn))])) _
      refine XS.icmpNo X0.here hx rfl (hb hby d4_10) rfl (tlt (hlt : (Int32.ofNat cn) < (Int32.ofNat dn))).2.1 ?_
      show Steps p.tables e below (T0.setTop (mkF m 13 #[.val (.ref a1), .val (.int (Int32.ofNat fr)), .val (.ref a2), .val (.int (Int32.ofNat ot)), .val (.int (Int32.ofNat dn)), .val (.double uu), .second, .val (.int (Int32.ofNat cn)), .unset, .unset] [])) _
      refine XS.aloadN X0.here hx rfl (hb hby d4_13) rfl rfl ?_
      show Steps p.tables e below (T0.setTop (mkF m 14 #[.val (.ref a1), .val (.int (Int32.ofNat fr)), .val (.ref a2), .val (.int (Int32.ofNat ot)), .val (.int (Int32.ofNat dn)), .val (.double uu), .second, .val (.int (Int32.ofNat cn)), .unset, .unset] [(.ref a1)])) _
      refine XS.iloadN X0.here hx rfl (hb hby d4_14) rfl ?_
      show Steps p.tables e below (T0.setTop (mkF m 15 #[.val (.ref a1), .val (.int (Int32.ofNat fr)), .val (.ref a2), .val (.int (Int32.ofNat ot)), .val (.int (Int32.ofNat dn)), .val (.double uu), .second, .val (.int (Int32.ofNat cn)), .unset, .unset] [(.int (Int32.ofNat fr)), (.ref a1)])) _
      refine XS.iload X0.here hx rfl (hb hby d4_15) rfl ?_
      show Steps p.tables e below (T0.setTop (mkF m 17 #[.val (.ref a1), .val (.int (Int32.ofNat fr)), .val (.ref a2), .val (.int (Int32.ofNat ot)), .val (.int (Int32.ofNat dn)), .val (.double uu), .second, .val (.int (Int32.ofNat cn)), .unset, .unset] [(.int (Int32.ofNat cn)), (.int (Int32.ofNat fr)), (.ref a1)])) _
      refine XS.iadd X0.here hx rfl (hb hby d4_17) rfl ?_
      show Steps p.tables e below (T0.setTop (mkF m 18 #[.val (.ref a1), .val (.int (Int32.ofNat fr)), .val (.ref a2), .val (.int (Int32.ofNat ot)), .val (.int (Int32.ofNat dn)), .val (.double uu), .second, .val (.int (Int32.ofNat cn)), .unset, .unset] [(.int ((Int32.ofNat fr) + (Int32.ofNat cn))), (.ref a1)])) _
      refine X0.daload hx (j := ((Int32.ofNat fr) + (Int32.ofNat cn))) (v := (.double (FP.i2d (f cn)))) (by rw [e0]; exact Ar1.1) (State.isArrayOf_alike hZ.alike Ar1.2.1) Ar1.2.2 hin1 hat1 (g := (mkF m 18 #[.val (.ref a1), .val (.int (Int32.ofNat fr)), .val (.ref a2), .val (.int (Int32.ofNat ot)), .val (.int (Int32.ofNat dn)), .val (.double uu), .second, .val (.int (Int32.ofNat cn)), .unset, .unset] [(.int ((Int32.ofNat fr) + (Int32.ofNat cn))), (.ref a1)])) rfl rfl (hb hby d4_18) _ ?_
      show Steps p.tables e below (T0.setTop (mkF m 19 #[.val (.ref a1), .val (.int (Int32.ofNat fr)), .val (.ref a2), .val (.int (Int32.ofNat ot)), .val (.int (Int32.ofNat dn)), .val (.double uu), .second, .val (.int (Int32.ofNat cn)), .unset, .unset] [(.double (FP.i2d (f cn)))])) _
      refine XS.aloadN X0.here hx rfl (hb hby d4_19) rfl rfl ?_
      show Steps p.tables e below (T0.setTop (mkF m 20 #[.val (.ref a1), .val (.int (Int32.ofNat fr)), .val (.ref a2), .val (.int (Int32.ofNat ot)), .val (.int (Int32.ofNat dn)), .val (.double uu), .second, .val (.int (Int32.ofNat cn)), .unset, .unset] [(.ref a2), (.double (FP.i2d (f cn)))])) _
      refine XS.iloadN X0.here hx rfl (hb hby d4_20) rfl ?_
      show Steps p.tables e below (T0.setTop (mkF m 21 #[.val (.ref a1), .val (.int (Int32.ofNat fr)), .val (.ref a2), .val (.int (Int32.ofNat ot)), .val (.int (Int32.ofNat dn)), .val (.double uu), .second, .val (.int (Int32.ofNat cn)), .unset, .unset] [(.int (Int32.ofNat ot)), (.ref a2), (.double (FP.i2d (f cn)))])) _
      refine XS.iload X0.here hx rfl (hb hby d4_21) rfl ?_
      show Steps p.tables e below (T0.setTop (mkF m 23 #[.val (.ref a1), .val (.int (Int32.ofNat fr)), .val (.ref a2), .val (.int (Int32.ofNat ot)), .val (.int (Int32.ofNat dn)), .val (.double uu), .second, .val (.int (Int32.ofNat cn)), .unset, .unset] [(.int (Int32.ofNat cn)), (.int (Int32.ofNat ot)), (.ref a2), (.double (FP.i2d (f cn)))])) _
      refine XS.iadd X0.here hx rfl (hb hby d4_23) rfl ?_
      show Steps p.tables e below (T0.setTop (mkF m 24 #[.val (.ref a1), .val (.int (Int32.ofNat fr)), .val (.ref a2), .val (.int (Int32.ofNat ot)), .val (.int (Int32.ofNat dn)), .val (.double uu), .second, .val (.int (Int32.ofNat cn)), .unset, .unset] [(.int ((Int32.ofNat ot) + (Int32.ofNat cn))), (.ref a2), (.double (FP.i2d (f cn)))])) _
      refine X0.daload hx (j := ((Int32.ofNat ot) + (Int32.ofNat cn))) (v := (.double (FP.i2d (g cn)))) (by rw [e0]; exact Ar2.1) (State.isArrayOf_alike hZ.alike Ar2.2.1) Ar2.2.2 hin2 hat2 (g := (mkF m 24 #[.val (.ref a1), .val (.int (Int32.ofNat fr)), .val (.ref a2), .val (.int (Int32.ofNat ot)), .val (.int (Int32.ofNat dn)), .val (.double uu), .second, .val (.int (Int32.ofNat cn)), .unset, .unset] [(.int ((Int32.ofNat ot) + (Int32.ofNat cn))), (.ref a2), (.double (FP.i2d (f cn)))])) rfl rfl (hb hby d4_24) _ ?_
      show Steps p.tables e below (T0.setTop (mkF m 25 #[.val (.ref a1), .val (.int (Int32.ofNat fr)), .val (.ref a2), .val (.int (Int32.ofNat ot)), .val (.int (Int32.ofNat dn)), .val (.double uu), .second, .val (.int (Int32.ofNat cn)), .unset, .unset] [(.double (FP.i2d (g cn))), (.double (FP.i2d (f cn)))])) _
      refine XS.dsubS X0.here hx rfl (hb hby d4_25) rfl e1 (v := (FP.dsub (FP.i2d (f cn)) (FP.i2d (g cn)))) rfl ?_
      show Steps p.tables e below (T0.setTop (mkF m 26 #[.val (.ref a1), .val (.int (Int32.ofNat fr)), .val (.ref a2), .val (.int (Int32.ofNat ot)), .val (.int (Int32.ofNat dn)), .val (.double uu), .second, .val (.int (Int32.ofNat cn)), .unset, .unset] [(.double (FP.dsub (FP.i2d (f cn)) (FP.i2d (g cn))))])) _
      refine XS.dstore X0.here hx rfl (hb hby d4_26) rfl (l' := #[.val (.ref a1), .val (.int (Int32.ofNat fr)), .val (.ref a2), .val (.int (Int32.ofNat ot)), .val (.int (Int32.ofNat dn)), .val (.double uu), .second, .val (.int (Int32.ofNat cn)), .val (.double (FP.dsub (FP.i2d (f cn)) (FP.i2d (g cn)))), .second]) rfl ?_
      show Steps p.tables e below (T0.setTop (mkF m 28 #[.val (.ref a1), .val (.int (Int32.ofNat fr)), .val (.ref a2), .val (.int (Int32.ofNat ot)), .val (.int (Int32.ofNat dn)), .val (.double uu), .second, .val (.int (Int32.ofNat cn)), .val (.double (FP.dsub (FP.i2d (f cn)) (FP.i2d (g cn)))), .second] [])) _
      refine XS.dload X0.here hx rfl (hb hby d4_28) rfl ?_
      show Steps p.tables e below (T0.setTop (mkF m 30 #[.val (.ref a1), .val (.int (Int32.ofNat fr)), .val (.ref a2), .val (.int (Int32.ofNat ot)), .val (.int (Int32.ofNat dn)), .val (.double uu), .second, .val (.int (Int32.ofNat cn)), .val (.double (FP.dsub (FP.i2d (f cn)) (FP.i2d (g cn)))), .second] [(.double uu)])) _
      refine XS.dload X0.here hx rfl (hb hby d4_30) rfl ?_
      show Steps p.tables e below (T0.setTop (mkF m 32 #[.val (.ref a1), .val (.int (Int32.ofNat fr)), .val (.ref a2), .val (.int (Int32.ofNat ot)), .val (.int (Int32.ofNat dn)), .val (.double uu), .second, .val (.int (Int32.ofNat cn)), .val (.double (FP.dsub (FP.i2d (f cn)) (FP.i2d (g cn)))), .second] [(.double (FP.dsub (FP.i2d (f cn)) (FP.i2d (g cn)))), (.double uu)])) _
      refine XS.dload X0.here hx rfl (hb hby d4_32) rfl ?_
      show Steps p.tables e below (T0.setTop (mkF m 34 #[.val (.ref a1), .val (.int (Int32.ofNat fr)), .val (.ref a2), .val (.int (Int32.ofNat ot)), .val (.int (Int32.ofNat dn)), .val (.double uu), .second, .val (.int (Int32.ofNat cn)), .val (.double (FP.dsub (FP.i2d (f cn)) (FP.i2d (g cn)))), .second] [(.double (FP.dsub (FP.i2d (f cn)) (FP.i2d (g cn)))), (.double (FP.dsub (FP.i2d (f cn)) (FP.i2d (g cn)))), (.double uu)])) _
      refine XS.dmulS X0.here hx rfl (hb hby d4_34) rfl e2 (v := (FP.dmul (FP.dsub (FP.i2d (f cn)) (FP.i2d (g cn))) (FP.dsub (FP.i2d (f cn)) (FP.i2d (g cn))))) rfl ?_
      show Steps p.tables e below (T0.setTop (mkF m 35 #[.val (.ref a1), .val (.int (Int32.ofNat fr)), .val (.ref a2), .val (.int (Int32.ofNat ot)), .val (.int (Int32.ofNat dn)), .val (.double uu), .second, .val (.int (Int32.ofNat cn)), .val (.double (FP.dsub (FP.i2d (f cn)) (FP.i2d (g cn)))), .second] [(.double (FP.dmul (FP.dsub (FP.i2d (f cn)) (FP.i2d (g cn))) (FP.dsub (FP.i2d (f cn)) (FP.i2d (g cn))))), (.double uu)])) _
      refine XS.daddS X0.here hx rfl (hb hby d4_35) rfl e3 (v := (FP.dadd uu (FP.dmul (FP.dsub (FP.i2d (f cn)) (FP.i2d (g cn))) (FP.dsub (FP.i2d (f cn)) (FP.i2d (g cn)))))) rfl ?_
      show Steps p.tables e below (T0.setTop (mkF m 36 #[.val (.ref a1), .val (.int (Int32.ofNat fr)), .val (.ref a2), .val (.int (Int32.ofNat ot)), .val (.int (Int32.ofNat dn)), .val (.double uu), .second, .val (.int (Int32.ofNat cn)), .val (.double (FP.dsub (FP.i2d (f cn)) (FP.i2d (g cn)))), .second] [(.double (FP.dadd uu (FP.dmul (FP.dsub (FP.i2d (f cn)) (FP.i2d (g cn))) (FP.dsub (FP.i2d (f cn)) (FP.i2d (g cn))))))])) _
      refine XS.dstore X0.here hx rfl (hb hby d4_36) rfl (l' := #[.val (.ref a1), .val (.int (Int32.ofNat fr)), .val (.ref a2), .val (.int (Int32.ofNat ot)), .val (.int (Int32.ofNat dn)), .val (.double (FP.dadd uu (FP.dmul (FP.dsub (FP.i2d (f cn)) (FP.i2d (g cn))) (FP.dsub (FP.i2d (f cn)) (FP.i2d (g cn)))))), .second, .val (.int (Int32.ofNat cn)), .val (.double (FP.dsub (FP.i2d (f cn)) (FP.i2d (g cn)))), .second]) rfl ?_
      show Steps p.tables e below (T0.setTop (mkF m 38 #[.val (.ref a1), .val (.int (Int32.ofNat fr)), .val (.ref a2), .val (.int (Int32.ofNat ot)), .val (.int (Int32.ofNat dn)), .val (.double (FP.dadd uu (FP.dmul (FP.dsub (FP.i2d (f cn)) (FP.i2d (g cn))) (FP.dsub (FP.i2d (f cn)) (FP.i2d (g cn)))))), .second, .val (.int (Int32.ofNat cn)), .val (.double (FP.dsub (FP.i2d (f cn)) (FP.i2d (g cn)))), .second] [])) _
      refine XS.iinc X0.here hx rfl (hb hby d4_38) rfl (l' := #[.val (.ref a1), .val (.int (Int32.ofNat fr)), .val (.ref a2), .val (.int (Int32.ofNat ot)), .val (.int (Int32.ofNat dn)), .val (.double (FP.dadd uu (FP.dmul (FP.dsub (FP.i2d (f cn)) (FP.i2d (g cn))) (FP.dsub (FP.i2d (f cn)) (FP.i2d (g cn)))))), .second, .val (.int ((Int32.ofNat cn) + (1 : Int32))), .val (.double (FP.dsub (FP.i2d (f cn)) (FP.i2d (g cn)))), .second]) rfl ?_
      show Steps p.tables e below (T0.setTop (mkF m 41 #[.val (.ref a1), .val (.int (Int32.ofNat fr)), .val (.ref a2), .val (.int (Int32.ofNat ot)), .val (.int (Int32.ofNat dn)), .val (.double (FP.dadd uu (FP.dmul (FP.dsub (FP.i2d (f cn)) (FP.i2d (g cn))) (FP.dsub (FP.i2d (f cn)) (FP.i2d (g cn)))))), .second, .val (.int ((Int32.ofNat cn) + (1 : Int32))), .val (.double (FP.dsub (FP.i2d (f cn)) (FP.i2d (g cn)))), .second] [])) _
      refine XS.goto X0.here hx rfl (pc0 := 41) (pc' := 6) rfl (hb hby d4_41) (by decide) (by decide) ?_
      exact kt2
    · refine XS.iload X0.here hx rfl (hb hby d4_6) rfl ?_
      show Steps p.tables e below (T0.setTop (mkF m 8 #[.val (.ref a1), .val (.int (Int32.ofNat fr)), .val (.ref a2), .val (.int (Int32.ofNat ot)), .val (.int (Int32.ofNat dn)), .val (.double uu), .second, .val (.int (Int32.ofNat cn)), .val (.double d8), .second] [(.int (Int32.ofNat cn))])) _
      refine XS.iload X0.here hx rfl (hb hby d4_8) rfl ?_
      show Steps p.tables e below (T0.setTop (mkF m 10 #[.val (.ref a1), .val (.int (Int32.ofNat fr)), .val (.ref a2), .val (.int (Int32.ofNat ot)), .val (.int (Int32.ofNat dn)), .val (.double uu), .second, .val (.int (Int32.ofNat cn)), .val (.double d8), .second] [(.int (Int32.ofNat dn)), (.int (Int32.ofNat cn))])) _
      refine XS.icmpNo X0.here hx rfl (hb hby d4_10) rfl (tlt (hlt : (Int32.ofNat cn) < (Int32.ofNat dn))).2.1 ?_
      show Steps p.tables e below (T0.setTop (mkF m 13 #[.val (.ref a1), .val (.int (Int32.ofNat fr)), .val (.ref a2), .val (.int (Int32.ofNat ot)), .val (.int (Int32.ofNat dn)), .val (.double uu), .second, .val (.int (Int32.ofNat cn)), .val (.double d8), .second] [])) _
      refine XS.aloadN X0.here hx rfl (hb hby d4_13) rfl rfl ?_
      show Steps p.tables e below (T0.setTop (mkF m 14 #[.val (.ref a1), .val (.int (Int32.ofNat fr)), .val (.ref a2), .val (.int (Int32.ofNat ot)), .val (.int (Int32.ofNat dn)), .val (.double uu), .second, .val (.int (Int32.ofNat cn)), .val (.double d8), .second] [(.ref a1)])) _
      refine XS.iloadN X0.here hx rfl (hb hby d4_14) rfl ?_
      show Steps p.tables e below (T0.setTop (mkF m 15 #[.val (.ref a1), .val (.int (Int32.ofNat fr)), .val (.ref a2), .val (.int (Int32.ofNat ot)), .val (.int (Int32.ofNat dn)), .val (.double uu), .second, .val (.int (Int32.ofNat cn)), .val (.double d8), .second] [(.int (Int32.ofNat fr)), (.ref a1)])) _
      refine XS.iload X0.here hx rfl (hb hby d4_15) rfl ?_
      show Steps p.tables e below (T0.setTop (mkF m 17 #[.val (.ref a1), .val (.int (Int32.ofNat fr)), .val (.ref a2), .val (.int (Int32.ofNat ot)), .val (.int (Int32.ofNat dn)), .val (.double uu), .second, .val (.int (Int32.ofNat cn)), .val (.double d8), .second] [(.int (Int32.ofNat cn)), (.int (Int32.ofNat fr)), (.ref a1)])) _
      refine XS.iadd X0.here hx rfl (hb hby d4_17) rfl ?_
      show Steps p.tables e below (T0.setTop (mkF m 18 #[.val (.ref a1), .val (.int (Int32.ofNat fr)), .val (.ref a2), .val (.int (Int32.ofNat ot)), .val (.int (Int32.ofNat dn)), .val (.double uu), .second, .val (.int (Int32.ofNat cn)), .val (.double d8), .second] [(.int ((Int32.ofNat fr) + (Int32.ofNat cn))), (.ref a1)])) _
      refine X0.daload hx (j := ((Int32.ofNat fr) + (Int32.ofNat cn))) (v := (.double (FP.i2d (f cn)))) (by rw [e0]; exact Ar1.1) (State.isArrayOf_alike hZ.alike Ar1.2.1) Ar1.2.2 hin1 hat1 (g := (mkF m 18 #[.val (.ref a1), .val (.int (Int32.ofNat fr)), .val (.ref a2), .val (.int (Int32.ofNat ot)), .val (.int (Int32.ofNat dn)), .val (.double uu), .second, .val (.int (Int32.ofNat cn)), .val (.double d8), .second] [(.int ((Int32.ofNat fr) + (Int32.ofNat cn))), (.ref a1)])) rfl rfl (hb hby d4_18) _ ?_
      show Steps p.tables e below (T0.setTop (mkF m 19 #[.val (.ref a1), .val (.int (Int32.ofNat fr)), .val (.ref a2), .val (.int (Int32.ofNat ot)), .val (.int (Int32.ofNat dn)), .val (.double uu), .second, .val (.int (Int32.ofNat cn)), .val (.double d8), .second] [(.double (FP.i2d (f cn)))])) _
      refine XS.aloadN X0.here hx rfl (hb hby d4_19) rfl rfl ?_
      show Steps p.tables e below (T0.setTop (mkF m 20 #[.val (.ref a1), .val (.int (Int32.ofNat fr)), .val (.ref a2), .val (.int (Int32.ofNat ot)), .val (.int (Int32.ofNat dn)), .val (.double uu), .second, .val (.int (Int32.ofNat cn)), .val (.double d8), .second] [(.ref a2), (.double (FP.i2d (f cn)))])) _
      refine XS.iloadN X0.here hx rfl (hb hby d4_20) rfl ?_
      show Steps p.tables e below (T0.setTop (mkF m 21 #[.val (.ref a1), .val (.int (Int32.ofNat fr)), .val (.ref a2), .val (.int (Int32.ofNat ot)), .val (.int (Int32.ofNat dn)), .val (.double uu), .second, .val (.int (Int32.ofNat cn)), .val (.double d8), .second] [(.int (Int32.ofNat ot)), (.ref a2), (.double (FP.i2d (f cn)))])) _
      refine XS.iload X0.here hx rfl (hb hby d4_21) rfl ?_
      show Steps p.tables e below (T0.setTop (mkF m 23 #[.val (.ref a1), .val (.int (Int32.ofNat fr)), .val (.ref a2), .val (.int (Int32.ofNat ot)), .val (.int (Int32.ofNat dn)), .val (.double uu), .second, .val (.int (Int32.ofNat cn)), .val (.double d8), .second] [(.int (Int32.ofNat cn)), (.int (Int32.ofNat ot)), (.ref a2), (.double (FP.i2d (f cn)))])) _
      refine XS.iadd X0.here hx rfl (hb hby d4_23) rfl ?_
      show Steps p.tables e below (T0.setTop (mkF m 24 #[.val (.ref a1), .val (.int (Int32.ofNat fr)), .val (.ref a2), .val (.int (Int32.ofNat ot)), .val (.int (Int32.ofNat dn)), .val (.double uu), .second, .val (.int (Int32.ofNat cn)), .val (.double d8), .second] [(.int ((Int32.ofNat ot) + (Int32.ofNat cn))), (.ref a2), (.double (FP.i2d (f cn)))])) _
      refine X0.daload hx (j := ((Int32.ofNat ot) + (Int32.ofNat cn))) (v := (.double (FP.i2d (g cn)))) (by rw [e0]; exact Ar2.1) (State.isArrayOf_alike hZ.alike Ar2.2.1) Ar2.2.2 hin2 hat2 (g := (mkF m 24 #[.val (.ref a1), .val (.int (Int32.ofNat fr)), .val (.ref a2), .val (.int (Int32.ofNat ot)), .val (.int (Int32.ofNat dn)), .val (.double uu), .second, .val (.int (Int32.ofNat cn)), .val (.double d8), .second] [(.int ((Int32.ofNat ot) + (Int32.ofNat cn))), (.ref a2), (.double (FP.i2d (f cn)))])) rfl rfl (hb hby d4_24) _ ?_
      show Steps p.tables e below (T0.setTop (mkF m 25 #[.val (.ref a1), .val (.int (Int32.ofNat fr)), .val (.ref a2), .val (.int (Int32.ofNat ot)), .val (.int (Int32.ofNat dn)), .val (.double uu), .second, .val (.int (Int32.ofNat cn)), .val (.double d8), .second] [(.double (FP.i2d (g cn))), (.double (FP.i2d (f cn)))])) _
      refine XS.dsubS X0.here hx rfl (hb hby d4_25) rfl e1 (v := (FP.dsub (FP.i2d (f cn)) (FP.i2d (g cn)))) rfl ?_
      show Steps p.tables e below (T0.setTop (mkF m 26 #[.val (.ref a1), .val (.int (Int32.ofNat fr)), .val (.ref a2), .val (.int (Int32.ofNat ot)), .val (.int (Int32.ofNat dn)), .val (.double uu), .second, .val (.int (Int32.ofNat cn)), .val (.double d8), .second] [(.double (FP.dsub (FP.i2d (f cn)) (FP.i2d (g cn))))])) _
      refine XS.dstore X0.here hx rfl (hb hby d4_26) rfl (l' := #[.val (.ref a1), .val (.int (Int32.ofNat fr)), .val (.ref a2), .val (.int (Int32.ofNat ot)), .val (.int (Int32.ofNat dn)), .val (.double uu), .second, .val (.int (Int32.ofNat cn)), .val (.double (FP.dsub (FP.i2d (f cn)) (FP.i2d (g cn)))), .second]) rfl ?_
      show Steps p.tables e below (T0.setTop (mkF m 28 #[.val (.ref a1), .val (.int (Int32.ofNat fr)), .val (.ref a2), .val (.int (Int32.ofNat ot)), .val (.int (Int32.ofNat dn)), .val (.double uu), .second, .val (.int (Int32.ofNat cn)), .val (.double (FP.dsub (FP.i2d (f cn)) (FP.i2d (g cn)))), .second] [])) _
      refine XS.dload X0.here hx rfl (hb hby d4_28) rfl ?_
      show Steps p.tables e below (T0.setTop (mkF m 30 #[.val (.ref a1), .val (.int (Int32.ofNat fr)), .val (.ref a2), .val (.int (Int32.ofNat ot)), .val (.int (Int32.ofNat dn)), .val (.double uu), .second, .val (.int (Int32.ofNat cn)), .val (.double (FP.dsub (FP.i2d (f cn)) (FP.i2d (g cn)))), .second] [(.double uu)])) _
      refine XS.dload X0.here hx rfl (hb hby d4_30) rfl ?_
      show Steps p.tables e below (T0.setTop (mkF m 32 #[.val (.ref a1), .val (.int (Int32.ofNat fr)), .val (.ref a2), .val (.int (Int32.ofNat ot)), .val (.int (Int32.ofNat dn)), .val (.double uu), .second, .val (.int (Int32.ofNat cn)), .val (.double (FP.dsub (FP.i2d (f cn)) (FP.i2d (g cn)))), .second] [(.double (FP.dsub (FP.i2d (f cn)) (FP.i2d (g cn)))), (.double uu)])) _
      refine XS.dload X0.here hx rfl (hb hby d4_32) rfl ?_
      show Steps p.tables e below (T0.setTop (mkF m 34 #[.val (.ref a1), .val (.int (Int32.ofNat fr)), .val (.ref a2), .val (.int (Int32.ofNat ot)), .val (.int (Int32.ofNat dn)), .val (.double uu), .second, .val (.int (Int32.ofNat cn)), .val (.double (FP.dsub (FP.i2d (f cn)) (FP.i2d (g cn)))), .second] [(.double (FP.dsub (FP.i2d (f cn)) (FP.i2d (g cn)))), (.double (FP.dsub (FP.i2d (f cn)) (FP.i2d (g cn)))), (.double uu)])) _
      refine XS.dmulS X0.here hx rfl (hb hby d4_34) rfl e2 (v := (FP.dmul (FP.dsub (FP.i2d (f cn)) (FP.i2d (g cn))) (FP.dsub (FP.i2d (f cn)) (FP.i2d (g cn))))) rfl ?_
      show Steps p.tables e below (T0.setTop (mkF m 35 #[.val (.ref a1), .val (.int (Int32.ofNat fr)), .val (.ref a2), .val (.int (Int32.ofNat ot)), .val (.int (Int32.ofNat dn)), .val (.double uu), .second, .val (.int (Int32.ofNat cn)), .val (.double (FP.dsub (FP.i2d (f cn)) (FP.i2d (g cn)))), .second] [(.double (FP.dmul (FP.dsub (FP.i2d (f cn)) (FP.i2d (g cn))) (FP.dsub (FP.i2d (f cn)) (FP.i2d (g cn))))), (.double uu)])) _
      refine XS.daddS X0.here hx rfl (hb hby d4_35) rfl e3 (v := (FP.dadd uu (FP.dmul (FP.dsub (FP.i2d (f cn)) (FP.i2d (g cn))) (FP.dsub (FP.i2d (f cn)) (FP.i2d (g cn)))))) rfl ?_
      show Steps p.tables e below (T0.setTop (mkF m 36 #[.val (.ref a1), .val (.int (Int32.ofNat fr)), .val (.ref a2), .val (.int (Int32.ofNat ot)), .val (.int (Int32.ofNat dn)), .val (.double uu), .second, .val (.int (Int32.ofNat cn)), .val (.double (FP.dsub (FP.i2d (f cn)) (FP.i2d (g cn)))), .second] [(.double (FP.dadd uu (FP.dmul (FP.dsub (FP.i2d (f cn)) (FP.i2d (g cn))) (FP.dsub (FP.i2d (f cn)) (FP.i2d (g cn))))))])) _
      refine XS.dstore X0.here hx rfl (hb hby d4_36) rfl (l' := #[.val (.ref a1), .val (.int (Int32.ofNat fr)), .val (.ref a2), .val (.int (Int32.ofNat ot)), .val (.int (Int32.ofNat dn)), .val (.double (FP.dadd uu (FP.dmul (FP.dsub (FP.i2d (f cn)) (FP.i2d (g cn))) (FP.dsub (FP.i2d (f cn)) (FP.i2d (g cn)))))), .second, .val (.int (Int32.ofNat cn)), .val (.double (FP.dsub (FP.i2d (f cn)) (FP.i2d (g cn)))), .second]) rfl ?_
      show Steps p.tables e below (T0.setTop (mkF m 38 #[.val (.ref a1), .val (.int (Int32.ofNat fr)), .val (.ref a2), .val (.int (Int32.ofNat ot)), .val (.int (Int32.ofNat dn)), .val (.double (FP.dadd uu (FP.dmul (FP.dsub (FP.i2d (f cn)) (FP.i2d (g cn))) (FP.dsub (FP.i2d (f cn)) (FP.i2d (g cn)))))), .second, .val (.int (Int32.ofNat cn)), .val (.double (FP.dsub (FP.i2d (f cn)) (FP.i2d (g cn)))), .second] [])) _
      refine XS.iinc X0.here hx rfl (hb hby d4_38) rfl (l' := #[.val (.ref a1), .val (.int (Int32.ofNat fr)), .val (.ref a2), .val (.int (Int32.ofNat ot)), .val (.int (Int32.ofNat dn)), .val (.double (FP.dadd uu (FP.dmul (FP.dsub (FP.i2d (f cn)) (FP.i2d (g cn))) (FP.dsub (FP.i2d (f cn)) (FP.i2d (g cn)))))), .second, .val (.int ((Int32.ofNat cn) + (1 : Int32))), .val (.double (FP.dsub (FP.i2d (f cn)) (FP.i2d (g cn)))), .second]) rfl ?_
      show Steps p.tables e below (T0.setTop (mkF m 41 #[.val (.ref a1), .val (.int (Int32.ofNat fr)), .val (.ref a2), .val (.int (Int32.ofNat ot)), .val (.int (Int32.ofNat dn)), .val (.double (FP.dadd uu (FP.dmul (FP.dsub (FP.i2d (f cn)) (FP.i2d (g cn))) (FP.dsub (FP.i2d (f cn)) (FP.i2d (g cn)))))), .second, .val (.int ((Int32.ofNat cn) + (1 : Int32))), .val (.double (FP.dsub (FP.i2d (f cn)) (FP.i2d (g cn)))), .second] [])) _
      refine XS.goto X0.here hx rfl (pc0 := 41) (pc' := 6) rfl (hb hby d4_41) (by decide) (by decide) ?_
      exact kt2
def Q4 (Z : State) (a1 : Addr) (fr : Nat) (a2 : Addr) (ot dn : Nat) (f g : Nat → Int32) (k1 k2 : ClassId) (us vs : List Value) (h0 : Heap) (n0 : Nat) (v : Option Value) (h : Heap) (L : List Loc) : Prop := (∃ u', v = some (.double u') ∧ FP.Core.DInt (own_ssq f g dn) u') ∧ Fr n0 L ∧ h = h0
set_option maxRecDepth 65536 in
set_option maxHeartbeats 40000000 in
theorem rm4 (l : Launch) (Z : State) (a0 : Array Value) (hw : ∀ d ∈ tables_1, d.before a0 Z = true) (ws : List Jvm.Cond) (a1 : Addr) (fr : Nat) (a2 : Addr) (ot dn : Nat) (f g : Nat → Int32) (k1 k2 : ClassId) (us vs : List Value) (h0 : Heap) (n0 : Nat) (Z0 : n0 ≤ h0.size) (hf : ∀ n, own_B (f n)) (hg : ∀ n, own_B (g n)) (hfr : fr + dn ≤ 4) (hot : ot + dn ≤ 4) (V1 : Arv Z h0 a1 k1 .double (4 : Int32) us (.double (0 : UInt64))) (A1 : ∀ n, n < dn → us.getD (fr + n) (.double (0 : UInt64)) = .double (FP.i2d (f n))) (V2 : Arv Z h0 a2 k2 .double (4 : Int32) vs (.double (0 : UInt64))) (A2 : ∀ n, n < dn → vs.getD (ot + n) (.double (0 : UInt64)) = .double (FP.i2d (g n))) :
    MetFree l (⟨"com/example/cairnwise/cairnwise/model/Points", "squaredDistance", "([DI[DII)D"⟩ : MethodName) (head1 (Jvm.Cond.code (⟨"com/example/cairnwise/cairnwise/model/Points", "squaredDistance", "([DI[DII)D"⟩ : MethodName) prog_43_method_11_code 10 (some .double) :: ws) ({ frames := 0, cells := 0, slots := 0, locals := 0 } : Room)) (fun a U => a = #[(.ref a1), (.int (Int32.ofNat fr)), (.ref a2), (.int (Int32.ofNat ot)), (.int (Int32.ofNat dn))] ∧ Z.Warmed39 U.vm ∧ U.heap = h0) (fun _ _ _ _ _ => True) (fun _ U o U' => ∃ v L, o = .returned v ∧ Q4 Z a1 fr a2 ot dn f g k1 k2 us vs h0 n0 v U'.heap L ∧ FrameEnd U o U' L ({ frames := 0, cells := 0, slots := 0, locals := 0 } : Room).cells ({ frames := 0, cells := 0, slots := 0, locals := 0 } : Room).slots) := by
  refine MetFree.of_bodySF (plainFor_of_name pn_4) hisR ?_
  intro p e s m args below meth c s₁ Bd hml0 hP hK
  obtain ⟨rfl, hZ, hh⟩ := hP
  have hx := Bd.exec
  have hby := Bd.bytes
  have hml : c.maxLocals = 10 := hml0
  have hown : s.vm.findClass "com/example/cairnwise/cairnwise/model/Points" = some m.cls := findClass_of_methodNamed Bd.named
  have hnm := (name_of_methodNamed Bd.named Bd.method).1
  have X0 : Stand p l e ({ frames := 0, cells := 0, slots := 0, locals := 0 } : Room) s m #[(.ref a1), (.int (Int32.ofNat fr)), (.ref a2), (.int (Int32.ofNat ot)), (.int (Int32.ofNat dn))] below meth c s₁ [] 0 0 := Stand.of_body Bd
  have e0 : s₁.heap = h0 := by rw [← hh, Bd.state]; rfl
  have N0 := Fr.nil n0
  have pre0 : ∀ t, Steps p.tables e below (s₁.setTop (mkF m 0 #[.val (.ref a1), .val (.int (Int32.ofNat fr)), .val (.ref a2), .val (.int (Int32.ofNat ot)), .val (.int (Int32.ofNat dn)), .unset, .unset, .unset, .unset, .unset] [])) t → Steps p.tables e below (s₁.setTop (entryFrame m #[(.ref a1), (.int (Int32.ofNat fr)), (.ref a2), (.int (Int32.ofNat ot)), (.int (Int32.ofNat dn))] 10)) t := fun t kq0 => castTop (ef_4 m a1 ((Int32.ofNat fr)) a2 ((Int32.ofNat ot)) ((Int32.ofNat dn))) kq0
  have sg1 : ∀ t, Steps p.tables e below (s₁.setTop (mkF m 6 #[.val (.ref a1), .val (.int (Int32.ofNat fr)), .val (.ref a2), .val (.int (Int32.ofNat ot)), .val (.int (Int32.ofNat dn)), .val (.double (FP.dconst0)), .second, .val (.int (0 : Int32)), .unset, .unset] [])) t → Steps p.tables e below (s₁.setTop (mkF m 0 #[.val (.ref a1), .val (.int (Int32.ofNat fr)), .val (.ref a2), .val (.int (Int32.ofNat ot)), .val (.int (Int32.ofNat dn)), .unset, .unset, .unset, .unset, .unset] [])) t := by
    intro t kt
    refine XS.dconst0 X0.here hx rfl (hb hby d4_0) (v := (FP.dconst0)) rfl ?_
    show Steps p.tables e below (s₁.setTop (mkF m 1 #[.val (.ref a1), .val (.int (Int32.ofNat fr)), .val (.ref a2), .val (.int (Int32.ofNat ot)), .val (.int (Int32.ofNat dn)), .unset, .unset, .unset, .unset, .unset] [(.double (FP.dconst0))])) _
    refine XS.dstore X0.here hx rfl (hb hby d4_1) rfl (l' := #[.val (.ref a1), .val (.int (Int32.ofNat fr)), .val (.ref a2), .val (.int (Int32.ofNat ot)), .val (.int (Int32.ofNat dn)), .val (.double (FP.dconst0)), .second, .unset, .unset, .unset]) rfl ?_
    show Steps p.tables e below (s₁.setTop (mkF m 3 #[.val (.ref a1), .val (.int (Int32.ofNat fr)), .val (.ref a2), .val (.int (Int32.ofNat ot)), .val (.int (Int32.ofNat dn)), .val (.double (FP.dconst0)), .second, .unset, .unset, .unset] [])) _
    refine XS.iconst X0.here hx rfl (hb hby d4_3) ?_
    show Steps p.tables e below (s₁.setTop (mkF m 4 #[.val (.ref a1), .val (.int (Int32.ofNat fr)), .val (.ref a2), .val (.int (Int32.ofNat ot)), .val (.int (Int32.ofNat dn)), .val (.double (FP.dconst0)), .second, .unset, .unset, .unset] [(.int (0 : Int32))])) _
    refine XS.istore X0.here hx rfl (hb hby d4_4) rfl (l' := #[.val (.ref a1), .val (.int (Int32.ofNat fr)), .val (.ref a2), .val (.int (Int32.ofNat ot)), .val (.int (Int32.ofNat dn)), .val (.double (FP.dconst0)), .second, .val (.int (0 : Int32)), .unset, .unset]) rfl ?_
    exact kt
  obtain ⟨c1, Ar1, -, S1, -, H1, -⟩ := V1
  obtain ⟨c2, Ar2, -, S2, -, H2, -⟩ := V2
  have z1 : c1.slots.size = 4 := S1
  have z2 : c2.slots.size = 4 := S2
  obtain ⟨u', Ls, hu', hk⟩ := own_loop f g hf hg fr ot dn hfr hot a1 a2 c1 c2 X0 hx hZ hby e0 Ar1 z1 (fun n hn => by rw [H1 _ (by omega)]; exact congrArg some (A1 n hn)) Ar2 z2 (fun n hn => by rw [H2 _ (by omega)]; exact congrArg some (A2 n hn)) dn 0 FP.dconst0 .unset .unset (by omega) own_dconst0 (Or.inl ⟨rfl, rfl⟩)
  obtain ⟨fs, hr, hrun, hended, hW, hsame⟩ := X0.leave (v := some (.double u')) (fun h => by rw [Bd.returns] at h; cases h)
  refine ⟨_, _, pre0 _ ?_, hrun, hended, _, _, rfl, ?_, ⟨_, rfl⟩, hW, hsame.mono (by decide) (by decide)⟩
  · refine sg1 _ ?_
    refine hk _ ?_
    exact retD X0 hx Bd.returns (hb hby d4_46) hr
  · show Q4 Z a1 fr a2 ot dn f g k1 k2 us vs h0 n0 _ s₁.heap _
    rw [e0]; exact ⟨⟨u', rfl, hu'⟩, N0, rfl⟩
theorem pn_0 : plainName "com/example/cairnwise/cairnwise/model/PointsSquaredDistancePinLaw" = true := by first | (simp [plainName, overriddenIn]; done) | decide +kernel
theorem pd_0 : parseMethodDescriptor "([II[II)J" = some ⟨[(.array .int), .int, (.array .int), .int], some .long⟩ := by decide +kernel
set_option maxRecDepth 65536 in
set_option maxHeartbeats 40000000 in
theorem own_ref {p : Program} {l : Launch} {e : Env} {R : Room} {s : State} {m : MethodId} {args : Array Value} {below : List Frame} {meth : Method} {c : Code} {T0 : State} {locs : List Loc} {cells slots : Nat} {Z : State} {h0 : Heap} {a0 : Array Value} {n0 : Nat} (f g : Nat → Int32) (hf : ∀ n, own_B (f n)) (hg : ∀ n, own_B (g n)) (fr ot dn : Nat) (hdn : dn ≤ 3) (hfr : fr + dn ≤ 4) (hot : ot + dn ≤ 4) (i0 i1 i2 i3 : Int64) (i4 i5 : Int32) (s13 : Slot) (b14 b15 b16 b17 : Addr) (c1 c2 : Cell) (X0 : Stand p l e R s m args below meth c T0 locs cells slots) (hx : p.tables.exec = Jvm.exec) (hZ : Z.Warmed39 s.vm) (hw : ∀ d ∈ tables_1, d.before a0 Z = true) (hby : c.code = code) (hml : c.maxLocals = 22) (hown : s.vm.findClass "com/example/cairnwise/cairnwise/model/PointsSquaredDistancePinLaw" = some m.cls) (e0 : T0.heap = h0) (hR : R = room_1) (hc : cells + 0 ≤ R.cells) (hs : slots + 0 ≤ R.slots) (Z0 : n0 ≤ h0.size) (N0 : Fr n0 locs) (Ar1 : Arr Z h0 b14 c1 .int) (Z1 : c1.slots.size = 4) (H1 : ∀ n, n < dn → c1.slots[fr + n]? = some (.int (f n))) (Ar2 : Arr Z h0 b16 c2 .int) (Z2 : c2.slots.size = 4) (H2 : ∀ n, n < dn → c2.slots[ot + n]? = some (.int (g n))) :
    ∃ T' locs' rf, Stand p l e R s m args below meth c T' locs' cells slots ∧ T'.heap = h0 ∧ Fr n0 locs' ∧ rf.toInt = own_ssq f g dn ∧ ∀ t, Steps p.tables e below (T'.setTop (mkF m 286 #[.val (.long i0), .second, .val (.long i1), .second, .val (.long i2), .second, .val (.long i3), .second, .val (.int i4), .val (.int i5), .val (.int (Int32.ofNat dn)), .val (.int (Int32.ofNat fr)), .val (.int (Int32.ofNat ot)), s13, .val (.ref b14), .val (.ref b15), .val (.ref b16), .val (.ref b17), .val (.long rf), .second, .unset, .unset] [])) t → Steps p.tables e below (T0.setTop (mkF m 210 #[.val (.long i0), .second, .val (.long i1), .second, .val (.long i2), .second, .val (.long i3), .second, .val (.int i4), .val (.int i5), .val (.int (Int32.ofNat dn)), .val (.int (Int32.ofNat fr)), .val (.int (Int32.ofNat ot)), s13, .val (.ref b14), .val (.ref b15), .val (.ref b16), .val (.ref b17), .unset, .unset, .unset, .unset] [])) t := by
  subst hR
  have key : ∀ (k m : Nat), k ≤ 4 → m ≤ 2 → Int32.ofNat k + Int32.ofNat m = Int32.ofNat (k + m) := fun k m _ _ => add32n k m
  match dn, hdn, hfr, hot, H1, H2 with
  | 0, hdn, hfr, hot, H1, H2 =>
    have hin1 : ∀ k, k < 0 → ¬ ((Int32.ofNat fr + Int32.ofNat k) < 0 ∨ c1.slots.size ≤ (Int32.ofNat fr + Int32.ofNat k).toNatClampNeg) := fun k hk => by
      rw [add32n, n32 (by omega), Z1]
      rintro (q | q)
      · exact nlt32 (a := fr + k) (b := 0) (by omega) (by omega) q
      · omega
    have hin2 : ∀ k, k < 0 → ¬ ((Int32.ofNat ot + Int32.ofNat k) < 0 ∨ c2.slots.size ≤ (Int32.ofNat ot + Int32.ofNat k).toNatClampNeg) := fun k hk => by
      rw [add32n, n32 (by omega), Z2]
      rintro (q | q)
      · exact nlt32 (a := ot + k) (b := 0) (by omega) (by omega) q
      · omega
    have hat1 : ∀ k, k < 0 → c1.slots[(Int32.ofNat fr + Int32.ofNat k).toNatClampNeg]? = some (.int (f k)) := fun k hk => by rw [add32n, n32 (by omega)]; exact H1 k hk
    have hat2 : ∀ k, k < 0 → c2.slots[(Int32.ofNat ot + Int32.ofNat k).toNatClampNeg]? = some (.int (g k)) := fun k hk => by rw [add32n, n32 (by omega)]; exact H2 k hk
    have q1 : ¬ ((0 : Int32) < Int32.ofNat 0) := by decide
    have q2 : ¬ ((1 : Int32) < Int32.ofNat 0) := by decide
    have q3 : ¬ ((2 : Int32) < Int32.ofNat 0) := by decide
    have rsg1 : ∀ t, Steps p.tables e below (T0.setTop (mkF m 286 #[.val (.long i0), .second, .val (.long i1), .second, .val (.long i2), .second, .val (.long i3), .second, .val (.int i4), .val (.int i5), .val (.int (Int32.ofNat 0)), .val (.int (Int32.ofNat fr)), .val (.int (Int32.ofNat ot)), s13, .val (.ref b14), .val (.ref b15), .val (.ref b16), .val (.ref b17), .val (.long (0 : Int64)), .second, .unset, .unset] [])) t → Steps p.tables e below (T0.setTop (mkF m 210 #[.val (.long i0), .second, .val (.long i1), .second, .val (.long i2), .second, .val (.long i3), .second, .val (.int i4), .val (.int i5), .val (.int (Int32.ofNat 0)), .val (.int (Int32.ofNat fr)), .val (.int (Int32.ofNat ot)), s13, .val (.ref b14), .val (.ref b15), .val (.ref b16), .val (.ref b17), .unset, .unset, .unset, .unset] [])) t := by
      intro t kt
      refine XS.lconst X0.here hx rfl (hb hby at_210) ?_
      show Steps p.tables e below (T0.setTop (mkF m 211 #[.val (.long i0), .second, .val (.long i1), .second, .val (.long i2), .second, .val (.long i3), .second, .val (.int i4), .val (.int i5), .val (.int (Int32.ofNat 0)), .val (.int (Int32.ofNat fr)), .val (.int (Int32.ofNat ot)), s13, .val (.ref b14), .val (.ref b15), .val (.ref b16), .val (.ref b17), .unset, .unset, .unset, .unset] [(.long (0 : Int64))])) _
      refine XS.lstore X0.here hx rfl (hb hby at_211) rfl (l' := #[.val (.long i0), .second, .val (.long i1), .second, .val (.long i2), .second, .val (.long i3), .second, .val (.int i4), .val (.int i5), .val (.int (Int32.ofNat 0)), .val (.int (Int32.ofNat fr)), .val (.int (Int32.ofNat ot)), s13, .val (.ref b14), .val (.ref b15), .val (.ref b16), .val (.ref b17), .val (.long (0 : Int64)), .second, .unset, .unset]) rfl ?_
      show Steps p.tables e below (T0.setTop (mkF m 213 #[.val (.long i0), .second, .val (.long i1), .second, .val (.long i2), .second, .val (.long i3), .second, .val (.int i4), .val (.int i5), .val (.int (Int32.ofNat 0)), .val (.int (Int32.ofNat fr)), .val (.int (Int32.ofNat ot)), s13, .val (.ref b14), .val (.ref b15), .val (.ref b16), .val (.ref b17), .val (.long (0 : Int64)), .second, .unset, .unset] [])) _
      refine XS.iload X0.here hx rfl (hb hby at_213) rfl ?_
      show Steps p.tables e below (T0.setTop (mkF m 215 #[.val (.long i0), .second, .val (.long i1), .second, .val (.long i2), .second, .val (.long i3), .second, .val (.int i4), .val (.int i5), .val (.int (Int32.ofNat 0)), .val (.int (Int32.ofNat fr)), .val (.int (Int32.ofNat ot)), s13, .val (.ref b14), .val (.ref b15), .val (.ref b16), .val (.ref b17), .val (.long (0 : Int64)), .second, .unset, .unset] [(.int (Int32.ofNat 0))])) _
      refine XS.ifYes X0.here hx rfl (pc0 := 215) (pc' := 234) rfl (hb hby at_215) rfl ((if0 _ _).trans (flt (q1 : ¬ ((0 : Int32) < (Int32.ofNat 0)))).2.2.2) (by decide) (by decide) ?_
      show Steps p.tables e below (T0.setTop (mkF m 234 #[.val (.long i0), .second, .val (.long i1), .second, .val (.long i2), .second, .val (.long i3), .second, .val (.int i4), .val (.int i5), .val (.int (Int32.ofNat 0)), .val (.int (Int32.ofNat fr)), .val (.int (Int32.ofNat ot)), s13, .val (.ref b14), .val (.ref b15), .val (.ref b16), .val (.ref b17), .val (.long (0 : Int64)), .second, .unset, .unset] [])) _
      refine XS.iload X0.here hx rfl (hb hby at_234) rfl ?_
      show Steps p.tables e below (T0.setTop (mkF m 236 #[.val (.long i0), .second, .val (.long i1), .second, .val (.long i2), .second, .val (.long i3), .second, .val (.int i4), .val (.int i5), .val (.int (Int32.ofNat 0)), .val (.int (Int32.ofNat fr)), .val (.int (Int32.ofNat ot)), s13, .val (.ref b14), .val (.ref b15), .val (.ref b16), .val (.ref b17), .val (.long (0 : Int64)), .second, .unset, .unset] [(.int (Int32.ofNat 0))])) _
      refine XS.iconst X0.here hx rfl (hb hby at_236) ?_
      show Steps p.tables e below (T0.setTop (mkF m 237 #[.val (.long i0), .second, .val (.long i1), .second, .val (.long i2), .second, .val (.long i3), .second, .val (.int i4), .val (.int i5), .val (.int (Int32.ofNat 0)), .val (.int (Int32.ofNat fr)), .val (.int (Int32.ofNat ot)), s13, .val (.ref b14), .val (.ref b15), .val (.ref b16), .val (.ref b17), .val (.long (0 : Int64)), .second, .unset, .unset] [(.int (1 : Int32)), (.int (Int32.ofNat 0))])) _
      refine XS.icmpYes X0.here hx rfl (pc0 := 237) (pc' := 260) rfl (hb hby at_237) rfl (flt (q2 : ¬ ((1 : Int32) < (Int32.ofNat 0)))).2.2.2 (by decide) (by decide) ?_
      show Steps p.tables e below (T0.setTop (mkF m 260 #[.val (.long i0), .second, .val (.long i1), .second, .val (.long i2), .second, .val (.long i3), .second, .val (.int i4), .val (.int i5), .val (.int (Int32.ofNat 0)), .val (.int (Int32.ofNat fr)), .val (.int (Int32.ofNat ot)), s13, .val (.ref b14), .val (.ref b15), .val (.ref b16), .val (.ref b17), .val (.long (0 : Int64)), .second, .unset, .unset] [])) _
      refine XS.iload X0.here hx rfl (hb hby at_260) rfl ?_
      show Steps p.tables e below (T0.setTop (mkF m 262 #[.val (.long i0), .second, .val (.long i1), .second, .val (.long i2), .second, .val (.long i3), .second, .val (.int i4), .val (.int i5), .val (.int (Int32.ofNat 0)), .val (.int (Int32.ofNat fr)), .val (.int (Int32.ofNat ot)), s13, .val (.ref b14), .val (.ref b15), .val (.ref b16), .val (.ref b17), .val (.long (0 : Int64)), .second, .unset, .unset] [(.int (Int32.ofNat 0))])) _
      refine XS.iconst X0.here hx rfl (hb hby at_262) ?_
      show Steps p.tables e below (T0.setTop (mkF m 263 #[.val (.long i0), .second, .val (.long i1), .second, .val (.long i2), .second, .val (.long i3), .second, .val (.int i4), .val (.int i5), .val (.int (Int32.ofNat 0)), .val (.int (Int32.ofNat fr)), .val (.int (Int32.ofNat ot)), s13, .val (.ref b14), .val (.ref b15), .val (.ref b16), .val (.ref b17), .val (.long (0 : Int64)), .second, .unset, .unset] [(.int (2 : Int32)), (.int (Int32.ofNat 0))])) _
      refine XS.icmpYes X0.here hx rfl (pc0 := 263) (pc' := 286) rfl (hb hby at_263) rfl (flt (q3 : ¬ ((2 : Int32) < (Int32.ofNat 0)))).2.2.2 (by decide) (by decide) ?_
      exact kt
    refine ⟨T0, _, (0 : Int64), X0, e0, N0, by rfl, fun t kt => ?_⟩
    refine rsg1 _ ?_
    exact kt
  | 1, hdn, hfr, hot, H1, H2 =>
    have hin1 : ∀ k, k < 1 → ¬ ((Int32.ofNat fr + Int32.ofNat k) < 0 ∨ c1.slots.size ≤ (Int32.ofNat fr + Int32.ofNat k).toNatClampNeg) := fun k hk => by
      rw [add32n, n32 (by omega), Z1]
      rintro (q | q)
      · exact nlt32 (a := fr + k) (b := 0) (by omega) (by omega) q
      · omega
    have hin2 : ∀ k, k < 1 → ¬ ((Int32.ofNat ot + Int32.ofNat k) < 0 ∨ c2.slots.size ≤ (Int32.ofNat ot + Int32.ofNat k).toNatClampNeg) := fun k hk => by
      rw [add32n, n32 (by omega), Z2]
      rintro (q | q)
      · exact nlt32 (a := ot + k) (b := 0) (by omega) (by omega) q
      · omega
    have hat1 : ∀ k, k < 1 → c1.slots[(Int32.ofNat fr + Int32.ofNat k).toNatClampNeg]? = some (.int (f k)) := fun k hk => by rw [add32n, n32 (by omega)]; exact H1 k hk
    have hat2 : ∀ k, k < 1 → c2.slots[(Int32.ofNat ot + Int32.ofNat k).toNatClampNeg]? = some (.int (g k)) := fun k hk => by rw [add32n, n32 (by omega)]; exact H2 k hk
    have q1 : ((0 : Int32) < Int32.ofNat 1) := by decide
    have q2 : ¬ ((1 : Int32) < Int32.ofNat 1) := by decide
    have q3 : ¬ ((2 : Int32) < Int32.ofNat 1) := by decide
    have zz (k : Nat) : Int32.ofNat k + Int32.ofNat 0 = Int32.ofNat k := by rw [add32n]; rfl
    have hin10 := hin1 0 (by decide)
    have hin20 := hin2 0 (by decide)
    have hat10 := hat1 0 (by decide)
    have hat20 := hat2 0 (by decide)
    rw [zz] at hin10 hin20 hat10 hat20
    have rsg1 : ∀ t, Steps p.tables e below (T0.setTop (mkF m 228 #[.val (.long i0), .second, .val (.long i1), .second, .val (.long i2), .second, .val (.long i3), .second, .val (.int i4), .val (.int i5), .val (.int (Int32.ofNat 1)), .val (.int (Int32.ofNat fr)), .val (.int (Int32.ofNat ot)), s13, .val (.ref b14), .val (.ref b15), .val (.ref b16), .val (.ref b17), .val (.long (0 : Int64)), .second, .unset, .unset] [(.int (Int32.ofNat ot)), (.ref b16), (.int (Int32.ofNat fr)), (.ref b14), (.long (0 : Int64))])) t → Steps p.tables e below (T0.setTop (mkF m 210 #[.val (.long i0), .second, .val (.long i1), .second, .val (.long i2), .second, .val (.long i3), .second, .val (.int i4), .val (.int i5), .val (.int (Int32.ofNat 1)), .val (.int (Int32.ofNat fr)), .val (.int (Int32.ofNat ot)), s13, .val (.ref b14), .val (.ref b15), .val (.ref b16), .val (.ref b17), .unset, .unset, .unset, .unset] [])) t := by
      intro t kt
      refine XS.lconst X0.here hx rfl (hb hby at_210) ?_
      show Steps p.tables e below (T0.setTop (mkF m 211 #[.val (.long i0), .second, .val (.long i1), .second, .val (.long i2), .second, .val (.long i3), .second, .val (.int i4), .val (.int i5), .val (.int (Int32.ofNat 1)), .val (.int (Int32.ofNat fr)), .val (.int (Int32.ofNat ot)), s13, .val (.ref b14), .val (.ref b15), .val (.ref b16), .val (.ref b17), .unset, .unset, .unset, .unset] [(.long (0 : Int64))])) _
      refine XS.lstore X0.here hx rfl (hb hby at_211) rfl (l' := #[.val (.long i0), .second, .val (.long i1), .second, .val (.long i2), .second, .val (.long i3), .second, .val (.int i4), .val (.int i5), .val (.int (Int32.ofNat 1)), .val (.int (Int32.ofNat fr)), .val (.int (Int32.ofNat ot)), s13, .val (.ref b14), .val (.ref b15), .val (.ref b16), .val (.ref b17), .val (.long (0 : Int64)), .second, .unset, .unset]) rfl ?_
      show Steps p.tables e below (T0.setTop (mkF m 213 #[.val (.long i0), .second, .val (.long i1), .second, .val (.long i2), .second, .val (.long i3), .second, .val (.int i4), .val (.int i5), .val (.int (Int32.ofNat 1)), .val (.int (Int32.ofNat fr)), .val (.int (Int32.ofNat ot)), s13, .val (.ref b14), .val (.ref b15), .val (.ref b16), .val (.ref b17), .val (.long (0 : Int64)), .second, .unset, .unset] [])) _
      refine XS.iload X0.here hx rfl (hb hby at_213) rfl ?_
      show Steps p.tables e below (T0.setTop (mkF m 215 #[.val (.long i0), .second, .val (.long i1), .second, .val (.long i2), .second, .val (.long i3), .second, .val (.int i4), .val (.int i5), .val (.int (Int32.ofNat 1)), .val (.int (Int32.ofNat fr)), .val (.int (Int32.ofNat ot)), s13, .val (.ref b14), .val (.ref b15), .val (.ref b16), .val (.ref b17), .val (.long (0 : Int64)), .second, .unset, .unset] [(.int (Int32.ofNat 1))])) _
      refine XS.ifNo X0.here hx rfl (hb hby at_215) rfl ((if0 _ _).trans (tlt (q1 : (0 : Int32) < (Int32.ofNat 1))).2.2.2) ?_
      show Steps p.tables e below (T0.setTop (mkF m 218 #[.val (.long i0), .second, .val (.long i1), .second, .val (.long i2), .second, .val (.long i3), .second, .val (.int i4), .val (.int i5), .val (.int (Int32.ofNat 1)), .val (.int (Int32.ofNat fr)), .val (.int (Int32.ofNat ot)), s13, .val (.ref b14), .val (.ref b15), .val (.ref b16), .val (.ref b17), .val (.long (0 : Int64)), .second, .unset, .unset] [])) _
      refine XS.lload X0.here hx rfl (hb hby at_218) rfl ?_
      show Steps p.tables e below (T0.setTop (mkF m 220 #[.val (.long i0), .second, .val (.long i1), .second, .val (.long i2), .second, .val (.long i3), .second, .val (.int i4), .val (.int i5), .val (.int (Int32.ofNat 1)), .val (.int (Int32.ofNat fr)), .val (.int (Int32.ofNat ot)), s13, .val (.ref b14), .val (.ref b15), .val (.ref b16), .val (.ref b17), .val (.long (0 : Int64)), .second, .unset, .unset] [(.long (0 : Int64))])) _
      refine XS.aload X0.here hx rfl (hb hby at_220) rfl rfl ?_
      show Steps p.tables e below (T0.setTop (mkF m 222 #[.val (.long i0), .second, .val (.long i1), .second, .val (.long i2), .second, .val (.long i3), .second, .val (.int i4), .val (.int i5), .val (.int (Int32.ofNat 1)), .val (.int (Int32.ofNat fr)), .val (.int (Int32.ofNat ot)), s13, .val (.ref b14), .val (.ref b15), .val (.ref b16), .val (.ref b17), .val (.long (0 : Int64)), .second, .unset, .unset] [(.ref b14), (.long (0 : Int64))])) _
      refine XS.iload X0.here hx rfl (hb hby at_222) rfl ?_
      show Steps p.tables e below (T0.setTop (mkF m 224 #[.val (.long i0), .second, .val (.long i1), .second, .val (.long i2), .second, .val (.long i3), .second, .val (.int i4), .val (.int i5), .val (.int (Int32.ofNat 1)), .val (.int (Int32.ofNat fr)), .val (.int (Int32.ofNat ot)), s13, .val (.ref b14), .val (.ref b15), .val (.ref b16), .val (.ref b17), .val (.long (0 : Int64)), .second, .unset, .unset] [(.int (Int32.ofNat fr)), (.ref b14), (.long (0 : Int64))])) _
      refine XS.aload X0.here hx rfl (hb hby at_224) rfl rfl ?_
      show Steps p.tables e below (T0.setTop (mkF m 226 #[.val (.long i0), .second, .val (.long i1), .second, .val (.long i2), .second, .val (.long i3), .second, .val (.int i4), .val (.int i5), .val (.int (Int32.ofNat 1)), .val (.int (Int32.ofNat fr)), .val (.int (Int32.ofNat ot)), s13, .val (.ref b14), .val (.ref b15), .val (.ref b16), .val (.ref b17), .val (.long (0 : Int64)), .second, .unset, .unset] [(.ref b16), (.int (Int32.ofNat fr)), (.ref b14), (.long (0 : Int64))])) _
      refine XS.iload X0.here hx rfl (hb hby at_226) rfl ?_
      exact kt
    obtain ⟨_, _, ⟨Tr2, Lr2, kr2, nr2⟩, -, Xr2, ⟨Lcr2, hQr2, lr2, yr2, zr2⟩, str2⟩ := Jvm.LawKit.callS X0 hx (y := (⟨"com/example/cairnwise/cairnwise/model/PointsSquaredDistancePinLaw", "term", "([II[II)J"⟩ : MethodName)) hown (mvT hZ (hw _ (List.mem_of_getElem? (i := 10) rfl))) (mvT hZ (hw _ (List.mem_of_getElem? (i := 11) rfl))) (mvT hZ (hw _ (List.mem_of_getElem? (i := 4) rfl))) (mvT hZ (hw _ (List.mem_of_getElem? (i := 12) rfl))) (by decide) (backOf (W := 2) (rm3 l Z a0 hw [] b14 (Int32.ofNat fr) b16 (Int32.ofNat ot) (f 0) (g 0) c1 c2 h0 n0 Z0 Ar1 hin10 hat10 Ar2 hin20 hat20) hZ (hw _ (List.mem_of_getElem? (i := 12) rfl)) (hw _ (List.mem_of_getElem? (i := 4) rfl)) (by decide) (by decide)) (g := (mkF m 228 #[.val (.long i0), .second, .val (.long i1), .second, .val (.long i2), .second, .val (.long i3), .second, .val (.int i4), .val (.int i5), .val (.int (Int32.ofNat 1)), .val (.int (Int32.ofNat fr)), .val (.int (Int32.ofNat ot)), s13, .val (.ref b14), .val (.ref b15), .val (.ref b16), .val (.ref b17), .val (.long (0 : Int64)), .second, .unset, .unset] [(.int (Int32.ofNat ot)), (.ref b16), (.int (Int32.ofNat fr)), (.ref b14), (.long (0 : Int64))])) rfl (by rw [hml]; rfl) (argsL := [(.ref b14), (.int (Int32.ofNat fr)), (.ref b16), (.int (Int32.ofNat ot))]) (rest := [(.long (0 : Int64))]) (lenOf pd_0 rfl) rfl (by show 2 * 0 + _ ≤ _; exact Nat.le_of_eq rfl) (hb hby at_228) (fun _ _ => ⟨rfl, e0, hc, hs⟩)
    dsimp only [Pt.U, Pt.locs, Pt.cells, Pt.slots] at Xr2 lr2 yr2 zr2 str2 hQr2
    subst lr2 yr2 zr2
    obtain ⟨rfl, Nqr2, eqr2⟩ := hQr2
    have Nr2 := Fr.app N0 Nqr2
    have rsg3 : ∀ t, Steps p.tables e below (Tr2.setTop (mkF m 286 #[.val (.long i0), .second, .val (.long i1), .second, .val (.long i2), .second, .val (.long i3), .second, .val (.int i4), .val (.int i5), .val (.int (Int32.ofNat 1)), .val (.int (Int32.ofNat fr)), .val (.int (Int32.ofNat ot)), s13, .val (.ref b14), .val (.ref b15), .val (.ref b16), .val (.ref b17), .val (.long ((0 : Int64) + (own_term (f 0) (g 0)))), .second, .unset, .unset] [])) t → Steps p.tables e below (Tr2.setTop (mkF m 231 #[.val (.long i0), .second, .val (.long i1), .second, .val (.long i2), .second, .val (.long i3), .second, .val (.int i4), .val (.int i5), .val (.int (Int32.ofNat 1)), .val (.int (Int32.ofNat fr)), .val (.int (Int32.ofNat ot)), s13, .val (.ref b14), .val (.ref b15), .val (.ref b16), .val (.ref b17), .val (.long (0 : Int64)), .second, .unset, .unset] [(.long (own_term (f 0) (g 0))), (.long (0 : Int64))])) t := by
      intro t kt
      refine XS.ladd Xr2.here hx rfl (hb hby at_231) rfl ?_
      show Steps p.tables e below (Tr2.setTop (mkF m 232 #[.val (.long i0), .second, .val (.long i1), .second, .val (.long i2), .second, .val (.long i3), .second, .val (.int i4), .val (.int i5), .val (.int (Int32.ofNat 1)), .val (.int (Int32.ofNat fr)), .val (.int (Int32.ofNat ot)), s13, .val (.ref b14), .val (.ref b15), .val (.ref b16), .val (.ref b17), .val (.long (0 : Int64)), .second, .unset, .unset] [(.long ((0 : Int64) + (own_term (f 0) (g 0))))])) _
      refine XS.lstore Xr2.here hx rfl (hb hby at_232) rfl (l' := #[.val (.long i0), .second, .val (.long i1), .second, .val (.long i2), .second, .val (.long i3), .second, .val (.int i4), .val (.int i5), .val (.int (Int32.ofNat 1)), .val (.int (Int32.ofNat fr)), .val (.int (Int32.ofNat ot)), s13, .val (.ref b14), .val (.ref b15), .val (.ref b16), .val (.ref b17), .val (.long ((0 : Int64) + (own_term (f 0) (g 0)))), .second, .unset, .unset]) rfl ?_
      show Steps p.tables e below (Tr2.setTop (mkF m 234 #[.val (.long i0), .second, .val (.long i1), .second, .val (.long i2), .second, .val (.long i3), .second, .val (.int i4), .val (.int i5), .val (.int (Int32.ofNat 1)), .val (.int (Int32.ofNat fr)), .val (.int (Int32.ofNat ot)), s13, .val (.ref b14), .val (.ref b15), .val (.ref b16), .val (.ref b17), .val (.long ((0 : Int64) + (own_term (f 0) (g 0)))), .second, .unset, .unset] [])) _
      refine XS.iload Xr2.here hx rfl (hb hby at_234) rfl ?_
      show Steps p.tables e below (Tr2.setTop (mkF m 236 #[.val (.long i0), .second, .val (.long i1), .second, .val (.long i2), .second, .val (.long i3), .second, .val (.int i4), .val (.int i5), .val (.int (Int32.ofNat 1)), .val (.int (Int32.ofNat fr)), .val (.int (Int32.ofNat ot)), s13, .val (.ref b14), .val (.ref b15), .val (.ref b16), .val (.ref b17), .val (.long ((0 : Int64) + (own_term (f 0) (g 0)))), .second, .unset, .unset] [(.int (Int32.ofNat 1))])) _
      refine XS.iconst Xr2.here hx rfl (hb hby at_236) ?_
      show Steps p.tables e below (Tr2.setTop (mkF m 237 #[.val (.long i0), .second, .val (.long i1), .second, .val (.long i2), .second, .val (.long i3), .second, .val (.int i4), .val (.int i5), .val (.int (Int32.ofNat 1)), .val (.int (Int32.ofNat fr)), .val (.int (Int32.ofNat ot)), s13, .val (.ref b14), .val (.ref b15), .val (.ref b16), .val (.ref b17), .val (.long ((0 : Int64) + (own_term (f 0) (g 0)))), .second, .unset, .unset] [(.int (1 : Int32)), (.int (Int32.ofNat 1))])) _
      refine XS.icmpYes Xr2.here hx rfl (pc0 := 237) (pc' := 260) rfl (hb hby at_237) rfl (flt (q2 : ¬ ((1 : Int32) < (Int32.ofNat 1)))).2.2.2 (by decide) (by decide) ?_
      show Steps p.tables e below (Tr2.setTop (mkF m 260 #[.val (.long i0), .second, .val (.long i1), .second, .val (.long i2), .second, .val (.long i3), .second, .val (.int i4), .val (.int i5), .val (.int (Int32.ofNat 1)), .val (.int (Int32.ofNat fr)), .val (.int (Int32.ofNat ot)), s13, .val (.ref b14), .val (.ref b15), .val (.ref b16), .val (.ref b17), .val (.long ((0 : Int64) + (own_term (f 0) (g 0)))), .second, .unset, .unset] [])) _
      refine XS.iload Xr2.here hx rfl (hb hby at_260) rfl ?_
      show Steps p.tables e below (Tr2.setTop (mkF m 262 #[.val (.long i0), .second, .val (.long i1), .second, .val (.long i2), .second, .val (.long i3), .second, .val (.int i4), .val (.int i5), .val (.int (Int32.ofNat 1)), .val (.int (Int32.ofNat fr)), .val (.int (Int32.ofNat ot)), s13, .val (.ref b14), .val (.ref b15), .val (.ref b16), .val (.ref b17), .val (.long ((0 : Int64) + (own_term (f 0) (g 0)))), .second, .unset, .unset] [(.int (Int32.ofNat 1))])) _
      refine XS.iconst Xr2.here hx rfl (hb hby at_262) ?_
      show Steps p.tables e below (Tr2.setTop (mkF m 263 #[.val (.long i0), .second, .val (.long i1), .second, .val (.long i2), .second, .val (.long i3), .second, .val (.int i4), .val (.int i5), .val (.int (Int32.ofNat 1)), .val (.int (Int32.ofNat fr)), .val (.int (Int32.ofNat ot)), s13, .val (.ref b14), .val (.ref b15), .val (.ref b16), .val (.ref b17), .val (.long ((0 : Int64) + (own_term (f 0) (g 0)))), .second, .unset, .unset] [(.int (2 : Int32)), (.int (Int32.ofNat 1))])) _
      refine XS.icmpYes Xr2.here hx rfl (pc0 := 263) (pc' := 286) rfl (hb hby at_263) rfl (flt (q3 : ¬ ((2 : Int32) < (Int32.ofNat 1)))).2.2.2 (by decide) (by decide) ?_
      exact kt
    refine ⟨Tr2, _, ((0 : Int64) + (own_term (f 0) (g 0))), Xr2, eqr2, Nr2, ?_, fun t kt => ?_⟩
    · have t0 := own_term_v (hf 0) (hg 0)
      have t1 := own_term_v (hf 1) (hg 1)
      have t2 := own_term_v (hf 2) (hg 2)
      have b0 := own_ssq_b f g hf hg 1
      have b1 := own_ssq_b f g hf hg 2
      have b2 := own_ssq_b f g hf hg 3
      have g0 := own_sq_bound (z := (f 0).toInt - (g 0).toInt) (by have := hf 0; have := hg 0; unfold own_B at *; omega) (by have := hf 0; have := hg 0; unfold own_B at *; omega)
      have g1 := own_sq_bound (z := (f 1).toInt - (g 1).toInt) (by have := hf 1; have := hg 1; unfold own_B at *; omega) (by have := hf 1; have := hg 1; unfold own_B at *; omega)
      have g2 := own_sq_bound (z := (f 2).toInt - (g 2).toInt) (by have := hf 2; have := hg 2; unfold own_B at *; omega) (by have := hf 2; have := hg 2; unfold own_B at *; omega)
      have z0 : (0 : Int64).toInt = 0 := by decide
      simp only [own_ssq] at b0 b1 b2 ⊢
      have a0 := own_ladd (a := (0 : Int64)) (b := own_term (f 0) (g 0)) (by omega) (by omega) (by omega) (by omega)
      omega
    · show Steps p.tables e below (T0.setTop (mkF m 210 #[.val (.long i0), .second, .val (.long i1), .second, .val (.long i2), .second, .val (.long i3), .second, .val (.int i4), .val (.int i5), .val (.int (Int32.ofNat 1)), .val (.int (Int32.ofNat fr)), .val (.int (Int32.ofNat ot)), s13, .val (.ref b14), .val (.ref b15), .val (.ref b16), .val (.ref b17), .unset, .unset, .unset, .unset] [])) _
      refine rsg1 _ ?_
      refine str2 _ ?_
      refine rsg3 _ ?_
      exact kt
  | 2, hdn, hfr, hot, H1, H2 =>
    have hin1 : ∀ k, k < 2 → ¬ ((Int32.ofNat fr + Int32.ofNat k) < 0 ∨ c1.slots.size ≤ (Int32.ofNat fr + Int32.ofNat k).toNatClampNeg) := fun k hk => by
      rw [add32n, n32 (by omega), Z1]
      rintro (q | q)
      · exact nlt32 (a := fr + k) (b := 0) (by omega) (by omega) q
      · omega
    have hin2 : ∀ k, k < 2 → ¬ ((Int32.ofNat ot + Int32.ofNat k) < 0 ∨ c2.slots.size ≤ (Int32.ofNat ot + Int32.ofNat k).toNatClampNeg) := fun k hk => by
      rw [add32n, n32 (by omega), Z2]
      rintro (q | q)
      · exact nlt32 (a := ot + k) (b := 0) (by omega) (by omega) q
      · omega
    have hat1 : ∀ k, k < 2 → c1.slots[(Int32.ofNat fr + Int32.ofNat k).toNatClampNeg]? = some (.int (f k)) := fun k hk => by rw [add32n, n32 (by omega)]; exact H1 k hk
    have hat2 : ∀ k, k < 2 → c2.slots[(Int32.ofNat ot + Int32.ofNat k).toNatClampNeg]? = some (.int (g k)) := fun k hk => by rw [add32n, n32 (by omega)]; exact H2 k hk
    have q1 : ((0 : Int32) < Int32.ofNat 2) := by decide
    have q2 : ((1 : Int32) < Int32.ofNat 2) := by decide
    have q3 : ¬ ((2 : Int32) < Int32.ofNat 2) := by decide
    have zz (k : Nat) : Int32.ofNat k + Int32.ofNat 0 = Int32.ofNat k := by rw [add32n]; rfl
    have hin10 := hin1 0 (by decide)
    have hin20 := hin2 0 (by decide)
    have hat10 := hat1 0 (by decide)
    have hat20 := hat2 0 (by decide)
    rw [zz] at hin10 hin20 hat10 hat20
    have rsg1 : ∀ t, Steps p.tables e below (T0.setTop (mkF m 228 #[.val (.long i0), .second, .val (.long i1), .second, .val (.long i2), .second, .val (.long i3), .second, .val (.int i4), .val (.int i5), .val (.int (Int32.ofNat 2)), .val (.int (Int32.ofNat fr)), .val (.int (Int32.ofNat ot)), s13, .val (.ref b14), .val (.ref b15), .val (.ref b16), .val (.ref b17), .val (.long (0 : Int64)), .second, .unset, .unset] [(.int (Int32.ofNat ot)), (.ref b16), (.int (Int32.ofNat fr)), (.ref b14), (.long (0 : Int64))])) t → Steps p.tables e below (T0.setTop (mkF m 210 #[.val (.long i0), .second, .val (.long i1), .second, .val (.long i2), .second, .val (.long i3), .second, .val (.int i4), .val (.int i5), .val (.int (Int32.ofNat 2)), .val (.int (Int32.ofNat fr)), .val (.int (Int32.ofNat ot)), s13, .val (.ref b14), .val (.ref b15), .val (.ref b16), .val (.ref b17), .unset, .unset, .unset, .unset] [])) t := by
      intro t kt
      refine XS.lconst X0.here hx rfl (hb hby at_210) ?_
      show Steps p.tables e below (T0.setTop (mkF m 211 #[.val (.long i0), .second, .val (.long i1), .second, .val (.long i2), .second, .val (.long i3), .second, .val (.int i4), .val (.int i5), .val (.int (Int32.ofNat 2)), .val (.int (Int32.ofNat fr)), .val (.int (Int32.ofNat ot)), s13, .val (.ref b14), .val (.ref b15), .val (.ref b16), .val (.ref b17), .unset, .unset, .unset, .unset] [(.long (0 : Int64))])) _
      refine XS.lstore X0.here hx rfl (hb hby at_211) rfl (l' := #[.val (.long i0), .second, .val (.long i1), .second, .val (.long i2), .second, .val (.long i3), .second, .val (.int i4), .val (.int i5), .val (.int (Int32.ofNat 2)), .val (.int (Int32.ofNat fr)), .val (.int (Int32.ofNat ot)), s13, .val (.ref b14), .val (.ref b15), .val (.ref b16), .val (.ref b17), .val (.long (0 : Int64)), .second, .unset, .unset]) rfl ?_
      show Steps p.tables e below (T0.setTop (mkF m 213 #[.val (.long i0), .second, .val (.long i1), .second, .val (.long i2), .second, .val (.long i3), .second, .val (.int i4), .val (.int i5), .val (.int (Int32.ofNat 2)), .val (.int (Int32.ofNat fr)), .val (.int (Int32.ofNat ot)), s13, .val (.ref b14), .val (.ref b15), .val (.ref b16), .val (.ref b17), .val (.long (0 : Int64)), .second, .unset, .unset] [])) _
      refine XS.iload X0.here hx rfl (hb hby at_213) rfl ?_
      show Steps p.tables e below (T0.setTop (mkF m 215 #[.val (.long i0), .second, .val (.long i1), .second, .val (.long i2), .second, .val (.long i3), .second, .val (.int i4), .val (.int i5), .val (.int (Int32.ofNat 2)), .val (.int (Int32.ofNat fr)), .val (.int (Int32.ofNat ot)), s13, .val (.ref b14), .val (.ref b15), .val (.ref b16), .val (.ref b17), .val (.long (0 : Int64)), .second, .unset, .unset] [(.int (Int32.ofNat 2))])) _
      refine XS.ifNo X0.here hx rfl (hb hby at_215) rfl ((if0 _ _).trans (tlt (q1 : (0 : Int32) < (Int32.ofNat 2))).2.2.2) ?_
      show Steps p.tables e below (T0.setTop (mkF m 218 #[.val (.long i0), .second, .val (.long i1), .second, .val (.long i2), .second, .val (.long i3), .second, .val (.int i4), .val (.int i5), .val (.int (Int32.ofNat 2)), .val (.int (Int32.ofNat fr)), .val (.int (Int32.ofNat ot)), s13, .val (.ref b14), .val (.ref b15), .val (.ref b16), .val (.ref b17), .val (.long (0 : Int64)), .second, .unset, .unset] [])) _
      refine XS.lload X0.here hx rfl (hb hby at_218) rfl ?_
      show Steps p.tables e below (T0.setTop (mkF m 220 #[.val (.long i0), .second, .val (.long i1), .second, .val (.long i2), .second, .val (.long i3), .second, .val (.int i4), .val (.int i5), .val (.int (Int32.ofNat 2)), .val (.int (Int32.ofNat fr)), .val (.int (Int32.ofNat ot)), s13, .val (.ref b14), .val (.ref b15), .val (.ref b16), .val (.ref b17), .val (.long (0 : Int64)), .second, .unset, .unset] [(.long (0 : Int64))])) _
      refine XS.aload X0.here hx rfl (hb hby at_220) rfl rfl ?_
      show Steps p.tables e below (T0.setTop (mkF m 222 #[.val (.long i0), .second, .val (.long i1), .second, .val (.long i2), .second, .val (.long i3), .second, .val (.int i4), .val (.int i5), .val (.int (Int32.ofNat 2)), .val (.int (Int32.ofNat fr)), .val (.int (Int32.ofNat ot)), s13, .val (.ref b14), .val (.ref b15), .val (.ref b16), .val (.ref b17), .val (.long (0 : Int64)), .second, .unset, .unset] [(.ref b14), (.long (0 : Int64))])) _
      refine XS.iload X0.here hx rfl (hb hby at_222) rfl ?_
      show Steps p.tables e below (T0.setTop (mkF m 224 #[.val (.long i0), .second, .val (.long i1), .second, .val (.long i2), .second, .val (.long i3), .second, .val (.int i4), .val (.int i5), .val (.int (Int32.ofNat 2)), .val (.int (Int32.ofNat fr)), .val (.int (Int32.ofNat ot)), s13, .val (.ref b14), .val (.ref b15), .val (.ref b16), .val (.ref b17), .val (.long (0 : Int64)), .second, .unset, .unset] [(.int (Int32.ofNat fr)), (.ref b14), (.long (0 : Int64))])) _
      refine XS.aload X0.here hx rfl (hb hby at_224) rfl rfl ?_
      show Steps p.tables e below (T0.setTop (mkF m 226 #[.val (.long i0), .second, .val (.long i1), .second, .val (.long i2), .second, .val (.long i3), .second, .val (.int i4), .val (.int i5), .val (.int (Int32.ofNat 2)), .val (.int (Int32.ofNat fr)), .val (.int (Int32.ofNat ot)), s13, .val (.ref b14), .val (.ref b15), .val (.ref b16), .val (.ref b17), .val (.long (0 : Int64)), .second, .unset, .unset] [(.ref b16), (.int (Int32.ofNat fr)), (.ref b14), (.long (0 : Int64))])) _
      refine XS.iload X0.here hx rfl (hb hby at_226) rfl ?_
      exact kt
    obtain ⟨_, _, ⟨Tr2, Lr2, kr2, nr2⟩, -, Xr2, ⟨Lcr2, hQr2, lr2, yr2, zr2⟩, str2⟩ := Jvm.LawKit.callS X0 hx (y := (⟨"com/example/cairnwise/cairnwise/model/PointsSquaredDistancePinLaw", "term", "([II[II)J"⟩ : MethodName)) hown (mvT hZ (hw _ (List.mem_of_getElem? (i := 10) rfl))) (mvT hZ (hw _ (List.mem_of_getElem? (i := 11) rfl))) (mvT hZ (hw _ (List.mem_of_getElem? (i := 4) rfl))) (mvT hZ (hw _ (List.mem_of_getElem? (i := 12) rfl))) (by decide) (backOf (W := 2) (rm3 l Z a0 hw [] b14 (Int32.ofNat fr) b16 (Int32.ofNat ot) (f 0) (g 0) c1 c2 h0 n0 Z0 Ar1 hin10 hat10 Ar2 hin20 hat20) hZ (hw _ (List.mem_of_getElem? (i := 12) rfl)) (hw _ (List.mem_of_getElem? (i := 4) rfl)) (by decide) (by decide)) (g := (mkF m 228 #[.val (.long i0), .second, .val (.long i1), .second, .val (.long i2), .second, .val (.long i3), .second, .val (.int i4), .val (.int i5), .val (.int (Int32.ofNat 2)), .val (.int (Int32.ofNat fr)), .val (.int (Int32.ofNat ot)), s13, .val (.ref b14), .val (.ref b15), .val (.ref b16), .val (.ref b17), .val (.long (0 : Int64)), .second, .unset, .unset] [(.int (Int32.ofNat ot)), (.ref b16), (.int (Int32.ofNat fr)), (.ref b14), (.long (0 : Int64))])) rfl (by rw [hml]; rfl) (argsL := [(.ref b14), (.int (Int32.ofNat fr)), (.ref b16), (.int (Int32.ofNat ot))]) (rest := [(.long (0 : Int64))]) (lenOf pd_0 rfl) rfl (by show 2 * 0 + _ ≤ _; exact Nat.le_of_eq rfl) (hb hby at_228) (fun _ _ => ⟨rfl, e0, hc, hs⟩)
    dsimp only [Pt.U, Pt.locs, Pt.cells, Pt.slots] at Xr2 lr2 yr2 zr2 str2 hQr2
    subst lr2 yr2 zr2
    obtain ⟨rfl, Nqr2, eqr2⟩ := hQr2
    have Nr2 := Fr.app N0 Nqr2
    have rsg3 : ∀ t, Steps p.tables e below (Tr2.setTop (mkF m 254 #[.val (.long i0), .second, .val (.long i1), .second, .val (.long i2), .second, .val (.long i3), .second, .val (.int i4), .val (.int i5), .val (.int (Int32.ofNat 2)), .val (.int (Int32.ofNat fr)), .val (.int (Int32.ofNat ot)), s13, .val (.ref b14), .val (.ref b15), .val (.ref b16), .val (.ref b17), .val (.long ((0 : Int64) + (own_term (f 0) (g 0)))), .second, .unset, .unset] [(.int ((Int32.ofNat ot) + (1 : Int32))), (.ref b16), (.int ((Int32.ofNat fr) + (1 : Int32))), (.ref b14), (.long ((0 : Int64) + (own_term (f 0) (g 0))))])) t → Steps p.tables e below (Tr2.setTop (mkF m 231 #[.val (.long i0), .second, .val (.long i1), .second, .val (.long i2), .second, .val (.long i3), .second, .val (.int i4), .val (.int i5), .val (.int (Int32.ofNat 2)), .val (.int (Int32.ofNat fr)), .val (.int (Int32.ofNat ot)), s13, .val (.ref b14), .val (.ref b15), .val (.ref b16), .val (.ref b17), .val (.long (0 : Int64)), .second, .unset, .unset] [(.long (own_term (f 0) (g 0))), (.long (0 : Int64))])) t := by
      intro t kt
      refine XS.ladd Xr2.here hx rfl (hb hby at_231) rfl ?_
      show Steps p.tables e below (Tr2.setTop (mkF m 232 #[.val (.long i0), .second, .val (.long i1), .second, .val (.long i2), .second, .val (.long i3), .second, .val (.int i4), .val (.int i5), .val (.int (Int32.ofNat 2)), .val (.int (Int32.ofNat fr)), .val (.int (Int32.ofNat ot)), s13, .val (.ref b14), .val (.ref b15), .val (.ref b16), .val (.ref b17), .val (.long (0 : Int64)), .second, .unset, .unset] [(.long ((0 : Int64) + (own_term (f 0) (g 0))))])) _
      refine XS.lstore Xr2.here hx rfl (hb hby at_232) rfl (l' := #[.val (.long i0), .second, .val (.long i1), .second, .val (.long i2), .second, .val (.long i3), .second, .val (.int i4), .val (.int i5), .val (.int (Int32.ofNat 2)), .val (.int (Int32.ofNat fr)), .val (.int (Int32.ofNat ot)), s13, .val (.ref b14), .val (.ref b15), .val (.ref b16), .val (.ref b17), .val (.long ((0 : Int64) + (own_term (f 0) (g 0)))), .second, .unset, .unset]) rfl ?_
      show Steps p.tables e below (Tr2.setTop (mkF m 234 #[.val (.long i0), .second, .val (.long i1), .second, .val (.long i2), .second, .val (.long i3), .second, .val (.int i4), .val (.int i5), .val (.int (Int32.ofNat 2)), .val (.int (Int32.ofNat fr)), .val (.int (Int32.ofNat ot)), s13, .val (.ref b14), .val (.ref b15), .val (.ref b16), .val (.ref b17), .val (.long ((0 : Int64) + (own_term (f 0) (g 0)))), .second, .unset, .unset] [])) _
      refine XS.iload Xr2.here hx rfl (hb hby at_234) rfl ?_
      show Steps p.tables e below (Tr2.setTop (mkF m 236 #[.val (.long i0), .second, .val (.long i1), .second, .val (.long i2), .second, .val (.long i3), .second, .val (.int i4), .val (.int i5), .val (.int (Int32.ofNat 2)), .val (.int (Int32.ofNat fr)), .val (.int (Int32.ofNat ot)), s13, .val (.ref b14), .val (.ref b15), .val (.ref b16), .val (.ref b17), .val (.long ((0 : Int64) + (own_term (f 0) (g 0)))), .second, .unset, .unset] [(.int (Int32.ofNat 2))])) _
      refine XS.iconst Xr2.here hx rfl (hb hby at_236) ?_
      show Steps p.tables e below (Tr2.setTop (mkF m 237 #[.val (.long i0), .second, .val (.long i1), .second, .val (.long i2), .second, .val (.long i3), .second, .val (.int i4), .val (.int i5), .val (.int (Int32.ofNat 2)), .val (.int (Int32.ofNat fr)), .val (.int (Int32.ofNat ot)), s13, .val (.ref b14), .val (.ref b15), .val (.ref b16), .val (.ref b17), .val (.long ((0 : Int64) + (own_term (f 0) (g 0)))), .second, .unset, .unset] [(.int (1 : Int32)), (.int (Int32.ofNat 2))])) _
      refine XS.icmpNo Xr2.here hx rfl (hb hby at_237) rfl (tlt (q2 : (1 : Int32) < (Int32.ofNat 2))).2.2.2 ?_
      show Steps p.tables e below (Tr2.setTop (mkF m 240 #[.val (.long i0), .second, .val (.long i1), .second, .val (.long i2), .second, .val (.long i3), .second, .val (.int i4), .val (.int i5), .val (.int (Int32.ofNat 2)), .val (.int (Int32.ofNat fr)), .val (.int (Int32.ofNat ot)), s13, .val (.ref b14), .val (.ref b15), .val (.ref b16), .val (.ref b17), .val (.long ((0 : Int64) + (own_term (f 0) (g 0)))), .second, .unset, .unset] [])) _
      refine XS.lload Xr2.here hx rfl (hb hby at_240) rfl ?_
      show Steps p.tables e below (Tr2.setTop (mkF m 242 #[.val (.long i0), .second, .val (.long i1), .second, .val (.long i2), .second, .val (.long i3), .second, .val (.int i4), .val (.int i5), .val (.int (Int32.ofNat 2)), .val (.int (Int32.ofNat fr)), .val (.int (Int32.ofNat ot)), s13, .val (.ref b14), .val (.ref b15), .val (.ref b16), .val (.ref b17), .val (.long ((0 : Int64) + (own_term (f 0) (g 0)))), .second, .unset, .unset] [(.long ((0 : Int64) + (own_term (f 0) (g 0))))])) _
      refine XS.aload Xr2.here hx rfl (hb hby at_242) rfl rfl ?_
      show Steps p.tables e below (Tr2.setTop (mkF m 244 #[.val (.long i0), .second, .val (.long i1), .second, .val (.long i2), .second, .val (.long i3), .second, .val (.int i4), .val (.int i5), .val (.int (Int32.ofNat 2)), .val (.int (Int32.ofNat fr)), .val (.int (Int32.ofNat ot)), s13, .val (.ref b14), .val (.ref b15), .val (.ref b16), .val (.ref b17), .val (.long ((0 : Int64) + (own_term (f 0) (g 0)))), .second, .unset, .unset] [(.ref b14), (.long ((0 : Int64) + (own_term (f 0) (g 0))))])) _
      refine XS.iload Xr2.here hx rfl (hb hby at_244) rfl ?_
      show Steps p.tables e below (Tr2.setTop (mkF m 246 #[.val (.long i0), .second, .val (.long i1), .second, .val (.long i2), .second, .val (.long i3), .second, .val (.int i4), .val (.int i5), .val (.int (Int32.ofNat 2)), .val (.int (Int32.ofNat fr)), .val (.int (Int32.ofNat ot)), s13, .val (.ref b14), .val (.ref b15), .val (.ref b16), .val (.ref b17), .val (.long ((0 : Int64) + (own_term (f 0) (g 0)))), .second, .unset, .unset] [(.int (Int32.ofNat fr)), (.ref b14), (.long ((0 : Int64) + (own_term (f 0) (g 0))))])) _
      refine XS.iconst Xr2.here hx rfl (hb hby at_246) ?_
      show Steps p.tables e below (Tr2.setTop (mkF m 247 #[.val (.long i0), .second, .val (.long i1), .second, .val (.long i2), .second, .val (.long i3), .second, .val (.int i4), .val (.int i5), .val (.int (Int32.ofNat 2)), .val (.int (Int32.ofNat fr)), .val (.int (Int32.ofNat ot)), s13, .val (.ref b14), .val (.ref b15), .val (.ref b16), .val (.ref b17), .val (.long ((0 : Int64) + (own_term (f 0) (g 0)))), .second, .unset, .unset] [(.int (1 : Int32)), (.int (Int32.ofNat fr)), (.ref b14), (.long ((0 : Int64) + (own_term (f 0) (g 0))))])) _
      refine XS.iadd Xr2.here hx rfl (hb hby at_247) rfl ?_
      show Steps p.tables e below (Tr2.setTop (mkF m 248 #[.val (.long i0), .second, .val (.long i1), .second, .val (.long i2), .second, .val (.long i3), .second, .val (.int i4), .val (.int i5), .val (.int (Int32.ofNat 2)), .val (.int (Int32.ofNat fr)), .val (.int (Int32.ofNat ot)), s13, .val (.ref b14), .val (.ref b15), .val (.ref b16), .val (.ref b17), .val (.long ((0 : Int64) + (own_term (f 0) (g 0)))), .second, .unset, .unset] [(.int ((Int32.ofNat fr) + (1 : Int32))), (.ref b14), (.long ((0 : Int64) + (own_term (f 0) (g 0))))])) _
      refine XS.aload Xr2.here hx rfl (hb hby at_248) rfl rfl ?_
      show Steps p.tables e below (Tr2.setTop (mkF m 250 #[.val (.long i0), .second, .val (.long i1), .second, .val (.long i2), .second, .val (.long i3), .second, .val (.int i4), .val (.int i5), .val (.int (Int32.ofNat 2)), .val (.int (Int32.ofNat fr)), .val (.int (Int32.ofNat ot)), s13, .val (.ref b14), .val (.ref b15), .val (.ref b16), .val (.ref b17), .val (.long ((0 : Int64) + (own_term (f 0) (g 0)))), .second, .unset, .unset] [(.ref b16), (.int ((Int32.ofNat fr) + (1 : Int32))), (.ref b14), (.long ((0 : Int64) + (own_term (f 0) (g 0))))])) _
      refine XS.iload Xr2.here hx rfl (hb hby at_250) rfl ?_
      show Steps p.tables e below (Tr2.setTop (mkF m 252 #[.val (.long i0), .second, .val (.long i1), .second, .val (.long i2), .second, .val (.long i3), .second, .val (.int i4), .val (.int i5), .val (.int (Int32.ofNat 2)), .val (.int (Int32.ofNat fr)), .val (.int (Int32.ofNat ot)), s13, .val (.ref b14), .val (.ref b15), .val (.ref b16), .val (.ref b17), .val (.long ((0 : Int64) + (own_term (f 0) (g 0)))), .second, .unset, .unset] [(.int (Int32.ofNat ot)), (.ref b16), (.int ((Int32.ofNat fr) + (1 : Int32))), (.ref b14), (.long ((0 : Int64) + (own_term (f 0) (g 0))))])) _
      refine XS.iconst Xr2.here hx rfl (hb hby at_252) ?_
      show Steps p.tables e below (Tr2.setTop (mkF m 253 #[.val (.long i0), .second, .val (.long i1), .second, .val (.long i2), .second, .val (.long i3), .second, .val (.int i4), .val (.int i5), .val (.int (Int32.ofNat 2)), .val (.int (Int32.ofNat fr)), .val (.int (Int32.ofNat ot)), s13, .val (.ref b14), .val (.ref b15), .val (.ref b16), .val (.ref b17), .val (.long ((0 : Int64) + (own_term (f 0) (g 0)))), .second, .unset, .unset] [(.int (1 : Int32)), (.int (Int32.ofNat ot)), (.ref b16), (.int ((Int32.ofNat fr) + (1 : Int32))), (.ref b14), (.long ((0 : Int64) + (own_term (f 0) (g 0))))])) _
      refine XS.iadd Xr2.here hx rfl (hb hby at_253) rfl ?_
      exact kt
    obtain ⟨_, _, ⟨Tr4, Lr4, kr4, nr4⟩, -, Xr4, ⟨Lcr4, hQr4, lr4, yr4, zr4⟩, str4⟩ := Jvm.LawKit.callS Xr2 hx (y := (⟨"com/example/cairnwise/cairnwise/model/PointsSquaredDistancePinLaw", "term", "([II[II)J"⟩ : MethodName)) hown (mvT hZ (hw _ (List.mem_of_getElem? (i := 10) rfl))) (mvT hZ (hw _ (List.mem_of_getElem? (i := 11) rfl))) (mvT hZ (hw _ (List.mem_of_getElem? (i := 4) rfl))) (mvT hZ (hw _ (List.mem_of_getElem? (i := 12) rfl))) (by decide) (backOf (W := 2) (rm3 l Z a0 hw [] b14 ((Int32.ofNat fr) + (1 : Int32)) b16 ((Int32.ofNat ot) + (1 : Int32)) (f 1) (g 1) c1 c2 h0 n0 Z0 Ar1 (hin1 1 (by decide)) (hat1 1 (by decide)) Ar2 (hin2 1 (by decide)) (hat2 1 (by decide))) hZ (hw _ (List.mem_of_getElem? (i := 12) rfl)) (hw _ (List.mem_of_getElem? (i := 4) rfl)) (by decide) (by decide)) (g := (mkF m 254 #[.val (.long i0), .second, .val (.long i1), .second, .val (.long i2), .second, .val (.long i3), .second, .val (.int i4), .val (.int i5), .val (.int (Int32.ofNat 2)), .val (.int (Int32.ofNat fr)), .val (.int (Int32.ofNat ot)), s13, .val (.ref b14), .val (.ref b15), .val (.ref b16), .val (.ref b17), .val (.long ((0 : Int64) + (own_term (f 0) (g 0)))), .second, .unset, .unset] [(.int ((Int32.ofNat ot) + (1 : Int32))), (.ref b16), (.int ((Int32.ofNat fr) + (1 : Int32))), (.ref b14), (.long ((0 : Int64) + (own_term (f 0) (g 0))))])) rfl (by rw [hml]; rfl) (argsL := [(.ref b14), (.int ((Int32.ofNat fr) + (1 : Int32))), (.ref b16), (.int ((Int32.ofNat ot) + (1 : Int32)))]) (rest := [(.long ((0 : Int64) + (own_term (f 0) (g 0))))]) (lenOf pd_0 rfl) rfl (by show 2 * 0 + _ ≤ _; exact Nat.le_of_eq rfl) (hb hby at_254) (fun _ _ => ⟨rfl, eqr2, hc, hs⟩)
    dsimp only [Pt.U, Pt.locs, Pt.cells, Pt.slots] at Xr4 lr4 yr4 zr4 str4 hQr4
    subst lr4 yr4 zr4
    obtain ⟨rfl, Nqr4, eqr4⟩ := hQr4
    have Nr4 := Fr.app Nr2 Nqr4
    have rsg5 : ∀ t, Steps p.tables e below (Tr4.setTop (mkF m 286 #[.val (.long i0), .second, .val (.long i1), .second, .val (.long i2), .second, .val (.long i3), .second, .val (.int i4), .val (.int i5), .val (.int (Int32.ofNat 2)), .val (.int (Int32.ofNat fr)), .val (.int (Int32.ofNat ot)), s13, .val (.ref b14), .val (.ref b15), .val (.ref b16), .val (.ref b17), .val (.long (((0 : Int64) + (own_term (f 0) (g 0))) + (own_term (f 1) (g 1)))), .second, .unset, .unset] [])) t → Steps p.tables e below (Tr4.setTop (mkF m 257 #[.val (.long i0), .second, .val (.long i1), .second, .val (.long i2), .second, .val (.long i3), .second, .val (.int i4), .val (.int i5), .val (.int (Int32.ofNat 2)), .val (.int (Int32.ofNat fr)), .val (.int (Int32.ofNat ot)), s13, .val (.ref b14), .val (.ref b15), .val (.ref b16), .val (.ref b17), .val (.long ((0 : Int64) + (own_term (f 0) (g 0)))), .second, .unset, .unset] [(.long (own_term (f 1) (g 1))), (.long ((0 : Int64) + (own_term (f 0) (g 0))))])) t := by
      intro t kt
      refine XS.ladd Xr4.here hx rfl (hb hby at_257) rfl ?_
      show Steps p.tables e below (Tr4.setTop (mkF m 258 #[.val (.long i0), .second, .val (.long i1), .second, .val (.long i2), .second, .val (.long i3), .second, .val (.int i4), .val (.int i5), .val (.int (Int32.ofNat 2)), .val (.int (Int32.ofNat fr)), .val (.int (Int32.ofNat ot)), s13, .val (.ref b14), .val (.ref b15), .val (.ref b16), .val (.ref b17), .val (.long ((0 : Int64) + (own_term (f 0) (g 0)))), .second, .unset, .unset] [(.long (((0 : Int64) + (own_term (f 0) (g 0))) + (own_term (f 1) (g 1))))])) _
      refine XS.lstore Xr4.here hx rfl (hb hby at_258) rfl (l' := #[.val (.long i0), .second, .val (.long i1), .second, .val (.long i2), .second, .val (.long i3), .second, .val (.int i4), .val (.int i5), .val (.int (Int32.ofNat 2)), .val (.int (Int32.ofNat fr)), .val (.int (Int32.ofNat ot)), s13, .val (.ref b14), .val (.ref b15), .val (.ref b16), .val (.ref b17), .val (.long (((0 : Int64) + (own_term (f 0) (g 0))) + (own_term (f 1) (g 1)))), .second, .unset, .unset]) rfl ?_
      show Steps p.tables e below (Tr4.setTop (mkF m 260 #[.val (.long i0), .second, .val (.long i1), .second, .val (.long i2), .second, .val (.long i3), .second, .val (.int i4), .val (.int i5), .val (.int (Int32.ofNat 2)), .val (.int (Int32.ofNat fr)), .val (.int (Int32.ofNat ot)), s13, .val (.ref b14), .val (.ref b15), .val (.ref b16), .val (.ref b17), .val (.long (((0 : Int64) + (own_term (f 0) (g 0))) + (own_term (f 1) (g 1)))), .second, .unset, .unset] [])) _
      refine XS.iload Xr4.here hx rfl (hb hby at_260) rfl ?_
      show Steps p.tables e below (Tr4.setTop (mkF m 262 #[.val (.long i0), .second, .val (.long i1), .second, .val (.long i2), .second, .val (.long i3), .second, .val (.int i4), .val (.int i5), .val (.int (Int32.ofNat 2)), .val (.int (Int32.ofNat fr)), .val (.int (Int32.ofNat ot)), s13, .val (.ref b14), .val (.ref b15), .val (.ref b16), .val (.ref b17), .val (.long (((0 : Int64) + (own_term (f 0) (g 0))) + (own_term (f 1) (g 1)))), .second, .unset, .unset] [(.int (Int32.ofNat 2))])) _
      refine XS.iconst Xr4.here hx rfl (hb hby at_262) ?_
      show Steps p.tables e below (Tr4.setTop (mkF m 263 #[.val (.long i0), .second, .val (.long i1), .second, .val (.long i2), .second, .val (.long i3), .second, .val (.int i4), .val (.int i5), .val (.int (Int32.ofNat 2)), .val (.int (Int32.ofNat fr)), .val (.int (Int32.ofNat ot)), s13, .val (.ref b14), .val (.ref b15), .val (.ref b16), .val (.ref b17), .val (.long (((0 : Int64) + (own_term (f 0) (g 0))) + (own_term (f 1) (g 1)))), .second, .unset, .unset] [(.int (2 : Int32)), (.int (Int32.ofNat 2))])) _
      refine XS.icmpYes Xr4.here hx rfl (pc0 := 263) (pc' := 286) rfl (hb hby at_263) rfl (flt (q3 : ¬ ((2 : Int32) < (Int32.ofNat 2)))).2.2.2 (by decide) (by decide) ?_
      exact kt
    refine ⟨Tr4, _, (((0 : Int64) + (own_term (f 0) (g 0))) + (own_term (f 1) (g 1))), Xr4, eqr4, Nr4, ?_, fun t kt => ?_⟩
    · have t0 := own_term_v (hf 0) (hg 0)
      have t1 := own_term_v (hf 1) (hg 1)
      have t2 := own_term_v (hf 2) (hg 2)
      have b0 := own_ssq_b f g hf hg 1
      have b1 := own_ssq_b f g hf hg 2
      have b2 := own_ssq_b f g hf hg 3
      have g0 := own_sq_bound (z := (f 0).toInt - (g 0).toInt) (by have := hf 0; have := hg 0; unfold own_B at *; omega) (by have := hf 0; have := hg 0; unfold own_B at *; omega)
      have g1 := own_sq_bound (z := (f 1).toInt - (g 1).toInt) (by have := hf 1; have := hg 1; unfold own_B at *; omega) (by have := hf 1; have := hg 1; unfold own_B at *; omega)
      have g2 := own_sq_bound (z := (f 2).toInt - (g 2).toInt) (by have := hf 2; have := hg 2; unfold own_B at *; omega) (by have := hf 2; have := hg 2; unfold own_B at *; omega)
      have z0 : (0 : Int64).toInt = 0 := by decide
      simp only [own_ssq] at b0 b1 b2 ⊢
      have a0 := own_ladd (a := (0 : Int64)) (b := own_term (f 0) (g 0)) (by omega) (by omega) (by omega) (by omega)
      have a1 := own_ladd (a := ((0 : Int64) + own_term (f 0) (g 0))) (b := own_term (f 1) (g 1)) (by omega) (by omega) (by omega) (by omega)
      omega
    · show Steps p.tables e below (T0.setTop (mkF m 210 #[.val (.long i0), .second, .val (.long i1), .second, .val (.long i2), .second, .val (.long i3), .second, .val (.int i4), .val (.int i5), .val (.int (Int32.ofNat 2)), .val (.int (Int32.ofNat fr)), .val (.int (Int32.ofNat ot)), s13, .val (.ref b14), .val (.ref b15), .val (.ref b16), .val (.ref b17), .unset, .unset, .unset, .unset] [])) _
      refine rsg1 _ ?_
      refine str2 _ ?_
      refine rsg3 _ ?_
      refine str4 _ ?_
      refine rsg5 _ ?_
      exact kt
  | 3, hdn, hfr, hot, H1, H2 =>
    have hin1 : ∀ k, k < 3 → ¬ ((Int32.ofNat fr + Int32.ofNat k) < 0 ∨ c1.slots.size ≤ (Int32.ofNat fr + Int32.ofNat k).toNatClampNeg) := fun k hk => by
      rw [add32n, n32 (by omega), Z1]
      rintro (q | q)
      · exact nlt32 (a := fr + k) (b := 0) (by omega) (by omega) q
      · omega
    have hin2 : ∀ k, k < 3 → ¬ ((Int32.ofNat ot + Int32.ofNat k) < 0 ∨ c2.slots.size ≤ (Int32.ofNat ot + Int32.ofNat k).toNatClampNeg) := fun k hk => by
      rw [add32n, n32 (by omega), Z2]
      rintro (q | q)
      · exact nlt32 (a := ot + k) (b := 0) (by omega) (by omega) q
      · omega
    have hat1 : ∀ k, k < 3 → c1.slots[(Int32.ofNat fr + Int32.ofNat k).toNatClampNeg]? = some (.int (f k)) := fun k hk => by rw [add32n, n32 (by omega)]; exact H1 k hk
    have hat2 : ∀ k, k < 3 → c2.slots[(Int32.ofNat ot + Int32.ofNat k).toNatClampNeg]? = some (.int (g k)) := fun k hk => by rw [add32n, n32 (by omega)]; exact H2 k hk
    have q1 : ((0 : Int32) < Int32.ofNat 3) := by decide
    have q2 : ((1 : Int32) < Int32.ofNat 3) := by decide
    have q3 : ((2 : Int32) < Int32.ofNat 3) := by decide
    have zz (k : Nat) : Int32.ofNat k + Int32.ofNat 0 = Int32.ofNat k := by rw [add32n]; rfl
    have hin10 := hin1 0 (by decide)
    have hin20 := hin2 0 (by decide)
    have hat10 := hat1 0 (by decide)
    have hat20 := hat2 0 (by decide)
    rw [zz] at hin10 hin20 hat10 hat20
    have rsg1 : ∀ t, Steps p.tables e below (T0.setTop (mkF m 228 #[.val (.long i0), .second, .val (.long i1), .second, .val (.long i2), .second, .val (.long i3), .second, .val (.int i4), .val (.int i5), .val (.int (Int32.ofNat 3)), .val (.int (Int32.ofNat fr)), .val (.int (Int32.ofNat ot)), s13, .val (.ref b14), .val (.ref b15), .val (.ref b16), .val (.ref b17), .val (.long (0 : Int64)), .second, .unset, .unset] [(.int (Int32.ofNat ot)), (.ref b16), (.int (Int32.ofNat fr)), (.ref b14), (.long (0 : Int64))])) t → Steps p.tables e below (T0.setTop (mkF m 210 #[.val (.long i0), .second, .val (.long i1), .second, .val (.long i2), .second, .val (.long i3), .second, .val (.int i4), .val (.int i5), .val (.int (Int32.ofNat 3)), .val (.int (Int32.ofNat fr)), .val (.int (Int32.ofNat ot)), s13, .val (.ref b14), .val (.ref b15), .val (.ref b16), .val (.ref b17), .unset, .unset, .unset, .unset] [])) t := by
      intro t kt
      refine XS.lconst X0.here hx rfl (hb hby at_210) ?_
      show Steps p.tables e below (T0.setTop (mkF m 211 #[.val (.long i0), .second, .val (.long i1), .second, .val (.long i2), .second, .val (.long i3), .second, .val (.int i4), .val (.int i5), .val (.int (Int32.ofNat 3)), .val (.int (Int32.ofNat fr)), .val (.int (Int32.ofNat ot)), s13, .val (.ref b14), .val (.ref b15), .val (.ref b16), .val (.ref b17), .unset, .unset, .unset, .unset] [(.long (0 : Int64))])) _
      refine XS.lstore X0.here hx rfl (hb hby at_211) rfl (l' := #[.val (.long i0), .second, .val (.long i1), .second, .val (.long i2), .second, .val (.long i3), .second, .val (.int i4), .val (.int i5), .val (.int (Int32.ofNat 3)), .val (.int (Int32.ofNat fr)), .val (.int (Int32.ofNat ot)), s13, .val (.ref b14), .val (.ref b15), .val (.ref b16), .val (.ref b17), .val (.long (0 : Int64)), .second, .unset, .unset]) rfl ?_
      show Steps p.tables e below (T0.setTop (mkF m 213 #[.val (.long i0), .second, .val (.long i1), .second, .val (.long i2), .second, .val (.long i3), .second, .val (.int i4), .val (.int i5), .val (.int (Int32.ofNat 3)), .val (.int (Int32.ofNat fr)), .val (.int (Int32.ofNat ot)), s13, .val (.ref b14), .val (.ref b15), .val (.ref b16), .val (.ref b17), .val (.long (0 : Int64)), .second, .unset, .unset] [])) _
      refine XS.iload X0.here hx rfl (hb hby at_213) rfl ?_
      show Steps p.tables e below (T0.setTop (mkF m 215 #[.val (.long i0), .second, .val (.long i1), .second, .val (.long i2), .second, .val (.long i3), .second, .val (.int i4), .val (.int i5), .val (.int (Int32.ofNat 3)), .val (.int (Int32.ofNat fr)), .val (.int (Int32.ofNat ot)), s13, .val (.ref b14), .val (.ref b15), .val (.ref b16), .val (.ref b17), .val (.long (0 : Int64)), .second, .unset, .unset] [(.int (Int32.ofNat 3))])) _
      refine XS.ifNo X0.here hx rfl (hb hby at_215) rfl ((if0 _ _).trans (tlt (q1 : (0 : Int32) < (Int32.ofNat 3))).2.2.2) ?_
      show Steps p.tables e below (T0.setTop (mkF m 218 #[.val (.long i0), .second, .val (.long i1), .second, .val (.long i2), .second, .val (.long i3), .second, .val (.int i4), .val (.int i5), .val (.int (Int32.ofNat 3)), .val (.int (Int32.ofNat fr)), .val (.int (Int32.ofNat ot)), s13, .val (.ref b14), .val (.ref b15), .val (.ref b16), .val (.ref b17), .val (.long (0 : Int64)), .second, .unset, .unset] [])) _
      refine XS.lload X0.here hx rfl (hb hby at_218) rfl ?_
      show Steps p.tables e below (T0.setTop (mkF m 220 #[.val (.long i0), .second, .val (.long i1), .second, .val (.long i2), .second, .val (.long i3), .second, .val (.int i4), .val (.int i5), .val (.int (Int32.ofNat 3)), .val (.int (Int32.ofNat fr)), .val (.int (Int32.ofNat ot)), s13, .val (.ref b14), .val (.ref b15), .val (.ref b16), .val (.ref b17), .val (.long (0 : Int64)), .second, .unset, .unset] [(.long (0 : Int64))])) _
      refine XS.aload X0.here hx rfl (hb hby at_220) rfl rfl ?_
      show Steps p.tables e below (T0.setTop (mkF m 222 #[.val (.long i0), .second, .val (.long i1), .second, .val (.long i2), .second, .val (.long i3), .second, .val (.int i4), .val (.int i5), .val (.int (Int32.ofNat 3)), .val (.int (Int32.ofNat fr)), .val (.int (Int32.ofNat ot)), s13, .val (.ref b14), .val (.ref b15), .val (.ref b16), .val (.ref b17), .val (.long (0 : Int64)), .second, .unset, .unset] [(.ref b14), (.long (0 : Int64))])) _
      refine XS.iload X0.here hx rfl (hb hby at_222) rfl ?_
      show Steps p.tables e below (T0.setTop (mkF m 224 #[.val (.long i0), .second, .val (.long i1), .second, .val (.long i2), .second, .val (.long i3), .second, .val (.int i4), .val (.int i5), .val (.int (Int32.ofNat 3)), .val (.int (Int32.ofNat fr)), .val (.int (Int32.ofNat ot)), s13, .val (.ref b14), .val (.ref b15), .val (.ref b16), .val (.ref b17), .val (.long (0 : Int64)), .second, .unset, .unset] [(.int (Int32.ofNat fr)), (.ref b14), (.long (0 : Int64))])) _
      refine XS.aload X0.here hx rfl (hb hby at_224) rfl rfl ?_
      show Steps p.tables e below (T0.setTop (mkF m 226 #[.val (.long i0), .second, .val (.long i1), .second, .val (.long i2), .second, .val (.long i3), .second, .val (.int i4), .val (.int i5), .val (.int (Int32.ofNat 3)), .val (.int (Int32.ofNat fr)), .val (.int (Int32.ofNat ot)), s13, .val (.ref b14), .val (.ref b15), .val (.ref b16), .val (.ref b17), .val (.long (0 : Int64)), .second, .unset, .unset] [(.ref b16), (.int (Int32.ofNat fr)), (.ref b14), (.long (0 : Int64))])) _
      refine XS.iload X0.here hx rfl (hb hby at_226) rfl ?_
      exact kt
    obtain ⟨_, _, ⟨Tr2, Lr2, kr2, nr2⟩, -, Xr2, ⟨Lcr2, hQr2, lr2, yr2, zr2⟩, str2⟩ := Jvm.LawKit.callS X0 hx (y := (⟨"com/example/cairnwise/cairnwise/model/PointsSquaredDistancePinLaw", "term", "([II[II)J"⟩ : MethodName)) hown (mvT hZ (hw _ (List.mem_of_getElem? (i := 10) rfl))) (mvT hZ (hw _ (List.mem_of_getElem? (i := 11) rfl))) (mvT hZ (hw _ (List.mem_of_getElem? (i := 4) rfl))) (mvT hZ (hw _ (List.mem_of_getElem? (i := 12) rfl))) (by decide) (backOf (W := 2) (rm3 l Z a0 hw [] b14 (Int32.ofNat fr) b16 (Int32.ofNat ot) (f 0) (g 0) c1 c2 h0 n0 Z0 Ar1 hin10 hat10 Ar2 hin20 hat20) hZ (hw _ (List.mem_of_getElem? (i := 12) rfl)) (hw _ (List.mem_of_getElem? (i := 4) rfl)) (by decide) (by decide)) (g := (mkF m 228 #[.val (.long i0), .second, .val (.long i1), .second, .val (.long i2), .second, .val (.long i3), .second, .val (.int i4), .val (.int i5), .val (.int (Int32.ofNat 3)), .val (.int (Int32.ofNat fr)), .val (.int (Int32.ofNat ot)), s13, .val (.ref b14), .val (.ref b15), .val (.ref b16), .val (.ref b17), .val (.long (0 : Int64)), .second, .unset, .unset] [(.int (Int32.ofNat ot)), (.ref b16), (.int (Int32.ofNat fr)), (.ref b14), (.long (0 : Int64))])) rfl (by rw [hml]; rfl) (argsL := [(.ref b14), (.int (Int32.ofNat fr)), (.ref b16), (.int (Int32.ofNat ot))]) (rest := [(.long (0 : Int64))]) (lenOf pd_0 rfl) rfl (by show 2 * 0 + _ ≤ _; exact Nat.le_of_eq rfl) (hb hby at_228) (fun _ _ => ⟨rfl, e0, hc, hs⟩)
    dsimp only [Pt.U, Pt.locs, Pt.cells, Pt.slots] at Xr2 lr2 yr2 zr2 str2 hQr2
    subst lr2 yr2 zr2
    obtain ⟨rfl, Nqr2, eqr2⟩ := hQr2
    have Nr2 := Fr.app N0 Nqr2
    have rsg3 : ∀ t, Steps p.tables e below (Tr2.setTop (mkF m 254 #[.val (.long i0), .second, .val (.long i1), .second, .val (.long i2), .second, .val (.long i3), .second, .val (.int i4), .val (.int i5), .val (.int (Int32.ofNat 3)), .val (.int (Int32.ofNat fr)), .val (.int (Int32.ofNat ot)), s13, .val (.ref b14), .val (.ref b15), .val (.ref b16), .val (.ref b17), .val (.long ((0 : Int64) + (own_term (f 0) (g 0)))), .second, .unset, .unset] [(.int ((Int32.ofNat ot) + (1 : Int32))), (.ref b16), (.int ((Int32.ofNat fr) + (1 : Int32))), (.ref b14), (.long ((0 : Int64) + (own_term (f 0) (g 0))))])) t → Steps p.tables e below (Tr2.setTop (mkF m 231 #[.val (.long i0), .second, .val (.long i1), .second, .val (.long i2), .second, .val (.long i3), .second, .val (.int i4), .val (.int i5), .val (.int (Int32.ofNat 3)), .val (.int (Int32.ofNat fr)), .val (.int (Int32.ofNat ot)), s13, .val (.ref b14), .val (.ref b15), .val (.ref b16), .val (.ref b17), .val (.long (0 : Int64)), .second, .unset, .unset] [(.long (own_term (f 0) (g 0))), (.long (0 : Int64))])) t := by
      intro t kt
      refine XS.ladd Xr2.here hx rfl (hb hby at_231) rfl ?_
      show Steps p.tables e below (Tr2.setTop (mkF m 232 #[.val (.long i0), .second, .val (.long i1), .second, .val (.long i2), .second, .val (.long i3), .second, .val (.int i4), .val (.int i5), .val (.int (Int32.ofNat 3)), .val (.int (Int32.ofNat fr)), .val (.int (Int32.ofNat ot)), s13, .val (.ref b14), .val (.ref b15), .val (.ref b16), .val (.ref b17), .val (.long (0 : Int64)), .second, .unset, .unset] [(.long ((0 : Int64) + (own_term (f 0) (g 0))))])) _
      refine XS.lstore Xr2.here hx rfl (hb hby at_232) rfl (l' := #[.val (.long i0), .second, .val (.long i1), .second, .val (.long i2), .second, .val (.long i3), .second, .val (.int i4), .val (.int i5), .val (.int (Int32.ofNat 3)), .val (.int (Int32.ofNat fr)), .val (.int (Int32.ofNat ot)), s13, .val (.ref b14), .val (.ref b15), .val (.ref b16), .val (.ref b17), .val (.long ((0 : Int64) + (own_term (f 0) (g 0)))), .second, .unset, .unset]) rfl ?_
      show Steps p.tables e below (Tr2.setTop (mkF m 234 #[.val (.long i0), .second, .val (.long i1), .second, .val (.long i2), .second, .val (.long i3), .second, .val (.int i4), .val (.int i5), .val (.int (Int32.ofNat 3)), .val (.int (Int32.ofNat fr)), .val (.int (Int32.ofNat ot)), s13, .val (.ref b14), .val (.ref b15), .val (.ref b16), .val (.ref b17), .val (.long ((0 : Int64) + (own_term (f 0) (g 0)))), .second, .unset, .unset] [])) _
      refine XS.iload Xr2.here hx rfl (hb hby at_234) rfl ?_
      show Steps p.tables e below (Tr2.setTop (mkF m 236 #[.val (.long i0), .second, .val (.long i1), .second, .val (.long i2), .second, .val (.long i3), .second, .val (.int i4), .val (.int i5), .val (.int (Int32.ofNat 3)), .val (.int (Int32.ofNat fr)), .val (.int (Int32.ofNat ot)), s13, .val (.ref b14), .val (.ref b15), .val (.ref b16), .val (.ref b17), .val (.long ((0 : Int64) + (own_term (f 0) (g 0)))), .second, .unset, .unset] [(.int (Int32.ofNat 3))])) _
      refine XS.iconst Xr2.here hx rfl (hb hby at_236) ?_
      show Steps p.tables e below (Tr2.setTop (mkF m 237 #[.val (.long i0), .second, .val (.long i1), .second, .val (.long i2), .second, .val (.long i3), .second, .val (.int i4), .val (.int i5), .val (.int (Int32.ofNat 3)), .val (.int (Int32.ofNat fr)), .val (.int (Int32.ofNat ot)), s13, .val (.ref b14), .val (.ref b15), .val (.ref b16), .val (.ref b17), .val (.long ((0 : Int64) + (own_term (f 0) (g 0)))), .second, .unset, .unset] [(.int (1 : Int32)), (.int (Int32.ofNat 3))])) _
      refine XS.icmpNo Xr2.here hx rfl (hb hby at_237) rfl (tlt (q2 : (1 : Int32) < (Int32.ofNat 3))).2.2.2 ?_
      show Steps p.tables e below (Tr2.setTop (mkF m 240 #[.val (.long i0), .second, .val (.long i1), .second, .val (.long i2), .second, .val (.long i3), .second, .val (.int i4), .val (.int i5), .val (.int (Int32.ofNat 3)), .val (.int (Int32.ofNat fr)), .val (.int (Int32.ofNat ot)), s13, .val (.ref b14), .val (.ref b15), .val (.ref b16), .val (.ref b17), .val (.long ((0 : Int64) + (own_term (f 0) (g 0)))), .second, .unset, .unset] [])) _
      refine XS.lload Xr2.here hx rfl (hb hby at_240) rfl ?_
      show Steps p.tables e below (Tr2.setTop (mkF m 242 #[.val (.long i0), .second, .val (.long i1), .second, .val (.long i2), .second, .val (.long i3), .second, .val (.int i4), .val (.int i5), .val (.int (Int32.ofNat 3)), .val (.int (Int32.ofNat fr)), .val (.int (Int32.ofNat ot)), s13, .val (.ref b14), .val (.ref b15), .val (.ref b16), .val (.ref b17), .val (.long ((0 : Int64) + (own_term (f 0) (g 0)))), .second, .unset, .unset] [(.long ((0 : Int64) + (own_term (f 0) (g 0))))])) _
      refine XS.aload Xr2.here hx rfl (hb hby at_242) rfl rfl ?_
      show Steps p.tables e below (Tr2.setTop (mkF m 244 #[.val (.long i0), .second, .val (.long i1), .second, .val (.long i2), .second, .val (.long i3), .second, .val (.int i4), .val (.int i5), .val (.int (Int32.ofNat 3)), .val (.int (Int32.ofNat fr)), .val (.int (Int32.ofNat ot)), s13, .val (.ref b14), .val (.ref b15), .val (.ref b16), .val (.ref b17), .val (.long ((0 : Int64) + (own_term (f 0) (g 0)))), .second, .unset, .unset] [(.ref b14), (.long ((0 : Int64) + (own_term (f 0) (g 0))))])) _
      refine XS.iload Xr2.here hx rfl (hb hby at_244) rfl ?_
      show Steps p.tables e below (Tr2.setTop (mkF m 246 #[.val (.long i0), .second, .val (.long i1), .second, .val (.long i2), .second, .val (.long i3), .second, .val (.int i4), .val (.int i5), .val (.int (Int32.ofNat 3)), .val (.int (Int32.ofNat fr)), .val (.int (Int32.ofNat ot)), s13, .val (.ref b14), .val (.ref b15), .val (.ref b16), .val (.ref b17), .val (.long ((0 : Int64) + (own_term (f 0) (g 0)))), .second, .unset, .unset] [(.int (Int32.ofNat fr)), (.ref b14), (.long ((0 : Int64) + (own_term (f 0) (g 0))))])) _
      refine XS.iconst Xr2.here hx rfl (hb hby at_246) ?_
      show Steps p.tables e below (Tr2.setTop (mkF m 247 #[.val (.long i0), .second, .val (.long i1), .second, .val (.long i2), .second, .val (.long i3), .second, .val (.int i4), .val (.int i5), .val (.int (Int32.ofNat 3)), .val (.int (Int32.ofNat fr)), .val (.int (Int32.ofNat ot)), s13, .val (.ref b14), .val (.ref b15), .val (.ref b16), .val (.ref b17), .val (.long ((0 : Int64) + (own_term (f 0) (g 0)))), .second, .unset, .unset] [(.int (1 : Int32)), (.int (Int32.ofNat fr)), (.ref b14), (.long ((0 : Int64) + (own_term (f 0) (g 0))))])) _
      refine XS.iadd Xr2.here hx rfl (hb hby at_247) rfl ?_
      show Steps p.tables e below (Tr2.setTop (mkF m 248 #[.val (.long i0), .second, .val (.long i1), .second, .val (.long i2), .second, .val (.long i3), .second, .val (.int i4), .val (.int i5), .val (.int (Int32.ofNat 3)), .val (.int (Int32.ofNat fr)), .val (.int (Int32.ofNat ot)), s13, .val (.ref b14), .val (.ref b15), .val (.ref b16), .val (.ref b17), .val (.long ((0 : Int64) + (own_term (f 0) (g 0)))), .second, .unset, .unset] [(.int ((Int32.ofNat fr) + (1 : Int32))), (.ref b14), (.long ((0 : Int64) + (own_term (f 0) (g 0))))])) _
      refine XS.aload Xr2.here hx rfl (hb hby at_248) rfl rfl ?_
      show Steps p.tables e below (Tr2.setTop (mkF m 250 #[.val (.long i0), .second, .val (.long i1), .second, .val (.long i2), .second, .val (.long i3), .second, .val (.int i4), .val (.int i5), .val (.int (Int32.ofNat 3)), .val (.int (Int32.ofNat fr)), .val (.int (Int32.ofNat ot)), s13, .val (.ref b14), .val (.ref b15), .val (.ref b16), .val (.ref b17), .val (.long ((0 : Int64) + (own_term (f 0) (g 0)))), .second, .unset, .unset] [(.ref b16), (.int ((Int32.ofNat fr) + (1 : Int32))), (.ref b14), (.long ((0 : Int64) + (own_term (f 0) (g 0))))])) _
      refine XS.iload Xr2.here hx rfl (hb hby at_250) rfl ?_
      show Steps p.tables e below (Tr2.setTop (mkF m 252 #[.val (.long i0), .second, .val (.long i1), .second, .val (.long i2), .second, .val (.long i3), .second, .val (.int i4), .val (.int i5), .val (.int (Int32.ofNat 3)), .val (.int (Int32.ofNat fr)), .val (.int (Int32.ofNat ot)), s13, .val (.ref b14), .val (.ref b15), .val (.ref b16), .val (.ref b17), .val (.long ((0 : Int64) + (own_term (f 0) (g 0)))), .second, .unset, .unset] [(.int (Int32.ofNat ot)), (.ref b16), (.int ((Int32.ofNat fr) + (1 : Int32))), (.ref b14), (.long ((0 : Int64) + (own_term (f 0) (g 0))))])) _
      refine XS.iconst Xr2.here hx rfl (hb hby at_252) ?_
      show Steps p.tables e below (Tr2.setTop (mkF m 253 #[.val (.long i0), .second, .val (.long i1), .second, .val (.long i2), .second, .val (.long i3), .second, .val (.int i4), .val (.int i5), .val (.int (Int32.ofNat 3)), .val (.int (Int32.ofNat fr)), .val (.int (Int32.ofNat ot)), s13, .val (.ref b14), .val (.ref b15), .val (.ref b16), .val (.ref b17), .val (.long ((0 : Int64) + (own_term (f 0) (g 0)))), .second, .unset, .unset] [(.int (1 : Int32)), (.int (Int32.ofNat ot)), (.ref b16), (.int ((Int32.ofNat fr) + (1 : Int32))), (.ref b14), (.long ((0 : Int64) + (own_term (f 0) (g 0))))])) _
      refine XS.iadd Xr2.here hx rfl (hb hby at_253) rfl ?_
      exact kt
    obtain ⟨_, _, ⟨Tr4, Lr4, kr4, nr4⟩, -, Xr4, ⟨Lcr4, hQr4, lr4, yr4, zr4⟩, str4⟩ := Jvm.LawKit.callS Xr2 hx (y := (⟨"com/example/cairnwise/cairnwise/model/PointsSquaredDistancePinLaw", "term", "([II[II)J"⟩ : MethodName)) hown (mvT hZ (hw _ (List.mem_of_getElem? (i := 10) rfl))) (mvT hZ (hw _ (List.mem_of_getElem? (i := 11) rfl))) (mvT hZ (hw _ (List.mem_of_getElem? (i := 4) rfl))) (mvT hZ (hw _ (List.mem_of_getElem? (i := 12) rfl))) (by decide) (backOf (W := 2) (rm3 l Z a0 hw [] b14 ((Int32.ofNat fr) + (1 : Int32)) b16 ((Int32.ofNat ot) + (1 : Int32)) (f 1) (g 1) c1 c2 h0 n0 Z0 Ar1 (hin1 1 (by decide)) (hat1 1 (by decide)) Ar2 (hin2 1 (by decide)) (hat2 1 (by decide))) hZ (hw _ (List.mem_of_getElem? (i := 12) rfl)) (hw _ (List.mem_of_getElem? (i := 4) rfl)) (by decide) (by decide)) (g := (mkF m 254 #[.val (.long i0), .second, .val (.long i1), .second, .val (.long i2), .second, .val (.long i3), .second, .val (.int i4), .val (.int i5), .val (.int (Int32.ofNat 3)), .val (.int (Int32.ofNat fr)), .val (.int (Int32.ofNat ot)), s13, .val (.ref b14), .val (.ref b15), .val (.ref b16), .val (.ref b17), .val (.long ((0 : Int64) + (own_term (f 0) (g 0)))), .second, .unset, .unset] [(.int ((Int32.ofNat ot) + (1 : Int32))), (.ref b16), (.int ((Int32.ofNat fr) + (1 : Int32))), (.ref b14), (.long ((0 : Int64) + (own_term (f 0) (g 0))))])) rfl (by rw [hml]; rfl) (argsL := [(.ref b14), (.int ((Int32.ofNat fr) + (1 : Int32))), (.ref b16), (.int ((Int32.ofNat ot) + (1 : Int32)))]) (rest := [(.long ((0 : Int64) + (own_term (f 0) (g 0))))]) (lenOf pd_0 rfl) rfl (by show 2 * 0 + _ ≤ _; exact Nat.le_of_eq rfl) (hb hby at_254) (fun _ _ => ⟨rfl, eqr2, hc, hs⟩)
    dsimp only [Pt.U, Pt.locs, Pt.cells, Pt.slots] at Xr4 lr4 yr4 zr4 str4 hQr4
    subst lr4 yr4 zr4
    obtain ⟨rfl, Nqr4, eqr4⟩ := hQr4
    have Nr4 := Fr.app Nr2 Nqr4
    have rsg5 : ∀ t, Steps p.tables e below (Tr4.setTop (mkF m 280 #[.val (.long i0), .second, .val (.long i1), .second, .val (.long i2), .second, .val (.long i3), .second, .val (.int i4), .val (.int i5), .val (.int (Int32.ofNat 3)), .val (.int (Int32.ofNat fr)), .val (.int (Int32.ofNat ot)), s13, .val (.ref b14), .val (.ref b15), .val (.ref b16), .val (.ref b17), .val (.long (((0 : Int64) + (own_term (f 0) (g 0))) + (own_term (f 1) (g 1)))), .second, .unset, .unset] [(.int ((Int32.ofNat ot) + (2 : Int32))), (.ref b16), (.int ((Int32.ofNat fr) + (2 : Int32))), (.ref b14), (.long (((0 : Int64) + (own_term (f 0) (g 0))) + (own_term (f 1) (g 1))))])) t → Steps p.tables e below (Tr4.setTop (mkF m 257 #[.val (.long i0), .second, .val (.long i1), .second, .val (.long i2), .second, .val (.long i3), .second, .val (.int i4), .val (.int i5), .val (.int (Int32.ofNat 3)), .val (.int (Int32.ofNat fr)), .val (.int (Int32.ofNat ot)), s13, .val (.ref b14), .val (.ref b15), .val (.ref b16), .val (.ref b17), .val (.long ((0 : Int64) + (own_term (f 0) (g 0)))), .second, .unset, .unset] [(.long (own_term (f 1) (g 1))), (.long ((0 : Int64) + (own_term (f 0) (g 0))))])) t := by
      intro t kt
      refine XS.ladd Xr4.here hx rfl (hb hby at_257) rfl ?_
      show Steps p.tables e below (Tr4.setTop (mkF m 258 #[.val (.long i0), .second, .val (.long i1), .second, .val (.long i2), .second, .val (.long i3), .second, .val (.int i4), .val (.int i5), .val (.int (Int32.ofNat 3)), .val (.int (Int32.ofNat fr)), .val (.int (Int32.ofNat ot)), s13, .val (.ref b14), .val (.ref b15), .val (.ref b16), .val (.ref b17), .val (.long ((0 : Int64) + (own_term (f 0) (g 0)))), .second, .unset, .unset] [(.long (((0 : Int64) + (own_term (f 0) (g 0))) + (own_term (f 1) (g 1))))])) _
      refine XS.lstore Xr4.here hx rfl (hb hby at_258) rfl (l' := #[.val (.long i0), .second, .val (.long i1), .second, .val (.long i2), .second, .val (.long i3), .second, .val (.int i4), .val (.int i5), .val (.int (Int32.ofNat 3)), .val (.int (Int32.ofNat fr)), .val (.int (Int32.ofNat ot)), s13, .val (.ref b14), .val (.ref b15), .val (.ref b16), .val (.ref b17), .val (.long (((0 : Int64) + (own_term (f 0) (g 0))) + (own_term (f 1) (g 1)))), .second, .unset, .unset]) rfl ?_
      show Steps p.tables e below (Tr4.setTop (mkF m 260 #[.val (.long i0), .second, .val (.long i1), .second, .val (.long i2), .second, .val (.long i3), .second, .val (.int i4), .val (.int i5), .val (.int (Int32.ofNat 3)), .val (.int (Int32.ofNat fr)), .val (.int (Int32.ofNat ot)), s13, .val (.ref b14), .val (.ref b15), .val (.ref b16), .val (.ref b17), .val (.long (((0 : Int64) + (own_term (f 0) (g 0))) + (own_term (f 1) (g 1)))), .second, .unset, .unset] [])) _
      refine XS.iload Xr4.here hx rfl (hb hby at_260) rfl ?_
      show Steps p.tables e below (Tr4.setTop (mkF m 262 #[.val (.long i0), .second, .val (.long i1), .second, .val (.long i2), .second, .val (.long i3), .second, .val (.int i4), .val (.int i5), .val (.int (Int32.ofNat 3)), .val (.int (Int32.ofNat fr)), .val (.int (Int32.ofNat ot)), s13, .val (.ref b14), .val (.ref b15), .val (.ref b16), .val (.ref b17), .val (.long (((0 : Int64) + (own_term (f 0) (g 0))) + (own_term (f 1) (g 1)))), .second, .unset, .unset] [(.int (Int32.ofNat 3))])) _
      refine XS.iconst Xr4.here hx rfl (hb hby at_262) ?_
      show Steps p.tables e below (Tr4.setTop (mkF m 263 #[.val (.long i0), .second, .val (.long i1), .second, .val (.long i2), .second, .val (.long i3), .second, .val (.int i4), .val (.int i5), .val (.int (Int32.ofNat 3)), .val (.int (Int32.ofNat fr)), .val (.int (Int32.ofNat ot)), s13, .val (.ref b14), .val (.ref b15), .val (.ref b16), .val (.ref b17), .val (.long (((0 : Int64) + (own_term (f 0) (g 0))) + (own_term (f 1) (g 1)))), .second, .unset, .unset] [(.int (2 : Int32)), (.int (Int32.ofNat 3))])) _
      refine XS.icmpNo Xr4.here hx rfl (hb hby at_263) rfl (tlt (q3 : (2 : Int32) < (Int32.ofNat 3))).2.2.2 ?_
      show Steps p.tables e below (Tr4.setTop (mkF m 266 #[.val (.long i0), .second, .val (.long i1), .second, .val (.long i2), .second, .val (.long i3), .second, .val (.int i4), .val (.int i5), .val (.int (Int32.ofNat 3)), .val (.int (Int32.ofNat fr)), .val (.int (Int32.ofNat ot)), s13, .val (.ref b14), .val (.ref b15), .val (.ref b16), .val (.ref b17), .val (.long (((0 : Int64) + (own_term (f 0) (g 0))) + (own_term (f 1) (g 1)))), .second, .unset, .unset] [])) _
      refine XS.lload Xr4.here hx rfl (hb hby at_266) rfl ?_
      show Steps p.tables e below (Tr4.setTop (mkF m 268 #[.val (.long i0), .second, .val (.long i1), .second, .val (.long i2), .second, .val (.long i3), .second, .val (.int i4), .val (.int i5), .val (.int (Int32.ofNat 3)), .val (.int (Int32.ofNat fr)), .val (.int (Int32.ofNat ot)), s13, .val (.ref b14), .val (.ref b15), .val (.ref b16), .val (.ref b17), .val (.long (((0 : Int64) + (own_term (f 0) (g 0))) + (own_term (f 1) (g 1)))), .second, .unset, .unset] [(.long (((0 : Int64) + (own_term (f 0) (g 0))) + (own_term (f 1) (g 1))))])) _
      refine XS.aload Xr4.here hx rfl (hb hby at_268) rfl rfl ?_
      show Steps p.tables e below (Tr4.setTop (mkF m 270 #[.val (.long i0), .second, .val (.long i1), .second, .val (.long i2), .second, .val (.long i3), .second, .val (.int i4), .val (.int i5), .val (.int (Int32.ofNat 3)), .val (.int (Int32.ofNat fr)), .val (.int (Int32.ofNat ot)), s13, .val (.ref b14), .val (.ref b15), .val (.ref b16), .val (.ref b17), .val (.long (((0 : Int64) + (own_term (f 0) (g 0))) + (own_term (f 1) (g 1)))), .second, .unset, .unset] [(.ref b14), (.long (((0 : Int64) + (own_term (f 0) (g 0))) + (own_term (f 1) (g 1))))])) _
      refine XS.iload Xr4.here hx rfl (hb hby at_270) rfl ?_
      show Steps p.tables e below (Tr4.setTop (mkF m 272 #[.val (.long i0), .second, .val (.long i1), .second, .val (.long i2), .second, .val (.long i3), .second, .val (.int i4), .val (.int i5), .val (.int (Int32.ofNat 3)), .val (.int (Int32.ofNat fr)), .val (.int (Int32.ofNat ot)), s13, .val (.ref b14), .val (.ref b15), .val (.ref b16), .val (.ref b17), .val (.long (((0 : Int64) + (own_term (f 0) (g 0))) + (own_term (f 1) (g 1)))), .second, .unset, .unset] [(.int (Int32.ofNat fr)), (.ref b14), (.long (((0 : Int64) + (own_term (f 0) (g 0))) + (own_term (f 1) (g 1))))])) _
      refine XS.iconst Xr4.here hx rfl (hb hby at_272) ?_
      show Steps p.tables e below (Tr4.setTop (mkF m 273 #[.val (.long i0), .second, .val (.long i1), .second, .val (.long i2), .second, .val (.long i3), .second, .val (.int i4), .val (.int i5), .val (.int (Int32.ofNat 3)), .val (.int (Int32.ofNat fr)), .val (.int (Int32.ofNat ot)), s13, .val (.ref b14), .val (.ref b15), .val (.ref b16), .val (.ref b17), .val (.long (((0 : Int64) + (own_term (f 0) (g 0))) + (own_term (f 1) (g 1)))), .second, .unset, .unset] [(.int (2 : Int32)), (.int (Int32.ofNat fr)), (.ref b14), (.long (((0 : Int64) + (own_term (f 0) (g 0))) + (own_term (f 1) (g 1))))])) _
      refine XS.iadd Xr4.here hx rfl (hb hby at_273) rfl ?_
      show Steps p.tables e below (Tr4.setTop (mkF m 274 #[.val (.long i0), .second, .val (.long i1), .second, .val (.long i2), .second, .val (.long i3), .second, .val (.int i4), .val (.int i5), .val (.int (Int32.ofNat 3)), .val (.int (Int32.ofNat fr)), .val (.int (Int32.ofNat ot)), s13, .val (.ref b14), .val (.ref b15), .val (.ref b16), .val (.ref b17), .val (.long (((0 : Int64) + (own_term (f 0) (g 0))) + (own_term (f 1) (g 1)))), .second, .unset, .unset] [(.int ((Int32.ofNat fr) + (2 : Int32))), (.ref b14), (.long (((0 : Int64) + (own_term (f 0) (g 0))) + (own_term (f 1) (g 1))))])) _
      refine XS.aload Xr4.here hx rfl (hb hby at_274) rfl rfl ?_
      show Steps p.tables e below (Tr4.setTop (mkF m 276 #[.val (.long i0), .second, .val (.long i1), .second, .val (.long i2), .second, .val (.long i3), .second, .val (.int i4), .val (.int i5), .val (.int (Int32.ofNat 3)), .val (.int (Int32.ofNat fr)), .val (.int (Int32.ofNat ot)), s13, .val (.ref b14), .val (.ref b15), .val (.ref b16), .val (.ref b17), .val (.long (((0 : Int64) + (own_term (f 0) (g 0))) + (own_term (f 1) (g 1)))), .second, .unset, .unset] [(.ref b16), (.int ((Int32.ofNat fr) + (2 : Int32))), (.ref b14), (.long (((0 : Int64) + (own_term (f 0) (g 0))) + (own_term (f 1) (g 1))))])) _
      refine XS.iload Xr4.here hx rfl (hb hby at_276) rfl ?_
      show Steps p.tables e below (Tr4.setTop (mkF m 278 #[.val (.long i0), .second, .val (.long i1), .second, .val (.long i2), .second, .val (.long i3), .second, .val (.int i4), .val (.int i5), .val (.int (Int32.ofNat 3)), .val (.int (Int32.ofNat fr)), .val (.int (Int32.ofNat ot)), s13, .val (.ref b14), .val (.ref b15), .val (.ref b16), .val (.ref b17), .val (.long (((0 : Int64) + (own_term (f 0) (g 0))) + (own_term (f 1) (g 1)))), .second, .unset, .unset] [(.int (Int32.ofNat ot)), (.ref b16), (.int ((Int32.ofNat fr) + (2 : Int32))), (.ref b14), (.long (((0 : Int64) + (own_term (f 0) (g 0))) + (own_term (f 1) (g 1))))])) _
      refine XS.iconst Xr4.here hx rfl (hb hby at_278) ?_
      show Steps p.tables e below (Tr4.setTop (mkF m 279 #[.val (.long i0), .second, .val (.long i1), .second, .val (.long i2), .second, .val (.long i3), .second, .val (.int i4), .val (.int i5), .val (.int (Int32.ofNat 3)), .val (.int (Int32.ofNat fr)), .val (.int (Int32.ofNat ot)), s13, .val (.ref b14), .val (.ref b15), .val (.ref b16), .val (.ref b17), .val (.long (((0 : Int64) + (own_term (f 0) (g 0))) + (own_term (f 1) (g 1)))), .second, .unset, .unset] [(.int (2 : Int32)), (.int (Int32.ofNat ot)), (.ref b16), (.int ((Int32.ofNat fr) + (2 : Int32))), (.ref b14), (.long (((0 : Int64) + (own_term (f 0) (g 0))) + (own_term (f 1) (g 1))))])) _
      refine XS.iadd Xr4.here hx rfl (hb hby at_279) rfl ?_
      exact kt
    obtain ⟨_, _, ⟨Tr6, Lr6, kr6, nr6⟩, -, Xr6, ⟨Lcr6, hQr6, lr6, yr6, zr6⟩, str6⟩ := Jvm.LawKit.callS Xr4 hx (y := (⟨"com/example/cairnwise/cairnwise/model/PointsSquaredDistancePinLaw", "term", "([II[II)J"⟩ : MethodName)) hown (mvT hZ (hw _ (List.mem_of_getElem? (i := 10) rfl))) (mvT hZ (hw _ (List.mem_of_getElem? (i := 11) rfl))) (mvT hZ (hw _ (List.mem_of_getElem? (i := 4) rfl))) (mvT hZ (hw _ (List.mem_of_getElem? (i := 12) rfl))) (by decide) (backOf (W := 2) (rm3 l Z a0 hw [] b14 ((Int32.ofNat fr) + (2 : Int32)) b16 ((Int32.ofNat ot) + (2 : Int32)) (f 2) (g 2) c1 c2 h0 n0 Z0 Ar1 (hin1 2 (by decide)) (hat1 2 (by decide)) Ar2 (hin2 2 (by decide)) (hat2 2 (by decide))) hZ (hw _ (List.mem_of_getElem? (i := 12) rfl)) (hw _ (List.mem_of_getElem? (i := 4) rfl)) (by decide) (by decide)) (g := (mkF m 280 #[.val (.long i0), .second, .val (.long i1), .second, .val (.long i2), .second, .val (.long i3), .second, .val (.int i4), .val (.int i5), .val (.int (Int32.ofNat 3)), .val (.int (Int32.ofNat fr)), .val (.int (Int32.ofNat ot)), s13, .val (.ref b14), .val (.ref b15), .val (.ref b16), .val (.ref b17), .val (.long (((0 : Int64) + (own_term (f 0) (g 0))) + (own_term (f 1) (g 1)))), .second, .unset, .unset] [(.int ((Int32.ofNat ot) + (2 : Int32))), (.ref b16), (.int ((Int32.ofNat fr) + (2 : Int32))), (.ref b14), (.long (((0 : Int64) + (own_term (f 0) (g 0))) + (own_term (f 1) (g 1))))])) rfl (by rw [hml]; rfl) (argsL := [(.ref b14), (.int ((Int32.ofNat fr) + (2 : Int32))), (.ref b16), (.int ((Int32.ofNat ot) + (2 : Int32)))]) (rest := [(.long (((0 : Int64) + (own_term (f 0) (g 0))) + (own_term (f 1) (g 1))))]) (lenOf pd_0 rfl) rfl (by show 2 * 0 + _ ≤ _; exact Nat.le_of_eq rfl) (hb hby at_280) (fun _ _ => ⟨rfl, eqr4, hc, hs⟩)
    dsimp only [Pt.U, Pt.locs, Pt.cells, Pt.slots] at Xr6 lr6 yr6 zr6 str6 hQr6
    subst lr6 yr6 zr6
    obtain ⟨rfl, Nqr6, eqr6⟩ := hQr6
    have Nr6 := Fr.app Nr4 Nqr6
    have rsg7 : ∀ t, Steps p.tables e below (Tr6.setTop (mkF m 286 #[.val (.long i0), .second, .val (.long i1), .second, .val (.long i2), .second, .val (.long i3), .second, .val (.int i4), .val (.int i5), .val (.int (Int32.ofNat 3)), .val (.int (Int32.ofNat fr)), .val (.int (Int32.ofNat ot)), s13, .val (.ref b14), .val (.ref b15), .val (.ref b16), .val (.ref b17), .val (.long ((((0 : Int64) + (own_term (f 0) (g 0))) + (own_term (f 1) (g 1))) + (own_term (f 2) (g 2)))), .second, .unset, .unset] [])) t → Steps p.tables e below (Tr6.setTop (mkF m 283 #[.val (.long i0), .second, .val (.long i1), .second, .val (.long i2), .second, .val (.long i3), .second, .val (.int i4), .val (.int i5), .val (.int (Int32.ofNat 3)), .val (.int (Int32.ofNat fr)), .val (.int (Int32.ofNat ot)), s13, .val (.ref b14), .val (.ref b15), .val (.ref b16), .val (.ref b17), .val (.long (((0 : Int64) + (own_term (f 0) (g 0))) + (own_term (f 1) (g 1)))), .second, .unset, .unset] [(.long (own_term (f 2) (g 2))), (.long (((0 : Int64) + (own_term (f 0) (g 0))) + (own_term (f 1) (g 1))))])) t := by
      intro t kt
      refine XS.ladd Xr6.here hx rfl (hb hby at_283) rfl ?_
      show Steps p.tables e below (Tr6.setTop (mkF m 284 #[.val (.long i0), .second, .val (.long i1), .second, .val (.long i2), .second, .val (.long i3), .second, .val (.int i4), .val (.int i5), .val (.int (Int32.ofNat 3)), .val (.int (Int32.ofNat fr)), .val (.int (Int32.ofNat ot)), s13, .val (.ref b14), .val (.ref b15), .val (.ref b16), .val (.ref b17), .val (.long (((0 : Int64) + (own_term (f 0) (g 0))) + (own_term (f 1) (g 1)))), .second, .unset, .unset] [(.long ((((0 : Int64) + (own_term (f 0) (g 0))) + (own_term (f 1) (g 1))) + (own_term (f 2) (g 2))))])) _
      refine XS.lstore Xr6.here hx rfl (hb hby at_284) rfl (l' := #[.val (.long i0), .second, .val (.long i1), .second, .val (.long i2), .second, .val (.long i3), .second, .val (.int i4), .val (.int i5), .val (.int (Int32.ofNat 3)), .val (.int (Int32.ofNat fr)), .val (.int (Int32.ofNat ot)), s13, .val (.ref b14), .val (.ref b15), .val (.ref b16), .val (.ref b17), .val (.long ((((0 : Int64) + (own_term (f 0) (g 0))) + (own_term (f 1) (g 1))) + (own_term (f 2) (g 2)))), .second, .unset, .unset]) rfl ?_
      exact kt
    refine ⟨Tr6, _, ((((0 : Int64) + (own_term (f 0) (g 0))) + (own_term (f 1) (g 1))) + (own_term (f 2) (g 2))), Xr6, eqr6, Nr6, ?_, fun t kt => ?_⟩
    · have t0 := own_term_v (hf 0) (hg 0)
      have t1 := own_term_v (hf 1) (hg 1)
      have t2 := own_term_v (hf 2) (hg 2)
      have b0 := own_ssq_b f g hf hg 1
      have b1 := own_ssq_b f g hf hg 2
      have b2 := own_ssq_b f g hf hg 3
      have g0 := own_sq_bound (z := (f 0).toInt - (g 0).toInt) (by have := hf 0; have := hg 0; unfold own_B at *; omega) (by have := hf 0; have := hg 0; unfold own_B at *; omega)
      have g1 := own_sq_bound (z := (f 1).toInt - (g 1).toInt) (by have := hf 1; have := hg 1; unfold own_B at *; omega) (by have := hf 1; have := hg 1; unfold own_B at *; omega)
      have g2 := own_sq_bound (z := (f 2).toInt - (g 2).toInt) (by have := hf 2; have := hg 2; unfold own_B at *; omega) (by have := hf 2; have := hg 2; unfold own_B at *; omega)
      have z0 : (0 : Int64).toInt = 0 := by decide
      simp only [own_ssq] at b0 b1 b2 ⊢
      have a0 := own_ladd (a := (0 : Int64)) (b := own_term (f 0) (g 0)) (by omega) (by omega) (by omega) (by omega)
      have a1 := own_ladd (a := ((0 : Int64) + own_term (f 0) (g 0))) (b := own_term (f 1) (g 1)) (by omega) (by omega) (by omega) (by omega)
      have a2 := own_ladd (a := (((0 : Int64) + own_term (f 0) (g 0)) + own_term (f 1) (g 1))) (b := own_term (f 2) (g 2)) (by omega) (by omega) (by omega) (by omega)
      omega
    · show Steps p.tables e below (T0.setTop (mkF m 210 #[.val (.long i0), .second, .val (.long i1), .second, .val (.long i2), .second, .val (.long i3), .second, .val (.int i4), .val (.int i5), .val (.int (Int32.ofNat 3)), .val (.int (Int32.ofNat fr)), .val (.int (Int32.ofNat ot)), s13, .val (.ref b14), .val (.ref b15), .val (.ref b16), .val (.ref b17), .unset, .unset, .unset, .unset] [])) _
      refine rsg1 _ ?_
      refine str2 _ ?_
      refine rsg3 _ ?_
      refine str4 _ ?_
      refine rsg5 _ ?_
      refine str6 _ ?_
      refine rsg7 _ ?_
      exact kt
theorem ef_0 (m : MethodId) (x0 : Int64) (x1 : Int64) (x2 : Int64) (x3 : Int64) (x4 : Int32) (x5 : Int32) : entryFrame m #[(.long x0), (.long x1), (.long x2), (.long x3), (.int x4), (.int x5)] maxLocals = mkF m 0 #[.val (.long x0), .second, .val (.long x1), .second, .val (.long x2), .second, .val (.long x3), .second, .val (.int x4), .val (.int x5), .unset, .unset, .unset, .unset, .unset, .unset, .unset, .unset, .unset, .unset, .unset, .unset] [] := by first | (simp [entryFrame, mkF, argsToLocals, Value.category, maxLocals]; done) | rfl

theorem own_ofNat {k : Nat} (h : k < 2 ^ 31) : (Int32.ofNat k).toInt = k := Int32.toInt_ofNat_of_lt h
theorem own_nat (x : Int32) (N : Nat) (h1 : 0 ≤ x.toInt) (h2 : x.toInt ≤ N) (h3 : N < 2 ^ 31) : ∃ k : Nat, k ≤ N ∧ x = Int32.ofNat k := by
  refine ⟨x.toInt.toNat, by omega, ?_⟩
  apply Int32.toInt_inj.mp
  rw [own_ofNat (by omega)]; omega
theorem own_atB (L : List Int32) (k : Nat) (h : ∀ x ∈ L, own_B x) (n : Nat) : own_B (own_at L k n) := by
  unfold own_at
  rw [List.getD_eq_getElem?_getD]
  cases hq : L[k + n]? with
  | none => exact ⟨by decide, by decide⟩
  | some x => exact h x (List.mem_of_getElem? hq)
theorem own_getI (L : List Int32) {k n : Nat} (h : k + n < L.length) : (L.map Value.int).getD (k + n) (.int (0 : Int32)) = .int (own_at L k n) := by
  simp [own_at, List.getD_eq_getElem?_getD, List.getElem?_map, List.getElem?_eq_getElem h]
theorem own_getD (L : List Int32) {k n : Nat} (h : k + n < L.length) : (L.map fun x => Value.double (FP.i2d x)).getD (k + n) (.double (0 : UInt64)) = .double (FP.i2d (own_at L k n)) := by
  simp [own_at, List.getD_eq_getElem?_getD, List.getElem?_map, List.getElem?_eq_getElem h]
theorem own_lt {k n d : Nat} (hn : n < d) (h : k + d ≤ 4) : k + n < 4 := by omega
theorem own_same {u : UInt64} {rf : Int64} {z : Int} {dn : Nat} (hu : FP.Core.DInt z u) (hrf : rf.toInt = z) (hb : 0 ≤ z ∧ z ≤ 281474943156225 * dn) (hd : dn ≤ 3) : cmpValue (FP.dcmp u (FP.l2d rf)) .l = 0 := by
  rw [own_cl]
  have h2 : FP.Core.DInt rf.toInt (FP.l2d rf) := FP.Core.l2d_int (by omega)
  rw [hrf] at h2
  rw [show FP.dcmp u (FP.l2d rf) = _ from FP.Core.dcmp_int hu h2, Option.some.injEq, FP.Core.compare_eq_iff]
theorem pd_1 : parseMethodDescriptor "(J)I" = some ⟨[.long], some .int⟩ := by decide +kernel
theorem pd_2 : parseMethodDescriptor "([DI[DII)D" = some ⟨[(.array .double), .int, (.array .double), .int, .int], some .double⟩ := by decide +kernel
def Q0 (Z : State) (i0 i1 i2 i3 : Int64) (i4 i5 : Int32) (h0 : Heap) (n0 : Nat) (v : Option Value) (h : Heap) (L : List Loc) : Prop := v = some (.int 1) ∧ Fr n0 L
set_option maxRecDepth 65536 in
set_option maxHeartbeats 40000000 in
theorem rm0 (l : Launch) (Z : State) (a0 : Array Value) (hw : ∀ d ∈ tables_1, d.before a0 Z = true) (ws : List Jvm.Cond) (i0 i1 i2 i3 : Int64) (i4 i5 : Int32) (h0 : Heap) (n0 : Nat) (Z0 : n0 ≤ h0.size)  :
    MetFree l x (head1 (Jvm.Cond.code x code maxLocals ret :: ws) room_1) (fun a U => a = #[(.long i0), (.long i1), (.long i2), (.long i3), (.int i4), (.int i5)] ∧ Z.Warmed39 U.vm ∧ U.heap = h0) (fun _ _ _ _ _ => True) (fun _ U o U' => ∃ v L, o = .returned v ∧ Q0 Z i0 i1 i2 i3 i4 i5 h0 n0 v U'.heap L ∧ FrameEnd U o U' L 4 16) := by
  refine MetFree.of_bodySF (plainFor_of_name pn_0) hisR ?_
  intro p e s m args below meth c s₁ Bd hml0 hP hK
  obtain ⟨rfl, hZ, hh⟩ := hP
  have hx := Bd.exec
  have hby := Bd.bytes
  have hml : c.maxLocals = 22 := hml0
  have hown : s.vm.findClass "com/example/cairnwise/cairnwise/model/PointsSquaredDistancePinLaw" = some m.cls := findClass_of_methodNamed Bd.named
  have hnm := (name_of_methodNamed Bd.named Bd.method).1
  have X0 : Stand p l e room_1 s m #[(.long i0), (.long i1), (.long i2), (.long i3), (.int i4), (.int i5)] below meth c s₁ [] 0 0 := Stand.of_body Bd
  have e0 : s₁.heap = h0 := by rw [← hh, Bd.state]; rfl
  have N0 := Fr.nil n0
  have pre0 : ∀ t, Steps p.tables e below (s₁.setTop (mkF m 0 #[.val (.long i0), .second, .val (.long i1), .second, .val (.long i2), .second, .val (.long i3), .second, .val (.int i4), .val (.int i5), .unset, .unset, .unset, .unset, .unset, .unset, .unset, .unset, .unset, .unset, .unset, .unset] [])) t → Steps p.tables e below (s₁.setTop (entryFrame m #[(.long i0), (.long i1), (.long i2), (.long i3), (.int i4), (.int i5)] maxLocals)) t := fun t kq0 => castTop (ef_0 m i0 i1 i2 i3 i4 i5) kq0
  have bd := own_and3 i4
  have hz5 : ¬ ((5 : Int32) - (i4 &&& (3 : Int32))) = 0 := by
    intro q
    have q2 := c_isub 5 (i4 &&& (3 : Int32))
    rw [q] at q2
    have z5 : (5 : Int32).toInt = 5 := by decide
    have z0 : (0 : Int32).toInt = 0 := by decide
    omega
  have sg1 : ∀ t, Steps p.tables e below (s₁.setTop (mkF m 36 #[.val (.long i0), .second, .val (.long i1), .second, .val (.long i2), .second, .val (.long i3), .second, .val (.int i4), .val (.int i5), .val (.int (i4 &&& (3 : Int32))), .val (.int ((i5 &&& (2147483647 : Int32)) % ((5 : Int32) - (i4 &&& (3 : Int32))))), .val (.int (((i5.toUInt32 >>> ((8 : Int32) &&& 31).toUInt32).toInt32) % ((5 : Int32) - (i4 &&& (3 : Int32))))), .unset, .unset, .unset, .unset, .unset, .unset, .unset, .unset, .unset] [(.int (((i4.toUInt32 >>> ((2 : Int32) &&& 31).toUInt32).toInt32) &&& (1 : Int32)))])) t → Steps p.tables e below (s₁.setTop (mkF m 0 #[.val (.long i0), .second, .val (.long i1), .second, .val (.long i2), .second, .val (.long i3), .second, .val (.int i4), .val (.int i5), .unset, .unset, .unset, .unset, .unset, .unset, .unset, .unset, .unset, .unset, .unset, .unset] [])) t := by
    intro t kt
    refine XS.iload X0.here hx rfl (hb hby at_0) rfl ?_
    show Steps p.tables e below (s₁.setTop (mkF m 2 #[.val (.long i0), .second, .val (.long i1), .second, .val (.long i2), .second, .val (.long i3), .second, .val (.int i4), .val (.int i5), .unset, .unset, .unset, .unset, .unset, .unset, .unset, .unset, .unset, .unset, .unset, .unset] [(.int i4)])) _
    refine XS.iconst X0.here hx rfl (hb hby at_2) ?_
    show Steps p.tables e below (s₁.setTop (mkF m 3 #[.val (.long i0), .second, .val (.long i1), .second, .val (.long i2), .second, .val (.long i3), .second, .val (.int i4), .val (.int i5), .unset, .unset, .unset, .unset, .unset, .unset, .unset, .unset, .unset, .unset, .unset, .unset] [(.int (3 : Int32)), (.int i4)])) _
    refine XS.iand X0.here hx rfl (hb hby at_3) rfl ?_
    show Steps p.tables e below (s₁.setTop (mkF m 4 #[.val (.long i0), .second, .val (.long i1), .second, .val (.long i2), .second, .val (.long i3), .second, .val (.int i4), .val (.int i5), .unset, .unset, .unset, .unset, .unset, .unset, .unset, .unset, .unset, .unset, .unset, .unset] [(.int (i4 &&& (3 : Int32)))])) _
    refine XS.istore X0.here hx rfl (hb hby at_4) rfl (l' := #[.val (.long i0), .second, .val (.long i1), .second, .val (.long i2), .second, .val (.long i3), .second, .val (.int i4), .val (.int i5), .val (.int (i4 &&& (3 : Int32))), .unset, .unset, .unset, .unset, .unset, .unset, .unset, .unset, .unset, .unset, .unset]) rfl ?_
    show Steps p.tables e below (s₁.setTop (mkF m 6 #[.val (.long i0), .second, .val (.long i1), .second, .val (.long i2), .second, .val (.long i3), .second, .val (.int i4), .val (.int i5), .val (.int (i4 &&& (3 : Int32))), .unset, .unset, .unset, .unset, .unset, .unset, .unset, .unset, .unset, .unset, .unset] [])) _
    refine XS.iload X0.here hx rfl (hb hby at_6) rfl ?_
    show Steps p.tables e below (s₁.setTop (mkF m 8 #[.val (.long i0), .second, .val (.long i1), .second, .val (.long i2), .second, .val (.long i3), .second, .val (.int i4), .val (.int i5), .val (.int (i4 &&& (3 : Int32))), .unset, .unset, .unset, .unset, .unset, .unset, .unset, .unset, .unset, .unset, .unset] [(.int i5)])) _
    refine X0.ldcInt hx hown (mvT hZ (hw _ (List.mem_of_getElem? (i := 0) rfl))) (g := (mkF m 8 #[.val (.long i0), .second, .val (.long i1), .second, .val (.long i2), .second, .val (.long i3), .second, .val (.int i4), .val (.int i5), .val (.int (i4 &&& (3 : Int32))), .unset, .unset, .unset, .unset, .unset, .unset, .unset, .unset, .unset, .unset, .unset] [(.int i5)])) rfl (hb hby at_8) _ ?_
    show Steps p.tables e below (s₁.setTop (mkF m 10 #[.val (.long i0), .second, .val (.long i1), .second, .val (.long i2), .second, .val (.long i3), .second, .val (.int i4), .val (.int i5), .val (.int (i4 &&& (3 : Int32))), .unset, .unset, .unset, .unset, .unset, .unset, .unset, .unset, .unset, .unset, .unset] [(.int (2147483647 : Int32)), (.int i5)])) _
    refine XS.iand X0.here hx rfl (hb hby at_10) rfl ?_
    show Steps p.tables e below (s₁.setTop (mkF m 11 #[.val (.long i0), .second, .val (.long i1), .second, .val (.long i2), .second, .val (.long i3), .second, .val (.int i4), .val (.int i5), .val (.int (i4 &&& (3 : Int32))), .unset, .unset, .unset, .unset, .unset, .unset, .unset, .unset, .unset, .unset, .unset] [(.int (i5 &&& (2147483647 : Int32)))])) _
    refine XS.iconst X0.here hx rfl (hb hby at_11) ?_
    show Steps p.tables e below (s₁.setTop (mkF m 12 #[.val (.long i0), .second, .val (.long i1), .second, .val (.long i2), .second, .val (.long i3), .second, .val (.int i4), .val (.int i5), .val (.int (i4 &&& (3 : Int32))), .unset, .unset, .unset, .unset, .unset, .unset, .unset, .unset, .unset, .unset, .unset] [(.int (5 : Int32)), (.int (i5 &&& (2147483647 : Int32)))])) _
    refine XS.iload X0.here hx rfl (hb hby at_12) rfl ?_
    show Steps p.tables e below (s₁.setTop (mkF m 14 #[.val (.long i0), .second, .val (.long i1), .second, .val (.long i2), .second, .val (.long i3), .second, .val (.int i4), .val (.int i5), .val (.int (i4 &&& (3 : Int32))), .unset, .unset, .unset, .unset, .unset, .unset, .unset, .unset, .unset, .unset, .unset] [(.int (i4 &&& (3 : Int32))), (.int (5 : Int32)), (.int (i5 &&& (2147483647 : Int32)))])) _
    refine XS.isub X0.here hx rfl (hb hby at_14) rfl ?_
    show Steps p.tables e below (s₁.setTop (mkF m 15 #[.val (.long i0), .second, .val (.long i1), .second, .val (.long i2), .second, .val (.long i3), .second, .val (.int i4), .val (.int i5), .val (.int (i4 &&& (3 : Int32))), .unset, .unset, .unset, .unset, .unset, .unset, .unset, .unset, .unset, .unset, .unset] [(.int ((5 : Int32) - (i4 &&& (3 : Int32)))), (.int (i5 &&& (2147483647 : Int32)))])) _
    refine iremM X0 hx rfl (hb hby at_15) rfl hz5 ?_
    show Steps p.tables e below (s₁.setTop (mkF m 16 #[.val (.long i0), .second, .val (.long i1), .second, .val (.long i2), .second, .val (.long i3), .second, .val (.int i4), .val (.int i5), .val (.int (i4 &&& (3 : Int32))), .unset, .unset, .unset, .unset, .unset, .unset, .unset, .unset, .unset, .unset, .unset] [(.int ((i5 &&& (2147483647 : Int32)) % ((5 : Int32) - (i4 &&& (3 : Int32)))))])) _
    refine XS.istore X0.here hx rfl (hb hby at_16) rfl (l' := #[.val (.long i0), .second, .val (.long i1), .second, .val (.long i2), .second, .val (.long i3), .second, .val (.int i4), .val (.int i5), .val (.int (i4 &&& (3 : Int32))), .val (.int ((i5 &&& (2147483647 : Int32)) % ((5 : Int32) - (i4 &&& (3 : Int32))))), .unset, .unset, .unset, .unset, .unset, .unset, .unset, .unset, .unset, .unset]) rfl ?_
    show Steps p.tables e below (s₁.setTop (mkF m 18 #[.val (.long i0), .second, .val (.long i1), .second, .val (.long i2), .second, .val (.long i3), .second, .val (.int i4), .val (.int i5), .val (.int (i4 &&& (3 : Int32))), .val (.int ((i5 &&& (2147483647 : Int32)) % ((5 : Int32) - (i4 &&& (3 : Int32))))), .unset, .unset, .unset, .unset, .unset, .unset, .unset, .unset, .unset, .unset] [])) _
    refine XS.iload X0.here hx rfl (hb hby at_18) rfl ?_
    show Steps p.tables e below (s₁.setTop (mkF m 20 #[.val (.long i0), .second, .val (.long i1), .second, .val (.long i2), .second, .val (.long i3), .second, .val (.int i4), .val (.int i5), .val (.int (i4 &&& (3 : Int32))), .val (.int ((i5 &&& (2147483647 : Int32)) % ((5 : Int32) - (i4 &&& (3 : Int32))))), .unset, .unset, .unset, .unset, .unset, .unset, .unset, .unset, .unset, .unset] [(.int i5)])) _
    refine XS.bipush X0.here hx rfl (hb hby at_20) ?_
    show Steps p.tables e below (s₁.setTop (mkF m 22 #[.val (.long i0), .second, .val (.long i1), .second, .val (.long i2), .second, .val (.long i3), .second, .val (.int i4), .val (.int i5), .val (.int (i4 &&& (3 : Int32))), .val (.int ((i5 &&& (2147483647 : Int32)) % ((5 : Int32) - (i4 &&& (3 : Int32))))), .unset, .unset, .unset, .unset, .unset, .unset, .unset, .unset, .unset, .unset] [(.int (8 : Int32)), (.int i5)])) _
    refine XS.iushr X0.here hx rfl (hb hby at_22) rfl ?_
    show Steps p.tables e below (s₁.setTop (mkF m 23 #[.val (.long i0), .second, .val (.long i1), .second, .val (.long i2), .second, .val (.long i3), .second, .val (.int i4), .val (.int i5), .val (.int (i4 &&& (3 : Int32))), .val (.int ((i5 &&& (2147483647 : Int32)) % ((5 : Int32) - (i4 &&& (3 : Int32))))), .unset, .unset, .unset, .unset, .unset, .unset, .unset, .unset, .unset, .unset] [(.int ((i5.toUInt32 >>> ((8 : Int32) &&& 31).toUInt32).toInt32))])) _
    refine XS.iconst X0.here hx rfl (hb hby at_23) ?_
    show Steps p.tables e below (s₁.setTop (mkF m 24 #[.val (.long i0), .second, .val (.long i1), .second, .val (.long i2), .second, .val (.long i3), .second, .val (.int i4), .val (.int i5), .val (.int (i4 &&& (3 : Int32))), .val (.int ((i5 &&& (2147483647 : Int32)) % ((5 : Int32) - (i4 &&& (3 : Int32))))), .unset, .unset, .unset, .unset, .unset, .unset, .unset, .unset, .unset, .unset] [(.int (5 : Int32)), (.int ((i5.toUInt32 >>> ((8 : Int32) &&& 31).toUInt32).toInt32))])) _
    refine XS.iload X0.here hx rfl (hb hby at_24) rfl ?_
    show Steps p.tables e below (s₁.setTop (mkF m 26 #[.val (.long i0), .second, .val (.long i1), .second, .val (.long i2), .second, .val (.long i3), .second, .val (.int i4), .val (.int i5), .val (.int (i4 &&& (3 : Int32))), .val (.int ((i5 &&& (2147483647 : Int32)) % ((5 : Int32) - (i4 &&& (3 : Int32))))), .unset, .unset, .unset, .unset, .unset, .unset, .unset, .unset, .unset, .unset] [(.int (i4 &&& (3 : Int32))), (.int (5 : Int32)), (.int ((i5.toUInt32 >>> ((8 : Int32) &&& 31).toUInt32).toInt32))])) _
    refine XS.isub X0.here hx rfl (hb hby at_26) rfl ?_
    show Steps p.tables e below (s₁.setTop (mkF m 27 #[.val (.long i0), .second, .val (.long i1), .second, .val (.long i2), .second, .val (.long i3), .second, .val (.int i4), .val (.int i5), .val (.int (i4 &&& (3 : Int32))), .val (.int ((i5 &&& (2147483647 : Int32)) % ((5 : Int32) - (i4 &&& (3 : Int32))))), .unset, .unset, .unset, .unset, .unset, .unset, .unset, .unset, .unset, .unset] [(.int ((5 : Int32) - (i4 &&& (3 : Int32)))), (.int ((i5.toUInt32 >>> ((8 : Int32) &&& 31).toUInt32).toInt32))])) _
    refine iremM X0 hx rfl (hb hby at_27) rfl hz5 ?_
    show Steps p.tables e below (s₁.setTop (mkF m 28 #[.val (.long i0), .second, .val (.long i1), .second, .val (.long i2), .second, .val (.long i3), .second, .val (.int i4), .val (.int i5), .val (.int (i4 &&& (3 : Int32))), .val (.int ((i5 &&& (2147483647 : Int32)) % ((5 : Int32) - (i4 &&& (3 : Int32))))), .unset, .unset, .unset, .unset, .unset, .unset, .unset, .unset, .unset, .unset] [(.int (((i5.toUInt32 >>> ((8 : Int32) &&& 31).toUInt32).toInt32) % ((5 : Int32) - (i4 &&& (3 : Int32)))))])) _
    refine XS.istore X0.here hx rfl (hb hby at_28) rfl (l' := #[.val (.long i0), .second, .val (.long i1), .second, .val (.long i2), .second, .val (.long i3), .second, .val (.int i4), .val (.int i5), .val (.int (i4 &&& (3 : Int32))), .val (.int ((i5 &&& (2147483647 : Int32)) % ((5 : Int32) - (i4 &&& (3 : Int32))))), .val (.int (((i5.toUInt32 >>> ((8 : Int32) &&& 31).toUInt32).toInt32) % ((5 : Int32) - (i4 &&& (3 : Int32))))), .unset, .unset, .unset, .unset, .unset, .unset, .unset, .unset, .unset]) rfl ?_
    show Steps p.tables e below (s₁.setTop (mkF m 30 #[.val (.long i0), .second, .val (.long i1), .second, .val (.long i2), .second, .val (.long i3), .second, .val (.int i4), .val (.int i5), .val (.int (i4 &&& (3 : Int32))), .val (.int ((i5 &&& (2147483647 : Int32)) % ((5 : Int32) - (i4 &&& (3 : Int32))))), .val (.int (((i5.toUInt32 >>> ((8 : Int32) &&& 31).toUInt32).toInt32) % ((5 : Int32) - (i4 &&& (3 : Int32))))), .unset, .unset, .unset, .unset, .unset, .unset, .unset, .unset, .unset] [])) _
    refine XS.iload X0.here hx rfl (hb hby at_30) rfl ?_
    show Steps p.tables e below (s₁.setTop (mkF m 32 #[.val (.long i0), .second, .val (.long i1), .second, .val (.long i2), .second, .val (.long i3), .second, .val (.int i4), .val (.int i5), .val (.int (i4 &&& (3 : Int32))), .val (.int ((i5 &&& (2147483647 : Int32)) % ((5 : Int32) - (i4 &&& (3 : Int32))))), .val (.int (((i5.toUInt32 >>> ((8 : Int32) &&& 31).toUInt32).toInt32) % ((5 : Int32) - (i4 &&& (3 : Int32))))), .unset, .unset, .unset, .unset, .unset, .unset, .unset, .unset, .unset] [(.int i4)])) _
    refine XS.iconst X0.here hx rfl (hb hby at_32) ?_
    show Steps p.tables e below (s₁.setTop (mkF m 33 #[.val (.long i0), .second, .val (.long i1), .second, .val (.long i2), .second, .val (.long i3), .second, .val (.int i4), .val (.int i5), .val (.int (i4 &&& (3 : Int32))), .val (.int ((i5 &&& (2147483647 : Int32)) % ((5 : Int32) - (i4 &&& (3 : Int32))))), .val (.int (((i5.toUInt32 >>> ((8 : Int32) &&& 31).toUInt32).toInt32) % ((5 : Int32) - (i4 &&& (3 : Int32))))), .unset, .unset, .unset, .unset, .unset, .unset, .unset, .unset, .unset] [(.int (2 : Int32)), (.int i4)])) _
    refine XS.iushr X0.here hx rfl (hb hby at_33) rfl ?_
    show Steps p.tables e below (s₁.setTop (mkF m 34 #[.val (.long i0), .second, .val (.long i1), .second, .val (.long i2), .second, .val (.long i3), .second, .val (.int i4), .val (.int i5), .val (.int (i4 &&& (3 : Int32))), .val (.int ((i5 &&& (2147483647 : Int32)) % ((5 : Int32) - (i4 &&& (3 : Int32))))), .val (.int (((i5.toUInt32 >>> ((8 : Int32) &&& 31).toUInt32).toInt32) % ((5 : Int32) - (i4 &&& (3 : Int32))))), .unset, .unset, .unset, .unset, .unset, .unset, .unset, .unset, .unset] [(.int ((i4.toUInt32 >>> ((2 : Int32) &&& 31).toUInt32).toInt32))])) _
    refine XS.iconst X0.here hx rfl (hb hby at_34) ?_
    show Steps p.tables e below (s₁.setTop (mkF m 35 #[.val (.long i0), .second, .val (.long i1), .second, .val (.long i2), .second, .val (.long i3), .second, .val (.int i4), .val (.int i5), .val (.int (i4 &&& (3 : Int32))), .val (.int ((i5 &&& (2147483647 : Int32)) % ((5 : Int32) - (i4 &&& (3 : Int32))))), .val (.int (((i5.toUInt32 >>> ((8 : Int32) &&& 31).toUInt32).toInt32) % ((5 : Int32) - (i4 &&& (3 : Int32))))), .unset, .unset, .unset, .unset, .unset, .unset, .unset, .unset, .unset] [(.int (1 : Int32)), (.int ((i4.toUInt32 >>> ((2 : Int32) &&& 31).toUInt32).toInt32))])) _
    refine XS.iand X0.here hx rfl (hb hby at_35) rfl ?_
    exact kt
  obtain ⟨dn, hdn, hdv⟩ : ∃ dn : Nat, dn ≤ 3 ∧ (i4 &&& (3 : Int32)) = Int32.ofNat dn := own_nat _ 3 bd.1 bd.2 (by decide)
  have h5 : ((5 : Int32) - (i4 &&& (3 : Int32))).toInt = 5 - dn := by
    have q2 := c_isub 5 (i4 &&& (3 : Int32))
    have z5 : (5 : Int32).toInt = 5 := by decide
    have zd : ((i4 &&& (3 : Int32))).toInt = dn := by rw [hdv]; exact own_ofNat (by omega)
    have := rng32 ((5 : Int32) - (i4 &&& (3 : Int32)))
    omega
  obtain ⟨fr, hfr, hfv⟩ : ∃ fr : Nat, fr ≤ 4 - dn ∧ ((i5 &&& (2147483647 : Int32)) % ((5 : Int32) - (i4 &&& (3 : Int32)))) = Int32.ofNat fr := by
    have k1 := c_and i5 (2147483647 : Int32) (by decide)
    have k2 := (c_iremV (i5 &&& (2147483647 : Int32)) ((5 : Int32) - (i4 &&& (3 : Int32)))).1 k1.1 (by omega)
    exact own_nat _ (4 - dn) k2.1 (by omega) (by omega)
  obtain ⟨ot, hot, hov⟩ : ∃ ot : Nat, ot ≤ 4 - dn ∧ (((i5.toUInt32 >>> ((8 : Int32) &&& 31).toUInt32).toInt32) % ((5 : Int32) - (i4 &&& (3 : Int32)))) = Int32.ofNat ot := by
    have k1 := c_iushr i5 8 8 (by decide) (by decide)
    have k2 := (c_iremV ((i5.toUInt32 >>> ((8 : Int32) &&& 31).toUInt32).toInt32) ((5 : Int32) - (i4 &&& (3 : Int32)))).1 (by rw [k1]; exact Int.ediv_nonneg (Int.emod_nonneg _ (by decide)) (by decide)) (by omega)
    exact own_nat _ (4 - dn) k2.1 (by omega) (by omega)
  have hfr4 : fr + dn ≤ 4 := by omega
  have hot4 : ot + dn ≤ 4 := by omega
  rw [hfv, hov, hdv] at sg1
  obtain ⟨sf, sf_st⟩ : ∃ sf : Int32, ∀ t, Steps p.tables e below (s₁.setTop (mkF m 46 #[.val (.long i0), .second, .val (.long i1), .second, .val (.long i2), .second, .val (.long i3), .second, .val (.int i4), .val (.int i5), .val (.int (Int32.ofNat dn)), .val (.int (Int32.ofNat fr)), .val (.int (Int32.ofNat ot)), .val (.int sf), .unset, .unset, .unset, .unset, .unset, .unset, .unset, .unset] [])) t → Steps p.tables e below (s₁.setTop (mkF m 36 #[.val (.long i0), .second, .val (.long i1), .second, .val (.long i2), .second, .val (.long i3), .second, .val (.int i4), .val (.int i5), .val (.int (Int32.ofNat dn)), .val (.int (Int32.ofNat fr)), .val (.int (Int32.ofNat ot)), .unset, .unset, .unset, .unset, .unset, .unset, .unset, .unset, .unset] [(.int (((i4.toUInt32 >>> ((2 : Int32) &&& 31).toUInt32).toInt32) &&& (1 : Int32)))])) t := by
    by_cases c36 : (((i4.toUInt32 >>> ((2 : Int32) &&& 31).toUInt32).toInt32) &&& (1 : Int32)) = 0
    · refine ⟨(0 : Int32), fun t kt => ?_⟩
      refine XS.ifYes X0.here hx rfl (pc0 := 36) (pc' := 43) rfl (hb hby at_36) rfl ((if0 _ _).trans (teq (c36 : (((i4.toUInt32 >>> ((2 : Int32) &&& 31).toUInt32).toInt32) &&& (1 : Int32)) = (0 : Int32))).1) (by decide) (by decide) ?_
      show Steps p.tables e below (s₁.setTop (mkF m 43 #[.val (.long i0), .second, .val (.long i1), .second, .val (.long i2), .second, .val (.long i3), .second, .val (.int i4), .val (.int i5), .val (.int (Int32.ofNat dn)), .val (.int (Int32.ofNat fr)), .val (.int (Int32.ofNat ot)), .unset, .unset, .unset, .unset, .unset, .unset, .unset, .unset, .unset] [])) _
      refine XS.iconst X0.here hx rfl (hb hby at_43) ?_
      show Steps p.tables e below (s₁.setTop (mkF m 44 #[.val (.long i0), .second, .val (.long i1), .second, .val (.long i2), .second, .val (.long i3), .second, .val (.int i4), .val (.int i5), .val (.int (Int32.ofNat dn)), .val (.int (Int32.ofNat fr)), .val (.int (Int32.ofNat ot)), .unset, .unset, .unset, .unset, .unset, .unset, .unset, .unset, .unset] [(.int (0 : Int32))])) _
      refine XS.istore X0.here hx rfl (hb hby at_44) rfl (l' := #[.val (.long i0), .second, .val (.long i1), .second, .val (.long i2), .second, .val (.long i3), .second, .val (.int i4), .val (.int i5), .val (.int (Int32.ofNat dn)), .val (.int (Int32.ofNat fr)), .val (.int (Int32.ofNat ot)), .val (.int (0 : Int32)), .unset, .unset, .unset, .unset, .unset, .unset, .unset, .unset]) rfl ?_
      exact kt
    · refine ⟨(1 : Int32), fun t kt => ?_⟩
      refine XS.ifNo X0.here hx rfl (hb hby at_36) rfl ((if0 _ _).trans (feq (c36 : ¬ ((((i4.toUInt32 >>> ((2 : Int32) &&& 31).toUInt32).toInt32) &&& (1 : Int32)) = (0 : Int32)))).1) ?_
      show Steps p.tables e below (s₁.setTop (mkF m 39 #[.val (.long i0), .second, .val (.long i1), .second, .val (.long i2), .second, .val (.long i3), .second, .val (.int i4), .val (.int i5), .val (.int (Int32.ofNat dn)), .val (.int (Int32.ofNat fr)), .val (.int (Int32.ofNat ot)), .unset, .unset, .unset, .unset, .unset, .unset, .unset, .unset, .unset] [])) _
      refine XS.iconst X0.here hx rfl (hb hby at_39) ?_
      show Steps p.tables e below (s₁.setTop (mkF m 40 #[.val (.long i0), .second, .val (.long i1), .second, .val (.long i2), .second, .val (.long i3), .second, .val (.int i4), .val (.int i5), .val (.int (Int32.ofNat dn)), .val (.int (Int32.ofNat fr)), .val (.int (Int32.ofNat ot)), .unset, .unset, .unset, .unset, .unset, .unset, .unset, .unset, .unset] [(.int (1 : Int32))])) _
      refine XS.goto X0.here hx rfl (pc0 := 40) (pc' := 44) rfl (hb hby at_40) (by decide) (by decide) ?_
      show Steps p.tables e below (s₁.setTop (mkF m 44 #[.val (.long i0), .second, .val (.long i1), .second, .val (.long i2), .second, .val (.long i3), .second, .val (.int i4), .val (.int i5), .val (.int (Int32.ofNat dn)), .val (.int (Int32.ofNat fr)), .val (.int (Int32.ofNat ot)), .unset, .unset, .unset, .unset, .unset, .unset, .unset, .unset, .unset] [(.int (1 : Int32))])) _
      refine XS.istore X0.here hx rfl (hb hby at_44) rfl (l' := #[.val (.long i0), .second, .val (.long i1), .second, .val (.long i2), .second, .val (.long i3), .second, .val (.int i4), .val (.int i5), .val (.int (Int32.ofNat dn)), .val (.int (Int32.ofNat fr)), .val (.int (Int32.ofNat ot)), .val (.int (1 : Int32)), .unset, .unset, .unset, .unset, .unset, .unset, .unset, .unset]) rfl ?_
      exact kt
  have sg2 : ∀ t, Steps p.tables e below (s₁.setTop (mkF m 47 #[.val (.long i0), .second, .val (.long i1), .second, .val (.long i2), .second, .val (.long i3), .second, .val (.int i4), .val (.int i5), .val (.int (Int32.ofNat dn)), .val (.int (Int32.ofNat fr)), .val (.int (Int32.ofNat ot)), .val (.int sf), .unset, .unset, .unset, .unset, .unset, .unset, .unset, .unset] [(.int (4 : Int32))])) t → Steps p.tables e below (s₁.setTop (mkF m 46 #[.val (.long i0), .second, .val (.long i1), .second, .val (.long i2), .second, .val (.long i3), .second, .val (.int i4), .val (.int i5), .val (.int (Int32.ofNat dn)), .val (.int (Int32.ofNat fr)), .val (.int (Int32.ofNat ot)), .val (.int sf), .unset, .unset, .unset, .unset, .unset, .unset, .unset, .unset] [])) t := by
    intro t kt
    refine XS.iconst X0.here hx rfl (hb hby at_46) ?_
    exact kt
  obtain ⟨T3, h3, k3, X3, e3, E3, A3, st3⟩ := newP X0 hx hZ (hw _ (List.mem_of_getElem? (i := 1) rfl)) e0 (g := (mkF m 47 #[.val (.long i0), .second, .val (.long i1), .second, .val (.long i2), .second, .val (.long i3), .second, .val (.int i4), .val (.int i5), .val (.int (Int32.ofNat dn)), .val (.int (Int32.ofNat fr)), .val (.int (Int32.ofNat ot)), .val (.int sf), .unset, .unset, .unset, .unset, .unset, .unset, .unset, .unset] [(.int (4 : Int32))])) rfl (hb hby at_47) rfl (by decide) (cap := 4) (by decide) (by decide) (by decide) (by decide)
  obtain ⟨b4, g3⟩ : ∃ z, z = h0.size := ⟨_, rfl⟩
  rw [← g3] at A3 st3
  have g_b4 : n0 ≤ b4 := Nat.le_trans Z0 (Nat.le_of_eq g3.symm)
  have Zs5 : n0 ≤ h3.size := Nat.le_trans Z0 E3.1
  have f6 : Arv Z h3 b4 k3 .int (4 : Int32) [(.int (0 : Int32)), (.int (0 : Int32)), (.int (0 : Int32)), (.int (0 : Int32))] (.int (0 : Int32)) := (Arv.new A3 (by decide)).pad (pad_rep [] (.int (0 : Int32)) 4)
  have sg7 : ∀ t, Steps p.tables e below (T3.setTop (mkF m 52 #[.val (.long i0), .second, .val (.long i1), .second, .val (.long i2), .second, .val (.long i3), .second, .val (.int i4), .val (.int i5), .val (.int (Int32.ofNat dn)), .val (.int (Int32.ofNat fr)), .val (.int (Int32.ofNat ot)), .val (.int sf), .unset, .unset, .unset, .unset, .unset, .unset, .unset, .unset] [(.long i0), (.int (0 : Int32)), (.ref b4), (.ref b4)])) t → Steps p.tables e below (T3.setTop (mkF m 49 #[.val (.long i0), .second, .val (.long i1), .second, .val (.long i2), .second, .val (.long i3), .second, .val (.int i4), .val (.int i5), .val (.int (Int32.ofNat dn)), .val (.int (Int32.ofNat fr)), .val (.int (Int32.ofNat ot)), .val (.int sf), .unset, .unset, .unset, .unset, .unset, .unset, .unset, .unset] [(.ref b4)])) t := by
    intro t kt
    refine XS.dup X3.here hx rfl (hb hby at_49) rfl rfl ?_
    show Steps p.tables e below (T3.setTop (mkF m 50 #[.val (.long i0), .second, .val (.long i1), .second, .val (.long i2), .second, .val (.long i3), .second, .val (.int i4), .val (.int i5), .val (.int (Int32.ofNat dn)), .val (.int (Int32.ofNat fr)), .val (.int (Int32.ofNat ot)), .val (.int sf), .unset, .unset, .unset, .unset, .unset, .unset, .unset, .unset] [(.ref b4), (.ref b4)])) _
    refine XS.iconst X3.here hx rfl (hb hby at_50) ?_
    show Steps p.tables e below (T3.setTop (mkF m 51 #[.val (.long i0), .second, .val (.long i1), .second, .val (.long i2), .second, .val (.long i3), .second, .val (.int i4), .val (.int i5), .val (.int (Int32.ofNat dn)), .val (.int (Int32.ofNat fr)), .val (.int (Int32.ofNat ot)), .val (.int sf), .unset, .unset, .unset, .unset, .unset, .unset, .unset, .unset] [(.int (0 : Int32)), (.ref b4), (.ref b4)])) _
    refine XS.lloadN X3.here hx rfl (hb hby at_51) rfl ?_
    exact kt
  obtain ⟨_, _, ⟨T8, L8, k8, n8⟩, -, X8, ⟨Lc8, hQ8, l8, y8, z8⟩, st8⟩ := Jvm.LawKit.callS X3 hx (y := (⟨"com/example/cairnwise/cairnwise/model/PointsSquaredDistancePinLaw", "lo", "(J)I"⟩ : MethodName)) hown (mvT hZ (hw _ (List.mem_of_getElem? (i := 2) rfl))) (mvT hZ (hw _ (List.mem_of_getElem? (i := 3) rfl))) (mvT hZ (hw _ (List.mem_of_getElem? (i := 4) rfl))) (mvT hZ (hw _ (List.mem_of_getElem? (i := 5) rfl))) (by decide) (backOf (W := 3) (rm1 l Z a0 hw [] i0 h3 n0 Zs5 ) hZ (hw _ (List.mem_of_getElem? (i := 5) rfl)) (hw _ (List.mem_of_getElem? (i := 4) rfl)) (by decide) (by decide)) (g := (mkF m 52 #[.val (.long i0), .second, .val (.long i1), .second, .val (.long i2), .second, .val (.long i3), .second, .val (.int i4), .val (.int i5), .val (.int (Int32.ofNat dn)), .val (.int (Int32.ofNat fr)), .val (.int (Int32.ofNat ot)), .val (.int sf), .unset, .unset, .unset, .unset, .unset, .unset, .unset, .unset] [(.long i0), (.int (0 : Int32)), (.ref b4), (.ref b4)])) rfl (by rw [hml]; rfl) (argsL := [(.long i0)]) (rest := [(.int (0 : Int32)), (.ref b4), (.ref b4)]) (lenOf pd_1 rfl) rfl (by show 2 * 0 + _ ≤ _; exact Nat.le_of_eq rfl) (hb hby at_52) (fun _ _ => ⟨rfl, e3, (by decide : 1 + 0 ≤ _), (by decide : 4 + 0 ≤ _)⟩)
  dsimp only [Pt.U, Pt.locs, Pt.cells, Pt.slots] at X8 l8 y8 z8 st8 hQ8
  subst l8 y8 z8
  obtain ⟨rfl, Nq8, eq8⟩ := hQ8
  have N8 := Fr.app N0 Nq8
  obtain ⟨clu9, Aru9, qu9, Su9, Ngu9, Hu9, Gu9⟩ := id f6
  have hinu9 : ¬ ((0 : Int32) < 0 ∨ clu9.slots.size ≤ ((0 : Int32)).toNatClampNeg) := inb_of Su9 ⟨by decide, by decide⟩
  obtain ⟨T10, h10, X10, e10, W10, st10⟩ := stI X8 hx hZ eq8 Aru9 (j := (0 : Int32)) hinu9 (g := (mkF m 55 #[.val (.long i0), .second, .val (.long i1), .second, .val (.long i2), .second, .val (.long i3), .second, .val (.int i4), .val (.int i5), .val (.int (Int32.ofNat dn)), .val (.int (Int32.ofNat fr)), .val (.int (Int32.ofNat ot)), .val (.int sf), .unset, .unset, .unset, .unset, .unset, .unset, .unset, .unset] [(.int (own_lo i0)), (.int (0 : Int32)), (.ref b4), (.ref b4)])) rfl rfl (hb hby at_55)
  have f11 := Arv.set Aru9 qu9 Su9 Ngu9 Hu9 Gu9 rfl W10 0 rfl (Nat.le_of_ble_eq_true rfl)
  have Zs12 : n0 ≤ h10.size := by rw [W10.size]; exact Zs5
  have N10 := Fr.snoc X10 N8 g_b4
  have sg13 : ∀ t, Steps p.tables e below (T10.setTop (mkF m 59 #[.val (.long i0), .second, .val (.long i1), .second, .val (.long i2), .second, .val (.long i3), .second, .val (.int i4), .val (.int i5), .val (.int (Int32.ofNat dn)), .val (.int (Int32.ofNat fr)), .val (.int (Int32.ofNat ot)), .val (.int sf), .unset, .unset, .unset, .unset, .unset, .unset, .unset, .unset] [(.long i0), (.int (1 : Int32)), (.ref b4), (.ref b4)])) t → Steps p.tables e below (T10.setTop (mkF m 56 #[.val (.long i0), .second, .val (.long i1), .second, .val (.long i2), .second, .val (.long i3), .second, .val (.int i4), .val (.int i5), .val (.int (Int32.ofNat dn)), .val (.int (Int32.ofNat fr)), .val (.int (Int32.ofNat ot)), .val (.int sf), .unset, .unset, .unset, .unset, .unset, .unset, .unset, .unset] [(.ref b4)])) t := by
    intro t kt
    refine XS.dup X10.here hx rfl (hb hby at_56) rfl rfl ?_
    show Steps p.tables e below (T10.setTop (mkF m 57 #[.val (.long i0), .second, .val (.long i1), .second, .val (.long i2), .second, .val (.long i3), .second, .val (.int i4), .val (.int i5), .val (.int (Int32.ofNat dn)), .val (.int (Int32.ofNat fr)), .val (.int (Int32.ofNat ot)), .val (.int sf), .unset, .unset, .unset, .unset, .unset, .unset, .unset, .unset] [(.ref b4), (.ref b4)])) _
    refine XS.iconst X10.here hx rfl (hb hby at_57) ?_
    show Steps p.tables e below (T10.setTop (mkF m 58 #[.val (.long i0), .second, .val (.long i1), .second, .val (.long i2), .second, .val (.long i3), .second, .val (.int i4), .val (.int i5), .val (.int (Int32.ofNat dn)), .val (.int (Int32.ofNat fr)), .val (.int (Int32.ofNat ot)), .val (.int sf), .unset, .unset, .unset, .unset, .unset, .unset, .unset, .unset] [(.int (1 : Int32)), (.ref b4), (.ref b4)])) _
    refine XS.lloadN X10.here hx rfl (hb hby at_58) rfl ?_
    exact kt
  obtain ⟨_, _, ⟨T14, L14, k14, n14⟩, -, X14, ⟨Lc14, hQ14, l14, y14, z14⟩, st14⟩ := Jvm.LawKit.callS X10 hx (y := (⟨"com/example/cairnwise/cairnwise/model/PointsSquaredDistancePinLaw", "hi", "(J)I"⟩ : MethodName)) hown (mvT hZ (hw _ (List.mem_of_getElem? (i := 6) rfl))) (mvT hZ (hw _ (List.mem_of_getElem? (i := 7) rfl))) (mvT hZ (hw _ (List.mem_of_getElem? (i := 4) rfl))) (mvT hZ (hw _ (List.mem_of_getElem? (i := 8) rfl))) (by decide) (backOf (W := 3) (rm2 l Z a0 hw [] i0 h10 n0 Zs12 ) hZ (hw _ (List.mem_of_getElem? (i := 8) rfl)) (hw _ (List.mem_of_getElem? (i := 4) rfl)) (by decide) (by decide)) (g := (mkF m 59 #[.val (.long i0), .second, .val (.long i1), .second, .val (.long i2), .second, .val (.long i3), .second, .val (.int i4), .val (.int i5), .val (.int (Int32.ofNat dn)), .val (.int (Int32.ofNat fr)), .val (.int (Int32.ofNat ot)), .val (.int sf), .unset, .unset, .unset, .unset, .unset, .unset, .unset, .unset] [(.long i0), (.int (1 : Int32)), (.ref b4), (.ref b4)])) rfl (by rw [hml]; rfl) (argsL := [(.long i0)]) (rest := [(.int (1 : Int32)), (.ref b4), (.ref b4)]) (lenOf pd_1 rfl) rfl (by show 2 * 0 + _ ≤ _; exact Nat.le_of_eq rfl) (hb hby at_59) (fun _ _ => ⟨rfl, e10, (by decide : 1 + 0 ≤ _), (by decide : 4 + 0 ≤ _)⟩)
  dsimp only [Pt.U, Pt.locs, Pt.cells, Pt.slots] at X14 l14 y14 z14 st14 hQ14
  subst l14 y14 z14
  obtain ⟨rfl, Nq14, eq14⟩ := hQ14
  have N14 := Fr.app N10 Nq14
  obtain ⟨clu15, Aru15, qu15, Su15, Ngu15, Hu15, Gu15⟩ := id f11
  have hinu15 : ¬ ((1 : Int32) < 0 ∨ clu15.slots.size ≤ ((1 : Int32)).toNatClampNeg) := inb_of Su15 ⟨by decide, by decide⟩
  obtain ⟨T16, h16, X16, e16, W16, st16⟩ := stI X14 hx hZ eq14 Aru15 (j := (1 : Int32)) hinu15 (g := (mkF m 62 #[.val (.long i0), .second, .val (.long i1), .second, .val (.long i2), .second, .val (.long i3), .second, .val (.int i4), .val (.int i5), .val (.int (Int32.ofNat dn)), .val (.int (Int32.ofNat fr)), .val (.int (Int32.ofNat ot)), .val (.int sf), .unset, .unset, .unset, .unset, .unset, .unset, .unset, .unset] [(.int (own_hi i0)), (.int (1 : Int32)), (.ref b4), (.ref b4)])) rfl rfl (hb hby at_62)
  have f17 := Arv.set Aru15 qu15 Su15 Ngu15 Hu15 Gu15 rfl W16 1 rfl (Nat.le_of_ble_eq_true rfl)
  have Zs18 : n0 ≤ h16.size := by rw [W16.size]; exact Zs12
  have N16 := Fr.snoc X16 N14 g_b4
  have sg19 : ∀ t, Steps p.tables e below (T16.setTop (mkF m 66 #[.val (.long i0), .second, .val (.long i1), .second, .val (.long i2), .second, .val (.long i3), .second, .val (.int i4), .val (.int i5), .val (.int (Int32.ofNat dn)), .val (.int (Int32.ofNat fr)), .val (.int (Int32.ofNat ot)), .val (.int sf), .unset, .unset, .unset, .unset, .unset, .unset, .unset, .unset] [(.long i1), (.int (2 : Int32)), (.ref b4), (.ref b4)])) t → Steps p.tables e below (T16.setTop (mkF m 63 #[.val (.long i0), .second, .val (.long i1), .second, .val (.long i2), .second, .val (.long i3), .second, .val (.int i4), .val (.int i5), .val (.int (Int32.ofNat dn)), .val (.int (Int32.ofNat fr)), .val (.int (Int32.ofNat ot)), .val (.int sf), .unset, .unset, .unset, .unset, .unset, .unset, .unset, .unset] [(.ref b4)])) t := by
    intro t kt
    refine XS.dup X16.here hx rfl (hb hby at_63) rfl rfl ?_
    show Steps p.tables e below (T16.setTop (mkF m 64 #[.val (.long i0), .second, .val (.long i1), .second, .val (.long i2), .second, .val (.long i3), .second, .val (.int i4), .val (.int i5), .val (.int (Int32.ofNat dn)), .val (.int (Int32.ofNat fr)), .val (.int (Int32.ofNat ot)), .val (.int sf), .unset, .unset, .unset, .unset, .unset, .unset, .unset, .unset] [(.ref b4), (.ref b4)])) _
    refine XS.iconst X16.here hx rfl (hb hby at_64) ?_
    show Steps p.tables e below (T16.setTop (mkF m 65 #[.val (.long i0), .second, .val (.long i1), .second, .val (.long i2), .second, .val (.long i3), .second, .val (.int i4), .val (.int i5), .val (.int (Int32.ofNat dn)), .val (.int (Int32.ofNat fr)), .val (.int (Int32.ofNat ot)), .val (.int sf), .unset, .unset, .unset, .unset, .unset, .unset, .unset, .unset] [(.int (2 : Int32)), (.ref b4), (.ref b4)])) _
    refine XS.lloadN X16.here hx rfl (hb hby at_65) rfl ?_
    exact kt
  obtain ⟨_, _, ⟨T20, L20, k20, n20⟩, -, X20, ⟨Lc20, hQ20, l20, y20, z20⟩, st20⟩ := Jvm.LawKit.callS X16 hx (y := (⟨"com/example/cairnwise/cairnwise/model/PointsSquaredDistancePinLaw", "lo", "(J)I"⟩ : MethodName)) hown (mvT hZ (hw _ (List.mem_of_getElem? (i := 2) rfl))) (mvT hZ (hw _ (List.mem_of_getElem? (i := 3) rfl))) (mvT hZ (hw _ (List.mem_of_getElem? (i := 4) rfl))) (mvT hZ (hw _ (List.mem_of_getElem? (i := 5) rfl))) (by decide) (backOf (W := 3) (rm1 l Z a0 hw [] i1 h16 n0 Zs18 ) hZ (hw _ (List.mem_of_getElem? (i := 5) rfl)) (hw _ (List.mem_of_getElem? (i := 4) rfl)) (by decide) (by decide)) (g := (mkF m 66 #[.val (.long i0), .second, .val (.long i1), .second, .val (.long i2), .second, .val (.long i3), .second, .val (.int i4), .val (.int i5), .val (.int (Int32.ofNat dn)), .val (.int (Int32.ofNat fr)), .val (.int (Int32.ofNat ot)), .val (.int sf), .unset, .unset, .unset, .unset, .unset, .unset, .unset, .unset] [(.long i1), (.int (2 : Int32)), (.ref b4), (.ref b4)])) rfl (by rw [hml]; rfl) (argsL := [(.long i1)]) (rest := [(.int (2 : Int32)), (.ref b4), (.ref b4)]) (lenOf pd_1 rfl) rfl (by show 2 * 0 + _ ≤ _; exact Nat.le_of_eq rfl) (hb hby at_66) (fun _ _ => ⟨rfl, e16, (by decide : 1 + 0 ≤ _), (by decide : 4 + 0 ≤ _)⟩)
  dsimp only [Pt.U, Pt.locs, Pt.cells, Pt.slots] at X20 l20 y20 z20 st20 hQ20
  subst l20 y20 z20
  obtain ⟨rfl, Nq20, eq20⟩ := hQ20
  have N20 := Fr.app N16 Nq20
  obtain ⟨clu21, Aru21, qu21, Su21, Ngu21, Hu21, Gu21⟩ := id f17
  have hinu21 : ¬ ((2 : Int32) < 0 ∨ clu21.slots.size ≤ ((2 : Int32)).toNatClampNeg) := inb_of Su21 ⟨by decide, by decide⟩
  obtain ⟨T22, h22, X22, e22, W22, st22⟩ := stI X20 hx hZ eq20 Aru21 (j := (2 : Int32)) hinu21 (g := (mkF m 69 #[.val (.long i0), .second, .val (.long i1), .second, .val (.long i2), .second, .val (.long i3), .second, .val (.int i4), .val (.int i5), .val (.int (Int32.ofNat dn)), .val (.int (Int32.ofNat fr)), .val (.int (Int32.ofNat ot)), .val (.int sf), .unset, .unset, .unset, .unset, .unset, .unset, .unset, .unset] [(.int (own_lo i1)), (.int (2 : Int32)), (.ref b4), (.ref b4)])) rfl rfl (hb hby at_69)
  have f23 := Arv.set Aru21 qu21 Su21 Ngu21 Hu21 Gu21 rfl W22 2 rfl (Nat.le_of_ble_eq_true rfl)
  have Zs24 : n0 ≤ h22.size := by rw [W22.size]; exact Zs18
  have N22 := Fr.snoc X22 N20 g_b4
  have sg25 : ∀ t, Steps p.tables e below (T22.setTop (mkF m 73 #[.val (.long i0), .second, .val (.long i1), .second, .val (.long i2), .second, .val (.long i3), .second, .val (.int i4), .val (.int i5), .val (.int (Int32.ofNat dn)), .val (.int (Int32.ofNat fr)), .val (.int (Int32.ofNat ot)), .val (.int sf), .unset, .unset, .unset, .unset, .unset, .unset, .unset, .unset] [(.long i1), (.int (3 : Int32)), (.ref b4), (.ref b4)])) t → Steps p.tables e below (T22.setTop (mkF m 70 #[.val (.long i0), .second, .val (.long i1), .second, .val (.long i2), .second, .val (.long i3), .second, .val (.int i4), .val (.int i5), .val (.int (Int32.ofNat dn)), .val (.int (Int32.ofNat fr)), .val (.int (Int32.ofNat ot)), .val (.int sf), .unset, .unset, .unset, .unset, .unset, .unset, .unset, .unset] [(.ref b4)])) t := by
    intro t kt
    refine XS.dup X22.here hx rfl (hb hby at_70) rfl rfl ?_
    show Steps p.tables e below (T22.setTop (mkF m 71 #[.val (.long i0), .second, .val (.long i1), .second, .val (.long i2), .second, .val (.long i3), .second, .val (.int i4), .val (.int i5), .val (.int (Int32.ofNat dn)), .val (.int (Int32.ofNat fr)), .val (.int (Int32.ofNat ot)), .val (.int sf), .unset, .unset, .unset, .unset, .unset, .unset, .unset, .unset] [(.ref b4), (.ref b4)])) _
    refine XS.iconst X22.here hx rfl (hb hby at_71) ?_
    show Steps p.tables e below (T22.setTop (mkF m 72 #[.val (.long i0), .second, .val (.long i1), .second, .val (.long i2), .second, .val (.long i3), .second, .val (.int i4), .val (.int i5), .val (.int (Int32.ofNat dn)), .val (.int (Int32.ofNat fr)), .val (.int (Int32.ofNat ot)), .val (.int sf), .unset, .unset, .unset, .unset, .unset, .unset, .unset, .unset] [(.int (3 : Int32)), (.ref b4), (.ref b4)])) _
    refine XS.lloadN X22.here hx rfl (hb hby at_72) rfl ?_
    exact kt
  obtain ⟨_, _, ⟨T26, L26, k26, n26⟩, -, X26, ⟨Lc26, hQ26, l26, y26, z26⟩, st26⟩ := Jvm.LawKit.callS X22 hx (y := (⟨"com/example/cairnwise/cairnwise/model/PointsSquaredDistancePinLaw", "hi", "(J)I"⟩ : MethodName)) hown (mvT hZ (hw _ (List.mem_of_getElem? (i := 6) rfl))) (mvT hZ (hw _ (List.mem_of_getElem? (i := 7) rfl))) (mvT hZ (hw _ (List.mem_of_getElem? (i := 4) rfl))) (mvT hZ (hw _ (List.mem_of_getElem? (i := 8) rfl))) (by decide) (backOf (W := 3) (rm2 l Z a0 hw [] i1 h22 n0 Zs24 ) hZ (hw _ (List.mem_of_getElem? (i := 8) rfl)) (hw _ (List.mem_of_getElem? (i := 4) rfl)) (by decide) (by decide)) (g := (mkF m 73 #[.val (.long i0), .second, .val (.long i1), .second, .val (.long i2), .second, .val (.long i3), .second, .val (.int i4), .val (.int i5), .val (.int (Int32.ofNat dn)), .val (.int (Int32.ofNat fr)), .val (.int (Int32.ofNat ot)), .val (.int sf), .unset, .unset, .unset, .unset, .unset, .unset, .unset, .unset] [(.long i1), (.int (3 : Int32)), (.ref b4), (.ref b4)])) rfl (by rw [hml]; rfl) (argsL := [(.long i1)]) (rest := [(.int (3 : Int32)), (.ref b4), (.ref b4)]) (lenOf pd_1 rfl) rfl (by show 2 * 0 + _ ≤ _; exact Nat.le_of_eq rfl) (hb hby at_73) (fun _ _ => ⟨rfl, e22, (by decide : 1 + 0 ≤ _), (by decide : 4 + 0 ≤ _)⟩)
  dsimp only [Pt.U, Pt.locs, Pt.cells, Pt.slots] at X26 l26 y26 z26 st26 hQ26
  subst l26 y26 z26
  obtain ⟨rfl, Nq26, eq26⟩ := hQ26
  have N26 := Fr.app N22 Nq26
  obtain ⟨clu27, Aru27, qu27, Su27, Ngu27, Hu27, Gu27⟩ := id f23
  have hinu27 : ¬ ((3 : Int32) < 0 ∨ clu27.slots.size ≤ ((3 : Int32)).toNatClampNeg) := inb_of Su27 ⟨by decide, by decide⟩
  obtain ⟨T28, h28, X28, e28, W28, st28⟩ := stI X26 hx hZ eq26 Aru27 (j := (3 : Int32)) hinu27 (g := (mkF m 76 #[.val (.long i0), .second, .val (.long i1), .second, .val (.long i2), .second, .val (.long i3), .second, .val (.int i4), .val (.int i5), .val (.int (Int32.ofNat dn)), .val (.int (Int32.ofNat fr)), .val (.int (Int32.ofNat ot)), .val (.int sf), .unset, .unset, .unset, .unset, .unset, .unset, .unset, .unset] [(.int (own_hi i1)), (.int (3 : Int32)), (.ref b4), (.ref b4)])) rfl rfl (hb hby at_76)
  have f29 := Arv.set Aru27 qu27 Su27 Ngu27 Hu27 Gu27 rfl W28 3 rfl (Nat.le_of_ble_eq_true rfl)
  have Zs30 : n0 ≤ h28.size := by rw [W28.size]; exact Zs24
  have N28 := Fr.snoc X28 N26 g_b4
  have sg31 : ∀ t, Steps p.tables e below (T28.setTop (mkF m 80 #[.val (.long i0), .second, .val (.long i1), .second, .val (.long i2), .second, .val (.long i3), .second, .val (.int i4), .val (.int i5), .val (.int (Int32.ofNat dn)), .val (.int (Int32.ofNat fr)), .val (.int (Int32.ofNat ot)), .val (.int sf), .val (.ref b4), .unset, .unset, .unset, .unset, .unset, .unset, .unset] [(.int (4 : Int32))])) t → Steps p.tables e below (T28.setTop (mkF m 77 #[.val (.long i0), .second, .val (.long i1), .second, .val (.long i2), .second, .val (.long i3), .second, .val (.int i4), .val (.int i5), .val (.int (Int32.ofNat dn)), .val (.int (Int32.ofNat fr)), .val (.int (Int32.ofNat ot)), .val (.int sf), .unset, .unset, .unset, .unset, .unset, .unset, .unset, .unset] [(.ref b4)])) t := by
    intro t kt
    refine XS.astore X28.here hx rfl (hb hby at_77) rfl rfl (l' := #[.val (.long i0), .second, .val (.long i1), .second, .val (.long i2), .second, .val (.long i3), .second, .val (.int i4), .val (.int i5), .val (.int (Int32.ofNat dn)), .val (.int (Int32.ofNat fr)), .val (.int (Int32.ofNat ot)), .val (.int sf), .val (.ref b4), .unset, .unset, .unset, .unset, .unset, .unset, .unset]) rfl ?_
    show Steps p.tables e below (T28.setTop (mkF m 79 #[.val (.long i0), .second, .val (.long i1), .second, .val (.long i2), .second, .val (.long i3), .second, .val (.int i4), .val (.int i5), .val (.int (Int32.ofNat dn)), .val (.int (Int32.ofNat fr)), .val (.int (Int32.ofNat ot)), .val (.int sf), .val (.ref b4), .unset, .unset, .unset, .unset, .unset, .unset, .unset] [])) _
    refine XS.iconst X28.here hx rfl (hb hby at_79) ?_
    exact kt
  obtain ⟨T32, h32, k32, X32, e32, E32, A32, st32⟩ := newP X28 hx hZ (hw _ (List.mem_of_getElem? (i := 9) rfl)) e28 (g := (mkF m 80 #[.val (.long i0), .second, .val (.long i1), .second, .val (.long i2), .second, .val (.long i3), .second, .val (.int i4), .val (.int i5), .val (.int (Int32.ofNat dn)), .val (.int (Int32.ofNat fr)), .val (.int (Int32.ofNat ot)), .val (.int sf), .val (.ref b4), .unset, .unset, .unset, .unset, .unset, .unset, .unset] [(.int (4 : Int32))])) rfl (hb hby at_80) rfl (by decide) (cap := 4) (by decide) (by decide) (by decide) (by decide)
  obtain ⟨b33, g32⟩ : ∃ z, z = h28.size := ⟨_, rfl⟩
  rw [← g32] at A32 st32
  have g_b33 : n0 ≤ b33 := Nat.le_trans Zs30 (Nat.le_of_eq g32.symm)
  have ne_b4_b33 : b4 ≠ b33 := Nat.ne_of_lt (Nat.lt_of_lt_of_le f29.lt (Nat.le_of_eq g32.symm))
  have f34 := (f29.ext E32)
  have Zs35 : n0 ≤ h32.size := Nat.le_trans Zs30 E32.1
  have f36 : Arv Z h32 b33 k32 .double (4 : Int32) [(.double (0 : UInt64)), (.double (0 : UInt64)), (.double (0 : UInt64)), (.double (0 : UInt64))] (.double (0 : UInt64)) := (Arv.new A32 (by decide)).pad (pad_rep [] (.double (0 : UInt64)) 4)
  obtain ⟨clv37, Arv37, -, Sv37, -, Hv37, -⟩ := id f34
  have sg38 : ∀ t, Steps p.tables e below (T32.setTop (mkF m 89 #[.val (.long i0), .second, .val (.long i1), .second, .val (.long i2), .second, .val (.long i3), .second, .val (.int i4), .val (.int i5), .val (.int (Int32.ofNat dn)), .val (.int (Int32.ofNat fr)), .val (.int (Int32.ofNat ot)), .val (.int sf), .val (.ref b4), .unset, .unset, .unset, .unset, .unset, .unset, .unset] [(.double (FP.i2d (own_lo i0))), (.int (0 : Int32)), (.ref b33), (.ref b33)])) t → Steps p.tables e below (T32.setTop (mkF m 82 #[.val (.long i0), .second, .val (.long i1), .second, .val (.long i2), .second, .val (.long i3), .second, .val (.int i4), .val (.int i5), .val (.int (Int32.ofNat dn)), .val (.int (Int32.ofNat fr)), .val (.int (Int32.ofNat ot)), .val (.int sf), .val (.ref b4), .unset, .unset, .unset, .unset, .unset, .unset, .unset] [(.ref b33)])) t := by
    intro t kt
    refine XS.dup X32.here hx rfl (hb hby at_82) rfl rfl ?_
    show Steps p.tables e below (T32.setTop (mkF m 83 #[.val (.long i0), .second, .val (.long i1), .second, .val (.long i2), .second, .val (.long i3), .second, .val (.int i4), .val (.int i5), .val (.int (Int32.ofNat dn)), .val (.int (Int32.ofNat fr)), .val (.int (Int32.ofNat ot)), .val (.int sf), .val (.ref b4), .unset, .unset, .unset, .unset, .unset, .unset, .unset] [(.ref b33), (.ref b33)])) _
    refine XS.iconst X32.here hx rfl (hb hby at_83) ?_
    show Steps p.tables e below (T32.setTop (mkF m 84 #[.val (.long i0), .second, .val (.long i1), .second, .val (.long i2), .second, .val (.long i3), .second, .val (.int i4), .val (.int i5), .val (.int (Int32.ofNat dn)), .val (.int (Int32.ofNat fr)), .val (.int (Int32.ofNat ot)), .val (.int sf), .val (.ref b4), .unset, .unset, .unset, .unset, .unset, .unset, .unset] [(.int (0 : Int32)), (.ref b33), (.ref b33)])) _
    refine XS.aload X32.here hx rfl (hb hby at_84) rfl rfl ?_
    show Steps p.tables e below (T32.setTop (mkF m 86 #[.val (.long i0), .second, .val (.long i1), .second, .val (.long i2), .second, .val (.long i3), .second, .val (.int i4), .val (.int i5), .val (.int (Int32.ofNat dn)), .val (.int (Int32.ofNat fr)), .val (.int (Int32.ofNat ot)), .val (.int sf), .val (.ref b4), .unset, .unset, .unset, .unset, .unset, .unset, .unset] [(.ref b4), (.int (0 : Int32)), (.ref b33), (.ref b33)])) _
    refine XS.iconst X32.here hx rfl (hb hby at_86) ?_
    show Steps p.tables e below (T32.setTop (mkF m 87 #[.val (.long i0), .second, .val (.long i1), .second, .val (.long i2), .second, .val (.long i3), .second, .val (.int i4), .val (.int i5), .val (.int (Int32.ofNat dn)), .val (.int (Int32.ofNat fr)), .val (.int (Int32.ofNat ot)), .val (.int sf), .val (.ref b4), .unset, .unset, .unset, .unset, .unset, .unset, .unset] [(.int (0 : Int32)), (.ref b4), (.int (0 : Int32)), (.ref b33), (.ref b33)])) _
    refine X32.iaload hx (j := (0 : Int32)) (v := (.int (own_lo i0))) (by rw [e32]; exact Arv37.1) (State.isArrayOf_alike hZ.alike Arv37.2.1) Arv37.2.2 (inb_of Sv37 ⟨by decide, by decide⟩) (Hv37 0 (by rw [Sv37]; decide)) (g := (mkF m 87 #[.val (.long i0), .second, .val (.long i1), .second, .val (.long i2), .second, .val (.long i3), .second, .val (.int i4), .val (.int i5), .val (.int (Int32.ofNat dn)), .val (.int (Int32.ofNat fr)), .val (.int (Int32.ofNat ot)), .val (.int sf), .val (.ref b4), .unset, .unset, .unset, .unset, .unset, .unset, .unset] [(.int (0 : Int32)), (.ref b4), (.int (0 : Int32)), (.ref b33), (.ref b33)])) rfl rfl (hb hby at_87) _ ?_
    show Steps p.tables e below (T32.setTop (mkF m 88 #[.val (.long i0), .second, .val (.long i1), .second, .val (.long i2), .second, .val (.long i3), .second, .val (.int i4), .val (.int i5), .val (.int (Int32.ofNat dn)), .val (.int (Int32.ofNat fr)), .val (.int (Int32.ofNat ot)), .val (.int sf), .val (.ref b4), .unset, .unset, .unset, .unset, .unset, .unset, .unset] [(.int (own_lo i0)), (.int (0 : Int32)), (.ref b33), (.ref b33)])) _
    refine XS.i2dS X32.here hx rfl (hb hby at_88) rfl (v := (FP.i2d (own_lo i0))) rfl ?_
    exact kt
  obtain ⟨clu39, Aru39, qu39, Su39, Ngu39, Hu39, Gu39⟩ := id f36
  have hinu39 : ¬ ((0 : Int32) < 0 ∨ clu39.slots.size ≤ ((0 : Int32)).toNatClampNeg) := inb_of Su39 ⟨by decide, by decide⟩
  obtain ⟨T40, h40, X40, e40, W40, st40⟩ := stD X32 hx hZ e32 Aru39 (j := (0 : Int32)) hinu39 (g := (mkF m 89 #[.val (.long i0), .second, .val (.long i1), .second, .val (.long i2), .second, .val (.long i3), .second, .val (.int i4), .val (.int i5), .val (.int (Int32.ofNat dn)), .val (.int (Int32.ofNat fr)), .val (.int (Int32.ofNat ot)), .val (.int sf), .val (.ref b4), .unset, .unset, .unset, .unset, .unset, .unset, .unset] [(.double (FP.i2d (own_lo i0))), (.int (0 : Int32)), (.ref b33), (.ref b33)])) rfl rfl (hb hby at_89)
  have f41 := Arv.set Aru39 qu39 Su39 Ngu39 Hu39 Gu39 rfl W40 0 rfl (Nat.le_of_ble_eq_true rfl)
  have f42 := (f34.other W40 ne_b4_b33)
  have Zs43 : n0 ≤ h40.size := by rw [W40.size]; exact Zs35
  have N40 := Fr.snoc X40 N28 g_b33
  obtain ⟨clv44, Arv44, -, Sv44, -, Hv44, -⟩ := id f42
  have sg45 : ∀ t, Steps p.tables e below (T40.setTop (mkF m 97 #[.val (.long i0), .second, .val (.long i1), .second, .val (.long i2), .second, .val (.long i3), .second, .val (.int i4), .val (.int i5), .val (.int (Int32.ofNat dn)), .val (.int (Int32.ofNat fr)), .val (.int (Int32.ofNat ot)), .val (.int sf), .val (.ref b4), .unset, .unset, .unset, .unset, .unset, .unset, .unset] [(.double (FP.i2d (own_hi i0))), (.int (1 : Int32)), (.ref b33), (.ref b33)])) t → Steps p.tables e below (T40.setTop (mkF m 90 #[.val (.long i0), .second, .val (.long i1), .second, .val (.long i2), .second, .val (.long i3), .second, .val (.int i4), .val (.int i5), .val (.int (Int32.ofNat dn)), .val (.int (Int32.ofNat fr)), .val (.int (Int32.ofNat ot)), .val (.int sf), .val (.ref b4), .unset, .unset, .unset, .unset, .unset, .unset, .unset] [(.ref b33)])) t := by
    intro t kt
    refine XS.dup X40.here hx rfl (hb hby at_90) rfl rfl ?_
    show Steps p.tables e below (T40.setTop (mkF m 91 #[.val (.long i0), .second, .val (.long i1), .second, .val (.long i2), .second, .val (.long i3), .second, .val (.int i4), .val (.int i5), .val (.int (Int32.ofNat dn)), .val (.int (Int32.ofNat fr)), .val (.int (Int32.ofNat ot)), .val (.int sf), .val (.ref b4), .unset, .unset, .unset, .unset, .unset, .unset, .unset] [(.ref b33), (.ref b33)])) _
    refine XS.iconst X40.here hx rfl (hb hby at_91) ?_
    show Steps p.tables e below (T40.setTop (mkF m 92 #[.val (.long i0), .second, .val (.long i1), .second, .val (.long i2), .second, .val (.long i3), .second, .val (.int i4), .val (.int i5), .val (.int (Int32.ofNat dn)), .val (.int (Int32.ofNat fr)), .val (.int (Int32.ofNat ot)), .val (.int sf), .val (.ref b4), .unset, .unset, .unset, .unset, .unset, .unset, .unset] [(.int (1 : Int32)), (.ref b33), (.ref b33)])) _
    refine XS.aload X40.here hx rfl (hb hby at_92) rfl rfl ?_
    show Steps p.tables e below (T40.setTop (mkF m 94 #[.val (.long i0), .second, .val (.long i1), .second, .val (.long i2), .second, .val (.long i3), .second, .val (.int i4), .val (.int i5), .val (.int (Int32.ofNat dn)), .val (.int (Int32.ofNat fr)), .val (.int (Int32.ofNat ot)), .val (.int sf), .val (.ref b4), .unset, .unset, .unset, .unset, .unset, .unset, .unset] [(.ref b4), (.int (1 : Int32)), (.ref b33), (.ref b33)])) _
    refine XS.iconst X40.here hx rfl (hb hby at_94) ?_
    show Steps p.tables e below (T40.setTop (mkF m 95 #[.val (.long i0), .second, .val (.long i1), .second, .val (.long i2), .second, .val (.long i3), .second, .val (.int i4), .val (.int i5), .val (.int (Int32.ofNat dn)), .val (.int (Int32.ofNat fr)), .val (.int (Int32.ofNat ot)), .val (.int sf), .val (.ref b4), .unset, .unset, .unset, .unset, .unset, .unset, .unset] [(.int (1 : Int32)), (.ref b4), (.int (1 : Int32)), (.ref b33), (.ref b33)])) _
    refine X40.iaload hx (j := (1 : Int32)) (v := (.int (own_hi i0))) (by rw [e40]; exact Arv44.1) (State.isArrayOf_alike hZ.alike Arv44.2.1) Arv44.2.2 (inb_of Sv44 ⟨by decide, by decide⟩) (Hv44 1 (by rw [Sv44]; decide)) (g := (mkF m 95 #[.val (.long i0), .second, .val (.long i1), .second, .val (.long i2), .second, .val (.long i3), .second, .val (.int i4), .val (.int i5), .val (.int (Int32.ofNat dn)), .val (.int (Int32.ofNat fr)), .val (.int (Int32.ofNat ot)), .val (.int sf), .val (.ref b4), .unset, .unset, .unset, .unset, .unset, .unset, .unset] [(.int (1 : Int32)), (.ref b4), (.int (1 : Int32)), (.ref b33), (.ref b33)])) rfl rfl (hb hby at_95) _ ?_
    show Steps p.tables e below (T40.setTop (mkF m 96 #[.val (.long i0), .second, .val (.long i1), .second, .val (.long i2), .second, .val (.long i3), .second, .val (.int i4), .val (.int i5), .val (.int (Int32.ofNat dn)), .val (.int (Int32.ofNat fr)), .val (.int (Int32.ofNat ot)), .val (.int sf), .val (.ref b4), .unset, .unset, .unset, .unset, .unset, .unset, .unset] [(.int (own_hi i0)), (.int (1 : Int32)), (.ref b33), (.ref b33)])) _
    refine XS.i2dS X40.here hx rfl (hb hby at_96) rfl (v := (FP.i2d (own_hi i0))) rfl ?_
    exact kt
  obtain ⟨clu46, Aru46, qu46, Su46, Ngu46, Hu46, Gu46⟩ := id f41
  have hinu46 : ¬ ((1 : Int32) < 0 ∨ clu46.slots.size ≤ ((1 : Int32)).toNatClampNeg) := inb_of Su46 ⟨by decide, by decide⟩
  obtain ⟨T47, h47, X47, e47, W47, st47⟩ := stD X40 hx hZ e40 Aru46 (j := (1 : Int32)) hinu46 (g := (mkF m 97 #[.val (.long i0), .second, .val (.long i1), .second, .val (.long i2), .second, .val (.long i3), .second, .val (.int i4), .val (.int i5), .val (.int (Int32.ofNat dn)), .val (.int (Int32.ofNat fr)), .val (.int (Int32.ofNat ot)), .val (.int sf), .val (.ref b4), .unset, .unset, .unset, .unset, .unset, .unset, .unset] [(.double (FP.i2d (own_hi i0))), (.int (1 : Int32)), (.ref b33), (.ref b33)])) rfl rfl (hb hby at_97)
  have f48 := Arv.set Aru46 qu46 Su46 Ngu46 Hu46 Gu46 rfl W47 1 rfl (Nat.le_of_ble_eq_true rfl)
  have f49 := (f42.other W47 ne_b4_b33)
  have Zs50 : n0 ≤ h47.size := by rw [W47.size]; exact Zs43
  have N47 := Fr.snoc X47 N40 g_b33
  obtain ⟨clv51, Arv51, -, Sv51, -, Hv51, -⟩ := id f49
  have sg52 : ∀ t, Steps p.tables e below (T47.setTop (mkF m 105 #[.val (.long i0), .second, .val (.long i1), .second, .val (.long i2), .second, .val (.long i3), .second, .val (.int i4), .val (.int i5), .val (.int (Int32.ofNat dn)), .val (.int (Int32.ofNat fr)), .val (.int (Int32.ofNat ot)), .val (.int sf), .val (.ref b4), .unset, .unset, .unset, .unset, .unset, .unset, .unset] [(.double (FP.i2d (own_lo i1))), (.int (2 : Int32)), (.ref b33), (.ref b33)])) t → Steps p.tables e below (T47.setTop (mkF m 98 #[.val (.long i0), .second, .val (.long i1), .second, .val (.long i2), .second, .val (.long i3), .second, .val (.int i4), .val (.int i5), .val (.int (Int32.ofNat dn)), .val (.int (Int32.ofNat fr)), .val (.int (Int32.ofNat ot)), .val (.int sf), .val (.ref b4), .unset, .unset, .unset, .unset, .unset, .unset, .unset] [(.ref b33)])) t := by
    intro t kt
    refine XS.dup X47.here hx rfl (hb hby at_98) rfl rfl ?_
    show Steps p.tables e below (T47.setTop (mkF m 99 #[.val (.long i0), .second, .val (.long i1), .second, .val (.long i2), .second, .val (.long i3), .second, .val (.int i4), .val (.int i5), .val (.int (Int32.ofNat dn)), .val (.int (Int32.ofNat fr)), .val (.int (Int32.ofNat ot)), .val (.int sf), .val (.ref b4), .unset, .unset, .unset, .unset, .unset, .unset, .unset] [(.ref b33), (.ref b33)])) _
    refine XS.iconst X47.here hx rfl (hb hby at_99) ?_
    show Steps p.tables e below (T47.setTop (mkF m 100 #[.val (.long i0), .second, .val (.long i1), .second, .val (.long i2), .second, .val (.long i3), .second, .val (.int i4), .val (.int i5), .val (.int (Int32.ofNat dn)), .val (.int (Int32.ofNat fr)), .val (.int (Int32.ofNat ot)), .val (.int sf), .val (.ref b4), .unset, .unset, .unset, .unset, .unset, .unset, .unset] [(.int (2 : Int32)), (.ref b33), (.ref b33)])) _
    refine XS.aload X47.here hx rfl (hb hby at_100) rfl rfl ?_
    show Steps p.tables e below (T47.setTop (mkF m 102 #[.val (.long i0), .second, .val (.long i1), .second, .val (.long i2), .second, .val (.long i3), .second, .val (.int i4), .val (.int i5), .val (.int (Int32.ofNat dn)), .val (.int (Int32.ofNat fr)), .val (.int (Int32.ofNat ot)), .val (.int sf), .val (.ref b4), .unset, .unset, .unset, .unset, .unset, .unset, .unset] [(.ref b4), (.int (2 : Int32)), (.ref b33), (.ref b33)])) _
    refine XS.iconst X47.here hx rfl (hb hby at_102) ?_
    show Steps p.tables e below (T47.setTop (mkF m 103 #[.val (.long i0), .second, .val (.long i1), .second, .val (.long i2), .second, .val (.long i3), .second, .val (.int i4), .val (.int i5), .val (.int (Int32.ofNat dn)), .val (.int (Int32.ofNat fr)), .val (.int (Int32.ofNat ot)), .val (.int sf), .val (.ref b4), .unset, .unset, .unset, .unset, .unset, .unset, .unset] [(.int (2 : Int32)), (.ref b4), (.int (2 : Int32)), (.ref b33), (.ref b33)])) _
    refine X47.iaload hx (j := (2 : Int32)) (v := (.int (own_lo i1))) (by rw [e47]; exact Arv51.1) (State.isArrayOf_alike hZ.alike Arv51.2.1) Arv51.2.2 (inb_of Sv51 ⟨by decide, by decide⟩) (Hv51 2 (by rw [Sv51]; decide)) (g := (mkF m 103 #[.val (.long i0), .second, .val (.long i1), .second, .val (.long i2), .second, .val (.long i3), .second, .val (.int i4), .val (.int i5), .val (.int (Int32.ofNat dn)), .val (.int (Int32.ofNat fr)), .val (.int (Int32.ofNat ot)), .val (.int sf), .val (.ref b4), .unset, .unset, .unset, .unset, .unset, .unset, .unset] [(.int (2 : Int32)), (.ref b4), (.int (2 : Int32)), (.ref b33), (.ref b33)])) rfl rfl (hb hby at_103) _ ?_
    show Steps p.tables e below (T47.setTop (mkF m 104 #[.val (.long i0), .second, .val (.long i1), .second, .val (.long i2), .second, .val (.long i3), .second, .val (.int i4), .val (.int i5), .val (.int (Int32.ofNat dn)), .val (.int (Int32.ofNat fr)), .val (.int (Int32.ofNat ot)), .val (.int sf), .val (.ref b4), .unset, .unset, .unset, .unset, .unset, .unset, .unset] [(.int (own_lo i1)), (.int (2 : Int32)), (.ref b33), (.ref b33)])) _
    refine XS.i2dS X47.here hx rfl (hb hby at_104) rfl (v := (FP.i2d (own_lo i1))) rfl ?_
    exact kt
  obtain ⟨clu53, Aru53, qu53, Su53, Ngu53, Hu53, Gu53⟩ := id f48
  have hinu53 : ¬ ((2 : Int32) < 0 ∨ clu53.slots.size ≤ ((2 : Int32)).toNatClampNeg) := inb_of Su53 ⟨by decide, by decide⟩
  obtain ⟨T54, h54, X54, e54, W54, st54⟩ := stD X47 hx hZ e47 Aru53 (j := (2 : Int32)) hinu53 (g := (mkF m 105 #[.val (.long i0), .second, .val (.long i1), .second, .val (.long i2), .second, .val (.long i3), .second, .val (.int i4), .val (.int i5), .val (.int (Int32.ofNat dn)), .val (.int (Int32.ofNat fr)), .val (.int (Int32.ofNat ot)), .val (.int sf), .val (.ref b4), .unset, .unset, .unset, .unset, .unset, .unset, .unset] [(.double (FP.i2d (own_lo i1))), (.int (2 : Int32)), (.ref b33), (.ref b33)])) rfl rfl (hb hby at_105)
  have f55 := Arv.set Aru53 qu53 Su53 Ngu53 Hu53 Gu53 rfl W54 2 rfl (Nat.le_of_ble_eq_true rfl)
  have f56 := (f49.other W54 ne_b4_b33)
  have Zs57 : n0 ≤ h54.size := by rw [W54.size]; exact Zs50
  have N54 := Fr.snoc X54 N47 g_b33
  obtain ⟨clv58, Arv58, -, Sv58, -, Hv58, -⟩ := id f56
  have sg59 : ∀ t, Steps p.tables e below (T54.setTop (mkF m 113 #[.val (.long i0), .second, .val (.long i1), .second, .val (.long i2), .second, .val (.long i3), .second, .val (.int i4), .val (.int i5), .val (.int (Int32.ofNat dn)), .val (.int (Int32.ofNat fr)), .val (.int (Int32.ofNat ot)), .val (.int sf), .val (.ref b4), .unset, .unset, .unset, .unset, .unset, .unset, .unset] [(.double (FP.i2d (own_hi i1))), (.int (3 : Int32)), (.ref b33), (.ref b33)])) t → Steps p.tables e below (T54.setTop (mkF m 106 #[.val (.long i0), .second, .val (.long i1), .second, .val (.long i2), .second, .val (.long i3), .second, .val (.int i4), .val (.int i5), .val (.int (Int32.ofNat dn)), .val (.int (Int32.ofNat fr)), .val (.int (Int32.ofNat ot)), .val (.int sf), .val (.ref b4), .unset, .unset, .unset, .unset, .unset, .unset, .unset] [(.ref b33)])) t := by
    intro t kt
    refine XS.dup X54.here hx rfl (hb hby at_106) rfl rfl ?_
    show Steps p.tables e below (T54.setTop (mkF m 107 #[.val (.long i0), .second, .val (.long i1), .second, .val (.long i2), .second, .val (.long i3), .second, .val (.int i4), .val (.int i5), .val (.int (Int32.ofNat dn)), .val (.int (Int32.ofNat fr)), .val (.int (Int32.ofNat ot)), .val (.int sf), .val (.ref b4), .unset, .unset, .unset, .unset, .unset, .unset, .unset] [(.ref b33), (.ref b33)])) _
    refine XS.iconst X54.here hx rfl (hb hby at_107) ?_
    show Steps p.tables e below (T54.setTop (mkF m 108 #[.val (.long i0), .second, .val (.long i1), .second, .val (.long i2), .second, .val (.long i3), .second, .val (.int i4), .val (.int i5), .val (.int (Int32.ofNat dn)), .val (.int (Int32.ofNat fr)), .val (.int (Int32.ofNat ot)), .val (.int sf), .val (.ref b4), .unset, .unset, .unset, .unset, .unset, .unset, .unset] [(.int (3 : Int32)), (.ref b33), (.ref b33)])) _
    refine XS.aload X54.here hx rfl (hb hby at_108) rfl rfl ?_
    show Steps p.tables e below (T54.setTop (mkF m 110 #[.val (.long i0), .second, .val (.long i1), .second, .val (.long i2), .second, .val (.long i3), .second, .val (.int i4), .val (.int i5), .val (.int (Int32.ofNat dn)), .val (.int (Int32.ofNat fr)), .val (.int (Int32.ofNat ot)), .val (.int sf), .val (.ref b4), .unset, .unset, .unset, .unset, .unset, .unset, .unset] [(.ref b4), (.int (3 : Int32)), (.ref b33), (.ref b33)])) _
    refine XS.iconst X54.here hx rfl (hb hby at_110) ?_
    show Steps p.tables e below (T54.setTop (mkF m 111 #[.val (.long i0), .second, .val (.long i1), .second, .val (.long i2), .second, .val (.long i3), .second, .val (.int i4), .val (.int i5), .val (.int (Int32.ofNat dn)), .val (.int (Int32.ofNat fr)), .val (.int (Int32.ofNat ot)), .val (.int sf), .val (.ref b4), .unset, .unset, .unset, .unset, .unset, .unset, .unset] [(.int (3 : Int32)), (.ref b4), (.int (3 : Int32)), (.ref b33), (.ref b33)])) _
    refine X54.iaload hx (j := (3 : Int32)) (v := (.int (own_hi i1))) (by rw [e54]; exact Arv58.1) (State.isArrayOf_alike hZ.alike Arv58.2.1) Arv58.2.2 (inb_of Sv58 ⟨by decide, by decide⟩) (Hv58 3 (by rw [Sv58]; decide)) (g := (mkF m 111 #[.val (.long i0), .second, .val (.long i1), .second, .val (.long i2), .second, .val (.long i3), .second, .val (.int i4), .val (.int i5), .val (.int (Int32.ofNat dn)), .val (.int (Int32.ofNat fr)), .val (.int (Int32.ofNat ot)), .val (.int sf), .val (.ref b4), .unset, .unset, .unset, .unset, .unset, .unset, .unset] [(.int (3 : Int32)), (.ref b4), (.int (3 : Int32)), (.ref b33), (.ref b33)])) rfl rfl (hb hby at_111) _ ?_
    show Steps p.tables e below (T54.setTop (mkF m 112 #[.val (.long i0), .second, .val (.long i1), .second, .val (.long i2), .second, .val (.long i3), .second, .val (.int i4), .val (.int i5), .val (.int (Int32.ofNat dn)), .val (.int (Int32.ofNat fr)), .val (.int (Int32.ofNat ot)), .val (.int sf), .val (.ref b4), .unset, .unset, .unset, .unset, .unset, .unset, .unset] [(.int (own_hi i1)), (.int (3 : Int32)), (.ref b33), (.ref b33)])) _
    refine XS.i2dS X54.here hx rfl (hb hby at_112) rfl (v := (FP.i2d (own_hi i1))) rfl ?_
    exact kt
  obtain ⟨clu60, Aru60, qu60, Su60, Ngu60, Hu60, Gu60⟩ := id f55
  have hinu60 : ¬ ((3 : Int32) < 0 ∨ clu60.slots.size ≤ ((3 : Int32)).toNatClampNeg) := inb_of Su60 ⟨by decide, by decide⟩
  obtain ⟨T61, h61, X61, e61, W61, st61⟩ := stD X54 hx hZ e54 Aru60 (j := (3 : Int32)) hinu60 (g := (mkF m 113 #[.val (.long i0), .second, .val (.long i1), .second, .val (.long i2), .second, .val (.long i3), .second, .val (.int i4), .val (.int i5), .val (.int (Int32.ofNat dn)), .val (.int (Int32.ofNat fr)), .val (.int (Int32.ofNat ot)), .val (.int sf), .val (.ref b4), .unset, .unset, .unset, .unset, .unset, .unset, .unset] [(.double (FP.i2d (own_hi i1))), (.int (3 : Int32)), (.ref b33), (.ref b33)])) rfl rfl (hb hby at_113)
  have f62 := Arv.set Aru60 qu60 Su60 Ngu60 Hu60 Gu60 rfl W61 3 rfl (Nat.le_of_ble_eq_true rfl)
  have f63 := (f56.other W61 ne_b4_b33)
  have Zs64 : n0 ≤ h61.size := by rw [W61.size]; exact Zs57
  have N61 := Fr.snoc X61 N54 g_b33
  have sg65 : ∀ t, Steps p.tables e below (T61.setTop (mkF m 116 #[.val (.long i0), .second, .val (.long i1), .second, .val (.long i2), .second, .val (.long i3), .second, .val (.int i4), .val (.int i5), .val (.int (Int32.ofNat dn)), .val (.int (Int32.ofNat fr)), .val (.int (Int32.ofNat ot)), .val (.int sf), .val (.ref b4), .val (.ref b33), .unset, .unset, .unset, .unset, .unset, .unset] [])) t → Steps p.tables e below (T61.setTop (mkF m 114 #[.val (.long i0), .second, .val (.long i1), .second, .val (.long i2), .second, .val (.long i3), .second, .val (.int i4), .val (.int i5), .val (.int (Int32.ofNat dn)), .val (.int (Int32.ofNat fr)), .val (.int (Int32.ofNat ot)), .val (.int sf), .val (.ref b4), .unset, .unset, .unset, .unset, .unset, .unset, .unset] [(.ref b33)])) t := by
    intro t kt
    refine XS.astore X61.here hx rfl (hb hby at_114) rfl rfl (l' := #[.val (.long i0), .second, .val (.long i1), .second, .val (.long i2), .second, .val (.long i3), .second, .val (.int i4), .val (.int i5), .val (.int (Int32.ofNat dn)), .val (.int (Int32.ofNat fr)), .val (.int (Int32.ofNat ot)), .val (.int sf), .val (.ref b4), .val (.ref b33), .unset, .unset, .unset, .unset, .unset, .unset]) rfl ?_
    exact kt
  have sg66 : ∀ t, Steps p.tables e below (T61.setTop (mkF m 118 #[.val (.long i0), .second, .val (.long i1), .second, .val (.long i2), .second, .val (.long i3), .second, .val (.int i4), .val (.int i5), .val (.int (Int32.ofNat dn)), .val (.int (Int32.ofNat fr)), .val (.int (Int32.ofNat ot)), .val (.int sf), .val (.ref b4), .val (.ref b33), .unset, .unset, .unset, .unset, .unset, .unset] [(.int sf)])) t → Steps p.tables e below (T61.setTop (mkF m 116 #[.val (.long i0), .second, .val (.long i1), .second, .val (.long i2), .second, .val (.long i3), .second, .val (.int i4), .val (.int i5), .val (.int (Int32.ofNat dn)), .val (.int (Int32.ofNat fr)), .val (.int (Int32.ofNat ot)), .val (.int sf), .val (.ref b4), .val (.ref b33), .unset, .unset, .unset, .unset, .unset, .unset] [])) t := by
    intro t kt
    refine XS.iload X61.here hx rfl (hb hby at_116) rfl ?_
    exact kt
  by_cases c118 : sf = 0
  · have sg67 : ∀ t, Steps p.tables e below (T61.setTop (mkF m 127 #[.val (.long i0), .second, .val (.long i1), .second, .val (.long i2), .second, .val (.long i3), .second, .val (.int i4), .val (.int i5), .val (.int (Int32.ofNat dn)), .val (.int (Int32.ofNat fr)), .val (.int (Int32.ofNat ot)), .val (.int sf), .val (.ref b4), .val (.ref b33), .unset, .unset, .unset, .unset, .unset, .unset] [(.int (4 : Int32))])) t → Steps p.tables e below (T61.setTop (mkF m 118 #[.val (.long i0), .second, .val (.long i1), .second, .val (.long i2), .second, .val (.long i3), .second, .val (.int i4), .val (.int i5), .val (.int (Int32.ofNat dn)), .val (.int (Int32.ofNat fr)), .val (.int (Int32.ofNat ot)), .val (.int sf), .val (.ref b4), .val (.ref b33), .unset, .unset, .unset, .unset, .unset, .unset] [(.int sf)])) t := by
      intro t kt
      refine XS.ifYes X61.here hx rfl (pc0 := 118) (pc' := 126) rfl (hb hby at_118) rfl ((if0 _ _).trans (teq (c118 : sf = (0 : Int32))).1) (by decide) (by decide) ?_
      show Steps p.tables e below (T61.setTop (mkF m 126 #[.val (.long i0), .second, .val (.long i1), .second, .val (.long i2), .second, .val (.long i3), .second, .val (.int i4), .val (.int i5), .val (.int (Int32.ofNat dn)), .val (.int (Int32.ofNat fr)), .val (.int (Int32.ofNat ot)), .val (.int sf), .val (.ref b4), .val (.ref b33), .unset, .unset, .unset, .unset, .unset, .unset] [])) _
      refine XS.iconst X61.here hx rfl (hb hby at_126) ?_
      exact kt
    obtain ⟨T68, h68, k68, X68, e68, E68, A68, st68⟩ := newP X61 hx hZ (hw _ (List.mem_of_getElem? (i := 1) rfl)) e61 (g := (mkF m 127 #[.val (.long i0), .second, .val (.long i1), .second, .val (.long i2), .second, .val (.long i3), .second, .val (.int i4), .val (.int i5), .val (.int (Int32.ofNat dn)), .val (.int (Int32.ofNat fr)), .val (.int (Int32.ofNat ot)), .val (.int sf), .val (.ref b4), .val (.ref b33), .unset, .unset, .unset, .unset, .unset, .unset] [(.int (4 : Int32))])) rfl (hb hby at_127) rfl (by decide) (cap := 4) (by decide) (by decide) (by decide) (by decide)
    obtain ⟨b69, g68⟩ : ∃ z, z = h61.size := ⟨_, rfl⟩
    rw [← g68] at A68 st68
    have g_b69 : n0 ≤ b69 := Nat.le_trans Zs64 (Nat.le_of_eq g68.symm)
    have ne_b4_b69 : b4 ≠ b69 := Nat.ne_of_lt (Nat.lt_of_lt_of_le f63.lt (Nat.le_of_eq g68.symm))
    have ne_b33_b69 : b33 ≠ b69 := Nat.ne_of_lt (Nat.lt_of_lt_of_le f62.lt (Nat.le_of_eq g68.symm))
    have f70 := (f63.ext E68)
    have f71 := (f62.ext E68)
    have Zs72 : n0 ≤ h68.size := Nat.le_trans Zs64 E68.1
    have f73 : Arv Z h68 b69 k68 .int (4 : Int32) [(.int (0 : Int32)), (.int (0 : Int32)), (.int (0 : Int32)), (.int (0 : Int32))] (.int (0 : Int32)) := (Arv.new A68 (by decide)).pad (pad_rep [] (.int (0 : Int32)) 4)
    have sg74 : ∀ t, Steps p.tables e below (T68.setTop (mkF m 133 #[.val (.long i0), .second, .val (.long i1), .second, .val (.long i2), .second, .val (.long i3), .second, .val (.int i4), .val (.int i5), .val (.int (Int32.ofNat dn)), .val (.int (Int32.ofNat fr)), .val (.int (Int32.ofNat ot)), .val (.int sf), .val (.ref b4), .val (.ref b33), .unset, .unset, .unset, .unset, .unset, .unset] [(.long i2), (.int (0 : Int32)), (.ref b69), (.ref b69)])) t → Steps p.tables e below (T68.setTop (mkF m 129 #[.val (.long i0), .second, .val (.long i1), .second, .val (.long i2), .second, .val (.long i3), .second, .val (.int i4), .val (.int i5), .val (.int (Int32.ofNat dn)), .val (.int (Int32.ofNat fr)), .val (.int (Int32.ofNat ot)), .val (.int sf), .val (.ref b4), .val (.ref b33), .unset, .unset, .unset, .unset, .unset, .unset] [(.ref b69)])) t := by
      intro t kt
      refine XS.dup X68.here hx rfl (hb hby at_129) rfl rfl ?_
      show Steps p.tables e below (T68.setTop (mkF m 130 #[.val (.long i0), .second, .val (.long i1), .second, .val (.long i2), .second, .val (.long i3), .second, .val (.int i4), .val (.int i5), .val (.int (Int32.ofNat dn)), .val (.int (Int32.ofNat fr)), .val (.int (Int32.ofNat ot)), .val (.int sf), .val (.ref b4), .val (.ref b33), .unset, .unset, .unset, .unset, .unset, .unset] [(.ref b69), (.ref b69)])) _
      refine XS.iconst X68.here hx rfl (hb hby at_130) ?_
      show Steps p.tables e below (T68.setTop (mkF m 131 #[.val (.long i0), .second, .val (.long i1), .second, .val (.long i2), .second, .val (.long i3), .second, .val (.int i4), .val (.int i5), .val (.int (Int32.ofNat dn)), .val (.int (Int32.ofNat fr)), .val (.int (Int32.ofNat ot)), .val (.int sf), .val (.ref b4), .val (.ref b33), .unset, .unset, .unset, .unset, .unset, .unset] [(.int (0 : Int32)), (.ref b69), (.ref b69)])) _
      refine XS.lload X68.here hx rfl (hb hby at_131) rfl ?_
      exact kt
    obtain ⟨_, _, ⟨T75, L75, k75, n75⟩, -, X75, ⟨Lc75, hQ75, l75, y75, z75⟩, st75⟩ := Jvm.LawKit.callS X68 hx (y := (⟨"com/example/cairnwise/cairnwise/model/PointsSquaredDistancePinLaw", "lo", "(J)I"⟩ : MethodName)) hown (mvT hZ (hw _ (List.mem_of_getElem? (i := 2) rfl))) (mvT hZ (hw _ (List.mem_of_getElem? (i := 3) rfl))) (mvT hZ (hw _ (List.mem_of_getElem? (i := 4) rfl))) (mvT hZ (hw _ (List.mem_of_getElem? (i := 5) rfl))) (by decide) (backOf (W := 3) (rm1 l Z a0 hw [] i2 h68 n0 Zs72 ) hZ (hw _ (List.mem_of_getElem? (i := 5) rfl)) (hw _ (List.mem_of_getElem? (i := 4) rfl)) (by decide) (by decide)) (g := (mkF m 133 #[.val (.long i0), .second, .val (.long i1), .second, .val (.long i2), .second, .val (.long i3), .second, .val (.int i4), .val (.int i5), .val (.int (Int32.ofNat dn)), .val (.int (Int32.ofNat fr)), .val (.int (Int32.ofNat ot)), .val (.int sf), .val (.ref b4), .val (.ref b33), .unset, .unset, .unset, .unset, .unset, .unset] [(.long i2), (.int (0 : Int32)), (.ref b69), (.ref b69)])) rfl (by rw [hml]; rfl) (argsL := [(.long i2)]) (rest := [(.int (0 : Int32)), (.ref b69), (.ref b69)]) (lenOf pd_1 rfl) rfl (by show 2 * 0 + _ ≤ _; exact Nat.le_of_eq rfl) (hb hby at_133) (fun _ _ => ⟨rfl, e68, (by decide : 3 + 0 ≤ _), (by decide : 12 + 0 ≤ _)⟩)
    dsimp only [Pt.U, Pt.locs, Pt.cells, Pt.slots] at X75 l75 y75 z75 st75 hQ75
    subst l75 y75 z75
    obtain ⟨rfl, Nq75, eq75⟩ := hQ75
    have N75 := Fr.app N61 Nq75
    obtain ⟨clu76, Aru76, qu76, Su76, Ngu76, Hu76, Gu76⟩ := id f73
    have hinu76 : ¬ ((0 : Int32) < 0 ∨ clu76.slots.size ≤ ((0 : Int32)).toNatClampNeg) := inb_of Su76 ⟨by decide, by decide⟩
    obtain ⟨T77, h77, X77, e77, W77, st77⟩ := stI X75 hx hZ eq75 Aru76 (j := (0 : Int32)) hinu76 (g := (mkF m 136 #[.val (.long i0), .second, .val (.long i1), .second, .val (.long i2), .second, .val (.long i3), .second, .val (.int i4), .val (.int i5), .val (.int (Int32.ofNat dn)), .val (.int (Int32.ofNat fr)), .val (.int (Int32.ofNat ot)), .val (.int sf), .val (.ref b4), .val (.ref b33), .unset, .unset, .unset, .unset, .unset, .unset] [(.int (own_lo i2)), (.int (0 : Int32)), (.ref b69), (.ref b69)])) rfl rfl (hb hby at_136)
    have f78 := Arv.set Aru76 qu76 Su76 Ngu76 Hu76 Gu76 rfl W77 0 rfl (Nat.le_of_ble_eq_true rfl)
    have f79 := (f70.other W77 ne_b4_b69)
    have f80 := (f71.other W77 ne_b33_b69)
    have Zs81 : n0 ≤ h77.size := by rw [W77.size]; exact Zs72
    have N77 := Fr.snoc X77 N75 g_b69
    have sg82 : ∀ t, Steps p.tables e below (T77.setTop (mkF m 141 #[.val (.long i0), .second, .val (.long i1), .second, .val (.long i2), .second, .val (.long i3), .second, .val (.int i4), .val (.int i5), .val (.int (Int32.ofNat dn)), .val (.int (Int32.ofNat fr)), .val (.int (Int32.ofNat ot)), .val (.int sf), .val (.ref b4), .val (.ref b33), .unset, .unset, .unset, .unset, .unset, .unset] [(.long i2), (.int (1 : Int32)), (.ref b69), (.ref b69)])) t → Steps p.tables e below (T77.setTop (mkF m 137 #[.val (.long i0), .second, .val (.long i1), .second, .val (.long i2), .second, .val (.long i3), .second, .val (.int i4), .val (.int i5), .val (.int (Int32.ofNat dn)), .val (.int (Int32.ofNat fr)), .val (.int (Int32.ofNat ot)), .val (.int sf), .val (.ref b4), .val (.ref b33), .unset, .unset, .unset, .unset, .unset, .unset] [(.ref b69)])) t := by
      intro t kt
      refine XS.dup X77.here hx rfl (hb hby at_137) rfl rfl ?_
      show Steps p.tables e below (T77.setTop (mkF m 138 #[.val (.long i0), .second, .val (.long i1), .second, .val (.long i2), .second, .val (.long i3), .second, .val (.int i4), .val (.int i5), .val (.int (Int32.ofNat dn)), .val (.int (Int32.ofNat fr)), .val (.int (Int32.ofNat ot)), .val (.int sf), .val (.ref b4), .val (.ref b33), .unset, .unset, .unset, .unset, .unset, .unset] [(.ref b69), (.ref b69)])) _
      refine XS.iconst X77.here hx rfl (hb hby at_138) ?_
      show Steps p.tables e below (T77.setTop (mkF m 139 #[.val (.long i0), .second, .val (.long i1), .second, .val (.long i2), .second, .val (.long i3), .second, .val (.int i4), .val (.int i5), .val (.int (Int32.ofNat dn)), .val (.int (Int32.ofNat fr)), .val (.int (Int32.ofNat ot)), .val (.int sf), .val (.ref b4), .val (.ref b33), .unset, .unset, .unset, .unset, .unset, .unset] [(.int (1 : Int32)), (.ref b69), (.ref b69)])) _
      refine XS.lload X77.here hx rfl (hb hby at_139) rfl ?_
      exact kt
    obtain ⟨_, _, ⟨T83, L83, k83, n83⟩, -, X83, ⟨Lc83, hQ83, l83, y83, z83⟩, st83⟩ := Jvm.LawKit.callS X77 hx (y := (⟨"com/example/cairnwise/cairnwise/model/PointsSquaredDistancePinLaw", "hi", "(J)I"⟩ : MethodName)) hown (mvT hZ (hw _ (List.mem_of_getElem? (i := 6) rfl))) (mvT hZ (hw _ (List.mem_of_getElem? (i := 7) rfl))) (mvT hZ (hw _ (List.mem_of_getElem? (i := 4) rfl))) (mvT hZ (hw _ (List.mem_of_getElem? (i := 8) rfl))) (by decide) (backOf (W := 3) (rm2 l Z a0 hw [] i2 h77 n0 Zs81 ) hZ (hw _ (List.mem_of_getElem? (i := 8) rfl)) (hw _ (List.mem_of_getElem? (i := 4) rfl)) (by decide) (by decide)) (g := (mkF m 141 #[.val (.long i0), .second, .val (.long i1), .second, .val (.long i2), .second, .val (.long i3), .second, .val (.int i4), .val (.int i5), .val (.int (Int32.ofNat dn)), .val (.int (Int32.ofNat fr)), .val (.int (Int32.ofNat ot)), .val (.int sf), .val (.ref b4), .val (.ref b33), .unset, .unset, .unset, .unset, .unset, .unset] [(.long i2), (.int (1 : Int32)), (.ref b69), (.ref b69)])) rfl (by rw [hml]; rfl) (argsL := [(.long i2)]) (rest := [(.int (1 : Int32)), (.ref b69), (.ref b69)]) (lenOf pd_1 rfl) rfl (by show 2 * 0 + _ ≤ _; exact Nat.le_of_eq rfl) (hb hby at_141) (fun _ _ => ⟨rfl, e77, (by decide : 3 + 0 ≤ _), (by decide : 12 + 0 ≤ _)⟩)
    dsimp only [Pt.U, Pt.locs, Pt.cells, Pt.slots] at X83 l83 y83 z83 st83 hQ83
    subst l83 y83 z83
    obtain ⟨rfl, Nq83, eq83⟩ := hQ83
    have N83 := Fr.app N77 Nq83
    obtain ⟨clu84, Aru84, qu84, Su84, Ngu84, Hu84, Gu84⟩ := id f78
    have hinu84 : ¬ ((1 : Int32) < 0 ∨ clu84.slots.size ≤ ((1 : Int32)).toNatClampNeg) := inb_of Su84 ⟨by decide, by decide⟩
    obtain ⟨T85, h85, X85, e85, W85, st85⟩ := stI X83 hx hZ eq83 Aru84 (j := (1 : Int32)) hinu84 (g := (mkF m 144 #[.val (.long i0), .second, .val (.long i1), .second, .val (.long i2), .second, .val (.long i3), .second, .val (.int i4), .val (.int i5), .val (.int (Int32.ofNat dn)), .val (.int (Int32.ofNat fr)), .val (.int (Int32.ofNat ot)), .val (.int sf), .val (.ref b4), .val (.ref b33), .unset, .unset, .unset, .unset, .unset, .unset] [(.int (own_hi i2)), (.int (1 : Int32)), (.ref b69), (.ref b69)])) rfl rfl (hb hby at_144)
    have f86 := Arv.set Aru84 qu84 Su84 Ngu84 Hu84 Gu84 rfl W85 1 rfl (Nat.le_of_ble_eq_true rfl)
    have f87 := (f79.other W85 ne_b4_b69)
    have f88 := (f80.other W85 ne_b33_b69)
    have Zs89 : n0 ≤ h85.size := by rw [W85.size]; exact Zs81
    have N85 := Fr.snoc X85 N83 g_b69
    have sg90 : ∀ t, Steps p.tables e below (T85.setTop (mkF m 149 #[.val (.long i0), .second, .val (.long i1), .second, .val (.long i2), .second, .val (.long i3), .second, .val (.int i4), .val (.int i5), .val (.int (Int32.ofNat dn)), .val (.int (Int32.ofNat fr)), .val (.int (Int32.ofNat ot)), .val (.int sf), .val (.ref b4), .val (.ref b33), .unset, .unset, .unset, .unset, .unset, .unset] [(.long i3), (.int (2 : Int32)), (.ref b69), (.ref b69)])) t → Steps p.tables e below (T85.setTop (mkF m 145 #[.val (.long i0), .second, .val (.long i1), .second, .val (.long i2), .second, .val (.long i3), .second, .val (.int i4), .val (.int i5), .val (.int (Int32.ofNat dn)), .val (.int (Int32.ofNat fr)), .val (.int (Int32.ofNat ot)), .val (.int sf), .val (.ref b4), .val (.ref b33), .unset, .unset, .unset, .unset, .unset, .unset] [(.ref b69)])) t := by
      intro t kt
      refine XS.dup X85.here hx rfl (hb hby at_145) rfl rfl ?_
      show Steps p.tables e below (T85.setTop (mkF m 146 #[.val (.long i0), .second, .val (.long i1), .second, .val (.long i2), .second, .val (.long i3), .second, .val (.int i4), .val (.int i5), .val (.int (Int32.ofNat dn)), .val (.int (Int32.ofNat fr)), .val (.int (Int32.ofNat ot)), .val (.int sf), .val (.ref b4), .val (.ref b33), .unset, .unset, .unset, .unset, .unset, .unset] [(.ref b69), (.ref b69)])) _
      refine XS.iconst X85.here hx rfl (hb hby at_146) ?_
      show Steps p.tables e below (T85.setTop (mkF m 147 #[.val (.long i0), .second, .val (.long i1), .second, .val (.long i2), .second, .val (.long i3), .second, .val (.int i4), .val (.int i5), .val (.int (Int32.ofNat dn)), .val (.int (Int32.ofNat fr)), .val (.int (Int32.ofNat ot)), .val (.int sf), .val (.ref b4), .val (.ref b33), .unset, .unset, .unset, .unset, .unset, .unset] [(.int (2 : Int32)), (.ref b69), (.ref b69)])) _
      refine XS.lload X85.here hx rfl (hb hby at_147) rfl ?_
      exact kt
    obtain ⟨_, _, ⟨T91, L91, k91, n91⟩, -, X91, ⟨Lc91, hQ91, l91, y91, z91⟩, st91⟩ := Jvm.LawKit.callS X85 hx (y := (⟨"com/example/cairnwise/cairnwise/model/PointsSquaredDistancePinLaw", "lo", "(J)I"⟩ : MethodName)) hown (mvT hZ (hw _ (List.mem_of_getElem? (i := 2) rfl))) (mvT hZ (hw _ (List.mem_of_getElem? (i := 3) rfl))) (mvT hZ (hw _ (List.mem_of_getElem? (i := 4) rfl))) (mvT hZ (hw _ (List.mem_of_getElem? (i := 5) rfl))) (by decide) (backOf (W := 3) (rm1 l Z a0 hw [] i3 h85 n0 Zs89 ) hZ (hw _ (List.mem_of_getElem? (i := 5) rfl)) (hw _ (List.mem_of_getElem? (i := 4) rfl)) (by decide) (by decide)) (g := (mkF m 149 #[.val (.long i0), .second, .val (.long i1), .second, .val (.long i2), .second, .val (.long i3), .second, .val (.int i4), .val (.int i5), .val (.int (Int32.ofNat dn)), .val (.int (Int32.ofNat fr)), .val (.int (Int32.ofNat ot)), .val (.int sf), .val (.ref b4), .val (.ref b33), .unset, .unset, .unset, .unset, .unset, .unset] [(.long i3), (.int (2 : Int32)), (.ref b69), (.ref b69)])) rfl (by rw [hml]; rfl) (argsL := [(.long i3)]) (rest := [(.int (2 : Int32)), (.ref b69), (.ref b69)]) (lenOf pd_1 rfl) rfl (by show 2 * 0 + _ ≤ _; exact Nat.le_of_eq rfl) (hb hby at_149) (fun _ _ => ⟨rfl, e85, (by decide : 3 + 0 ≤ _), (by decide : 12 + 0 ≤ _)⟩)
    dsimp only [Pt.U, Pt.locs, Pt.cells, Pt.slots] at X91 l91 y91 z91 st91 hQ91
    subst l91 y91 z91
    obtain ⟨rfl, Nq91, eq91⟩ := hQ91
    have N91 := Fr.app N85 Nq91
    obtain ⟨clu92, Aru92, qu92, Su92, Ngu92, Hu92, Gu92⟩ := id f86
    have hinu92 : ¬ ((2 : Int32) < 0 ∨ clu92.slots.size ≤ ((2 : Int32)).toNatClampNeg) := inb_of Su92 ⟨by decide, by decide⟩
    obtain ⟨T93, h93, X93, e93, W93, st93⟩ := stI X91 hx hZ eq91 Aru92 (j := (2 : Int32)) hinu92 (g := (mkF m 152 #[.val (.long i0), .second, .val (.long i1), .second, .val (.long i2), .second, .val (.long i3), .second, .val (.int i4), .val (.int i5), .val (.int (Int32.ofNat dn)), .val (.int (Int32.ofNat fr)), .val (.int (Int32.ofNat ot)), .val (.int sf), .val (.ref b4), .val (.ref b33), .unset, .unset, .unset, .unset, .unset, .unset] [(.int (own_lo i3)), (.int (2 : Int32)), (.ref b69), (.ref b69)])) rfl rfl (hb hby at_152)
    have f94 := Arv.set Aru92 qu92 Su92 Ngu92 Hu92 Gu92 rfl W93 2 rfl (Nat.le_of_ble_eq_true rfl)
    have f95 := (f87.other W93 ne_b4_b69)
    have f96 := (f88.other W93 ne_b33_b69)
    have Zs97 : n0 ≤ h93.size := by rw [W93.size]; exact Zs89
    have N93 := Fr.snoc X93 N91 g_b69
    have sg98 : ∀ t, Steps p.tables e below (T93.setTop (mkF m 157 #[.val (.long i0), .second, .val (.long i1), .second, .val (.long i2), .second, .val (.long i3), .second, .val (.int i4), .val (.int i5), .val (.int (Int32.ofNat dn)), .val (.int (Int32.ofNat fr)), .val (.int (Int32.ofNat ot)), .val (.int sf), .val (.ref b4), .val (.ref b33), .unset, .unset, .unset, .unset, .unset, .unset] [(.long i3), (.int (3 : Int32)), (.ref b69), (.ref b69)])) t → Steps p.tables e below (T93.setTop (mkF m 153 #[.val (.long i0), .second, .val (.long i1), .second, .val (.long i2), .second, .val (.long i3), .second, .val (.int i4), .val (.int i5), .val (.int (Int32.ofNat dn)), .val (.int (Int32.ofNat fr)), .val (.int (Int32.ofNat ot)), .val (.int sf), .val (.ref b4), .val (.ref b33), .unset, .unset, .unset, .unset, .unset, .unset] [(.ref b69)])) t := by
      intro t kt
      refine XS.dup X93.here hx rfl (hb hby at_153) rfl rfl ?_
      show Steps p.tables e below (T93.setTop (mkF m 154 #[.val (.long i0), .second, .val (.long i1), .second, .val (.long i2), .second, .val (.long i3), .second, .val (.int i4), .val (.int i5), .val (.int (Int32.ofNat dn)), .val (.int (Int32.ofNat fr)), .val (.int (Int32.ofNat ot)), .val (.int sf), .val (.ref b4), .val (.ref b33), .unset, .unset, .unset, .unset, .unset, .unset] [(.ref b69), (.ref b69)])) _
      refine XS.iconst X93.here hx rfl (hb hby at_154) ?_
      show Steps p.tables e below (T93.setTop (mkF m 155 #[.val (.long i0), .second, .val (.long i1), .second, .val (.long i2), .second, .val (.long i3), .second, .val (.int i4), .val (.int i5), .val (.int (Int32.ofNat dn)), .val (.int (Int32.ofNat fr)), .val (.int (Int32.ofNat ot)), .val (.int sf), .val (.ref b4), .val (.ref b33), .unset, .unset, .unset, .unset, .unset, .unset] [(.int (3 : Int32)), (.ref b69), (.ref b69)])) _
      refine XS.lload X93.here hx rfl (hb hby at_155) rfl ?_
      exact kt
    obtain ⟨_, _, ⟨T99, L99, k99, n99⟩, -, X99, ⟨Lc99, hQ99, l99, y99, z99⟩, st99⟩ := Jvm.LawKit.callS X93 hx (y := (⟨"com/example/cairnwise/cairnwise/model/PointsSquaredDistancePinLaw", "hi", "(J)I"⟩ : MethodName)) hown (mvT hZ (hw _ (List.mem_of_getElem? (i := 6) rfl))) (mvT hZ (hw _ (List.mem_of_getElem? (i := 7) rfl))) (mvT hZ (hw _ (List.mem_of_getElem? (i := 4) rfl))) (mvT hZ (hw _ (List.mem_of_getElem? (i := 8) rfl))) (by decide) (backOf (W := 3) (rm2 l Z a0 hw [] i3 h93 n0 Zs97 ) hZ (hw _ (List.mem_of_getElem? (i := 8) rfl)) (hw _ (List.mem_of_getElem? (i := 4) rfl)) (by decide) (by decide)) (g := (mkF m 157 #[.val (.long i0), .second, .val (.long i1), .second, .val (.long i2), .second, .val (.long i3), .second, .val (.int i4), .val (.int i5), .val (.int (Int32.ofNat dn)), .val (.int (Int32.ofNat fr)), .val (.int (Int32.ofNat ot)), .val (.int sf), .val (.ref b4), .val (.ref b33), .unset, .unset, .unset, .unset, .unset, .unset] [(.long i3), (.int (3 : Int32)), (.ref b69), (.ref b69)])) rfl (by rw [hml]; rfl) (argsL := [(.long i3)]) (rest := [(.int (3 : Int32)), (.ref b69), (.ref b69)]) (lenOf pd_1 rfl) rfl (by show 2 * 0 + _ ≤ _; exact Nat.le_of_eq rfl) (hb hby at_157) (fun _ _ => ⟨rfl, e93, (by decide : 3 + 0 ≤ _), (by decide : 12 + 0 ≤ _)⟩)
    dsimp only [Pt.U, Pt.locs, Pt.cells, Pt.slots] at X99 l99 y99 z99 st99 hQ99
    subst l99 y99 z99
    obtain ⟨rfl, Nq99, eq99⟩ := hQ99
    have N99 := Fr.app N93 Nq99
    obtain ⟨clu100, Aru100, qu100, Su100, Ngu100, Hu100, Gu100⟩ := id f94
    have hinu100 : ¬ ((3 : Int32) < 0 ∨ clu100.slots.size ≤ ((3 : Int32)).toNatClampNeg) := inb_of Su100 ⟨by decide, by decide⟩
    obtain ⟨T101, h101, X101, e101, W101, st101⟩ := stI X99 hx hZ eq99 Aru100 (j := (3 : Int32)) hinu100 (g := (mkF m 160 #[.val (.long i0), .second, .val (.long i1), .second, .val (.long i2), .second, .val (.long i3), .second, .val (.int i4), .val (.int i5), .val (.int (Int32.ofNat dn)), .val (.int (Int32.ofNat fr)), .val (.int (Int32.ofNat ot)), .val (.int sf), .val (.ref b4), .val (.ref b33), .unset, .unset, .unset, .unset, .unset, .unset] [(.int (own_hi i3)), (.int (3 : Int32)), (.ref b69), (.ref b69)])) rfl rfl (hb hby at_160)
    have f102 := Arv.set Aru100 qu100 Su100 Ngu100 Hu100 Gu100 rfl W101 3 rfl (Nat.le_of_ble_eq_true rfl)
    have f103 := (f95.other W101 ne_b4_b69)
    have f104 := (f96.other W101 ne_b33_b69)
    have Zs105 : n0 ≤ h101.size := by rw [W101.size]; exact Zs97
    have N101 := Fr.snoc X101 N99 g_b69
    have sg106 : ∀ t, Steps p.tables e below (T101.setTop (mkF m 163 #[.val (.long i0), .second, .val (.long i1), .second, .val (.long i2), .second, .val (.long i3), .second, .val (.int i4), .val (.int i5), .val (.int (Int32.ofNat dn)), .val (.int (Int32.ofNat fr)), .val (.int (Int32.ofNat ot)), .val (.int sf), .val (.ref b4), .val (.ref b33), .val (.ref b69), .unset, .unset, .unset, .unset, .unset] [])) t → Steps p.tables e below (T101.setTop (mkF m 161 #[.val (.long i0), .second, .val (.long i1), .second, .val (.long i2), .second, .val (.long i3), .second, .val (.int i4), .val (.int i5), .val (.int (Int32.ofNat dn)), .val (.int (Int32.ofNat fr)), .val (.int (Int32.ofNat ot)), .val (.int sf), .val (.ref b4), .val (.ref b33), .unset, .unset, .unset, .unset, .unset, .unset] [(.ref b69)])) t := by
      intro t kt
      refine XS.astore X101.here hx rfl (hb hby at_161) rfl rfl (l' := #[.val (.long i0), .second, .val (.long i1), .second, .val (.long i2), .second, .val (.long i3), .second, .val (.int i4), .val (.int i5), .val (.int (Int32.ofNat dn)), .val (.int (Int32.ofNat fr)), .val (.int (Int32.ofNat ot)), .val (.int sf), .val (.ref b4), .val (.ref b33), .val (.ref b69), .unset, .unset, .unset, .unset, .unset]) rfl ?_
      exact kt
    have sg107 : ∀ t, Steps p.tables e below (T101.setTop (mkF m 174 #[.val (.long i0), .second, .val (.long i1), .second, .val (.long i2), .second, .val (.long i3), .second, .val (.int i4), .val (.int i5), .val (.int (Int32.ofNat dn)), .val (.int (Int32.ofNat fr)), .val (.int (Int32.ofNat ot)), .val (.int sf), .val (.ref b4), .val (.ref b33), .val (.ref b69), .unset, .unset, .unset, .unset, .unset] [(.int (4 : Int32))])) t → Steps p.tables e below (T101.setTop (mkF m 163 #[.val (.long i0), .second, .val (.long i1), .second, .val (.long i2), .second, .val (.long i3), .second, .val (.int i4), .val (.int i5), .val (.int (Int32.ofNat dn)), .val (.int (Int32.ofNat fr)), .val (.int (Int32.ofNat ot)), .val (.int sf), .val (.ref b4), .val (.ref b33), .val (.ref b69), .unset, .unset, .unset, .unset, .unset] [])) t := by
      intro t kt
      refine XS.iload X101.here hx rfl (hb hby at_163) rfl ?_
      show Steps p.tables e below (T101.setTop (mkF m 165 #[.val (.long i0), .second, .val (.long i1), .second, .val (.long i2), .second, .val (.long i3), .second, .val (.int i4), .val (.int i5), .val (.int (Int32.ofNat dn)), .val (.int (Int32.ofNat fr)), .val (.int (Int32.ofNat ot)), .val (.int sf), .val (.ref b4), .val (.ref b33), .val (.ref b69), .unset, .unset, .unset, .unset, .unset] [(.int sf)])) _
      refine XS.ifYes X101.here hx rfl (pc0 := 165) (pc' := 173) rfl (hb hby at_165) rfl ((if0 _ _).trans (teq (c118 : sf = (0 : Int32))).1) (by decide) (by decide) ?_
      show Steps p.tables e below (T101.setTop (mkF m 173 #[.val (.long i0), .second, .val (.long i1), .second, .val (.long i2), .second, .val (.long i3), .second, .val (.int i4), .val (.int i5), .val (.int (Int32.ofNat dn)), .val (.int (Int32.ofNat fr)), .val (.int (Int32.ofNat ot)), .val (.int sf), .val (.ref b4), .val (.ref b33), .val (.ref b69), .unset, .unset, .unset, .unset, .unset] [])) _
      refine XS.iconst X101.here hx rfl (hb hby at_173) ?_
      exact kt
    obtain ⟨T108, h108, k108, X108, e108, E108, A108, st108⟩ := newP X101 hx hZ (hw _ (List.mem_of_getElem? (i := 9) rfl)) e101 (g := (mkF m 174 #[.val (.long i0), .second, .val (.long i1), .second, .val (.long i2), .second, .val (.long i3), .second, .val (.int i4), .val (.int i5), .val (.int (Int32.ofNat dn)), .val (.int (Int32.ofNat fr)), .val (.int (Int32.ofNat ot)), .val (.int sf), .val (.ref b4), .val (.ref b33), .val (.ref b69), .unset, .unset, .unset, .unset, .unset] [(.int (4 : Int32))])) rfl (hb hby at_174) rfl (by decide) (cap := 4) (by decide) (by decide) (by decide) (by decide)
    obtain ⟨b109, g108⟩ : ∃ z, z = h101.size := ⟨_, rfl⟩
    rw [← g108] at A108 st108
    have g_b109 : n0 ≤ b109 := Nat.le_trans Zs105 (Nat.le_of_eq g108.symm)
    have ne_b4_b109 : b4 ≠ b109 := Nat.ne_of_lt (Nat.lt_of_lt_of_le f103.lt (Nat.le_of_eq g108.symm))
    have ne_b33_b109 : b33 ≠ b109 := Nat.ne_of_lt (Nat.lt_of_lt_of_le f104.lt (Nat.le_of_eq g108.symm))
    have ne_b69_b109 : b69 ≠ b109 := Nat.ne_of_lt (Nat.lt_of_lt_of_le f102.lt (Nat.le_of_eq g108.symm))
    have f110 := (f103.ext E108)
    have f111 := (f104.ext E108)
    have f112 := (f102.ext E108)
    have Zs113 : n0 ≤ h108.size := Nat.le_trans Zs105 E108.1
    have f114 : Arv Z h108 b109 k108 .double (4 : Int32) [(.double (0 : UInt64)), (.double (0 : UInt64)), (.double (0 : UInt64)), (.double (0 : UInt64))] (.double (0 : UInt64)) := (Arv.new A108 (by decide)).pad (pad_rep [] (.double (0 : UInt64)) 4)
    obtain ⟨clv115, Arv115, -, Sv115, -, Hv115, -⟩ := id f112
    have sg116 : ∀ t, Steps p.tables e below (T108.setTop (mkF m 183 #[.val (.long i0), .second, .val (.long i1), .second, .val (.long i2), .second, .val (.long i3), .second, .val (.int i4), .val (.int i5), .val (.int (Int32.ofNat dn)), .val (.int (Int32.ofNat fr)), .val (.int (Int32.ofNat ot)), .val (.int sf), .val (.ref b4), .val (.ref b33), .val (.ref b69), .unset, .unset, .unset, .unset, .unset] [(.double (FP.i2d (own_lo i2))), (.int (0 : Int32)), (.ref b109), (.ref b109)])) t → Steps p.tables e below (T108.setTop (mkF m 176 #[.val (.long i0), .second, .val (.long i1), .second, .val (.long i2), .second, .val (.long i3), .second, .val (.int i4), .val (.int i5), .val (.int (Int32.ofNat dn)), .val (.int (Int32.ofNat fr)), .val (.int (Int32.ofNat ot)), .val (.int sf), .val (.ref b4), .val (.ref b33), .val (.ref b69), .unset, .unset, .unset, .unset, .unset] [(.ref b109)])) t := by
      intro t kt
      refine XS.dup X108.here hx rfl (hb hby at_176) rfl rfl ?_
      show Steps p.tables e below (T108.setTop (mkF m 177 #[.val (.long i0), .second, .val (.long i1), .second, .val (.long i2), .second, .val (.long i3), .second, .val (.int i4), .val (.int i5), .val (.int (Int32.ofNat dn)), .val (.int (Int32.ofNat fr)), .val (.int (Int32.ofNat ot)), .val (.int sf), .val (.ref b4), .val (.ref b33), .val (.ref b69), .unset, .unset, .unset, .unset, .unset] [(.ref b109), (.ref b109)])) _
      refine XS.iconst X108.here hx rfl (hb hby at_177) ?_
      show Steps p.tables e below (T108.setTop (mkF m 178 #[.val (.long i0), .second, .val (.long i1), .second, .val (.long i2), .second, .val (.long i3), .second, .val (.int i4), .val (.int i5), .val (.int (Int32.ofNat dn)), .val (.int (Int32.ofNat fr)), .val (.int (Int32.ofNat ot)), .val (.int sf), .val (.ref b4), .val (.ref b33), .val (.ref b69), .unset, .unset, .unset, .unset, .unset] [(.int (0 : Int32)), (.ref b109), (.ref b109)])) _
      refine XS.aload X108.here hx rfl (hb hby at_178) rfl rfl ?_
      show Steps p.tables e below (T108.setTop (mkF m 180 #[.val (.long i0), .second, .val (.long i1), .second, .val (.long i2), .second, .val (.long i3), .second, .val (.int i4), .val (.int i5), .val (.int (Int32.ofNat dn)), .val (.int (Int32.ofNat fr)), .val (.int (Int32.ofNat ot)), .val (.int sf), .val (.ref b4), .val (.ref b33), .val (.ref b69), .unset, .unset, .unset, .unset, .unset] [(.ref b69), (.int (0 : Int32)), (.ref b109), (.ref b109)])) _
      refine XS.iconst X108.here hx rfl (hb hby at_180) ?_
      show Steps p.tables e below (T108.setTop (mkF m 181 #[.val (.long i0), .second, .val (.long i1), .second, .val (.long i2), .second, .val (.long i3), .second, .val (.int i4), .val (.int i5), .val (.int (Int32.ofNat dn)), .val (.int (Int32.ofNat fr)), .val (.int (Int32.ofNat ot)), .val (.int sf), .val (.ref b4), .val (.ref b33), .val (.ref b69), .unset, .unset, .unset, .unset, .unset] [(.int (0 : Int32)), (.ref b69), (.int (0 : Int32)), (.ref b109), (.ref b109)])) _
      refine X108.iaload hx (j := (0 : Int32)) (v := (.int (own_lo i2))) (by rw [e108]; exact Arv115.1) (State.isArrayOf_alike hZ.alike Arv115.2.1) Arv115.2.2 (inb_of Sv115 ⟨by decide, by decide⟩) (Hv115 0 (by rw [Sv115]; decide)) (g := (mkF m 181 #[.val (.long i0), .second, .val (.long i1), .second, .val (.long i2), .second, .val (.long i3), .second, .val (.int i4), .val (.int i5), .val (.int (Int32.ofNat dn)), .val (.int (Int32.ofNat fr)), .val (.int (Int32.ofNat ot)), .val (.int sf), .val (.ref b4), .val (.ref b33), .val (.ref b69), .unset, .unset, .unset, .unset, .unset] [(.int (0 : Int32)), (.ref b69), (.int (0 : Int32)), (.ref b109), (.ref b109)])) rfl rfl (hb hby at_181) _ ?_
      show Steps p.tables e below (T108.setTop (mkF m 182 #[.val (.long i0), .second, .val (.long i1), .second, .val (.long i2), .second, .val (.long i3), .second, .val (.int i4), .val (.int i5), .val (.int (Int32.ofNat dn)), .val (.int (Int32.ofNat fr)), .val (.int (Int32.ofNat ot)), .val (.int sf), .val (.ref b4), .val (.ref b33), .val (.ref b69), .unset, .unset, .unset, .unset, .unset] [(.int (own_lo i2)), (.int (0 : Int32)), (.ref b109), (.ref b109)])) _
      refine XS.i2dS X108.here hx rfl (hb hby at_182) rfl (v := (FP.i2d (own_lo i2))) rfl ?_
      exact kt
    obtain ⟨clu117, Aru117, qu117, Su117, Ngu117, Hu117, Gu117⟩ := id f114
    have hinu117 : ¬ ((0 : Int32) < 0 ∨ clu117.slots.size ≤ ((0 : Int32)).toNatClampNeg) := inb_of Su117 ⟨by decide, by decide⟩
    obtain ⟨T118, h118, X118, e118, W118, st118⟩ := stD X108 hx hZ e108 Aru117 (j := (0 : Int32)) hinu117 (g := (mkF m 183 #[.val (.long i0), .second, .val (.long i1), .second, .val (.long i2), .second, .val (.long i3), .second, .val (.int i4), .val (.int i5), .val (.int (Int32.ofNat dn)), .val (.int (Int32.ofNat fr)), .val (.int (Int32.ofNat ot)), .val (.int sf), .val (.ref b4), .val (.ref b33), .val (.ref b69), .unset, .unset, .unset, .unset, .unset] [(.double (FP.i2d (own_lo i2))), (.int (0 : Int32)), (.ref b109), (.ref b109)])) rfl rfl (hb hby at_183)
    have f119 := Arv.set Aru117 qu117 Su117 Ngu117 Hu117 Gu117 rfl W118 0 rfl (Nat.le_of_ble_eq_true rfl)
    have f120 := (f110.other W118 ne_b4_b109)
    have f121 := (f111.other W118 ne_b33_b109)
    have f122 := (f112.other W118 ne_b69_b109)
    have Zs123 : n0 ≤ h118.size := by rw [W118.size]; exact Zs113
    have N118 := Fr.snoc X118 N101 g_b109
    obtain ⟨clv124, Arv124, -, Sv124, -, Hv124, -⟩ := id f122
    have sg125 : ∀ t, Steps p.tables e below (T118.setTop (mkF m 191 #[.val (.long i0), .second, .val (.long i1), .second, .val (.long i2), .second, .val (.long i3), .second, .val (.int i4), .val (.int i5), .val (.int (Int32.ofNat dn)), .val (.int (Int32.ofNat fr)), .val (.int (Int32.ofNat ot)), .val (.int sf), .val (.ref b4), .val (.ref b33), .val (.ref b69), .unset, .unset, .unset, .unset, .unset] [(.double (FP.i2d (own_hi i2))), (.int (1 : Int32)), (.ref b109), (.ref b109)])) t → Steps p.tables e below (T118.setTop (mkF m 184 #[.val (.long i0), .second, .val (.long i1), .second, .val (.long i2), .second, .val (.long i3), .second, .val (.int i4), .val (.int i5), .val (.int (Int32.ofNat dn)), .val (.int (Int32.ofNat fr)), .val (.int (Int32.ofNat ot)), .val (.int sf), .val (.ref b4), .val (.ref b33), .val (.ref b69), .unset, .unset, .unset, .unset, .unset] [(.ref b109)])) t := by
      intro t kt
      refine XS.dup X118.here hx rfl (hb hby at_184) rfl rfl ?_
      show Steps p.tables e below (T118.setTop (mkF m 185 #[.val (.long i0), .second, .val (.long i1), .second, .val (.long i2), .second, .val (.long i3), .second, .val (.int i4), .val (.int i5), .val (.int (Int32.ofNat dn)), .val (.int (Int32.ofNat fr)), .val (.int (Int32.ofNat ot)), .val (.int sf), .val (.ref b4), .val (.ref b33), .val (.ref b69), .unset, .unset, .unset, .unset, .unset] [(.ref b109), (.ref b109)])) _
      refine XS.iconst X118.here hx rfl (hb hby at_185) ?_
      show Steps p.tables e below (T118.setTop (mkF m 186 #[.val (.long i0), .second, .val (.long i1), .second, .val (.long i2), .second, .val (.long i3), .second, .val (.int i4), .val (.int i5), .val (.int (Int32.ofNat dn)), .val (.int (Int32.ofNat fr)), .val (.int (Int32.ofNat ot)), .val (.int sf), .val (.ref b4), .val (.ref b33), .val (.ref b69), .unset, .unset, .unset, .unset, .unset] [(.int (1 : Int32)), (.ref b109), (.ref b109)])) _
      refine XS.aload X118.here hx rfl (hb hby at_186) rfl rfl ?_
      show Steps p.tables e below (T118.setTop (mkF m 188 #[.val (.long i0), .second, .val (.long i1), .second, .val (.long i2), .second, .val (.long i3), .second, .val (.int i4), .val (.int i5), .val (.int (Int32.ofNat dn)), .val (.int (Int32.ofNat fr)), .val (.int (Int32.ofNat ot)), .val (.int sf), .val (.ref b4), .val (.ref b33), .val (.ref b69), .unset, .unset, .unset, .unset, .unset] [(.ref b69), (.int (1 : Int32)), (.ref b109), (.ref b109)])) _
      refine XS.iconst X118.here hx rfl (hb hby at_188) ?_
      show Steps p.tables e below (T118.setTop (mkF m 189 #[.val (.long i0), .second, .val (.long i1), .second, .val (.long i2), .second, .val (.long i3), .second, .val (.int i4), .val (.int i5), .val (.int (Int32.ofNat dn)), .val (.int (Int32.ofNat fr)), .val (.int (Int32.ofNat ot)), .val (.int sf), .val (.ref b4), .val (.ref b33), .val (.ref b69), .unset, .unset, .unset, .unset, .unset] [(.int (1 : Int32)), (.ref b69), (.int (1 : Int32)), (.ref b109), (.ref b109)])) _
      refine X118.iaload hx (j := (1 : Int32)) (v := (.int (own_hi i2))) (by rw [e118]; exact Arv124.1) (State.isArrayOf_alike hZ.alike Arv124.2.1) Arv124.2.2 (inb_of Sv124 ⟨by decide, by decide⟩) (Hv124 1 (by rw [Sv124]; decide)) (g := (mkF m 189 #[.val (.long i0), .second, .val (.long i1), .second, .val (.long i2), .second, .val (.long i3), .second, .val (.int i4), .val (.int i5), .val (.int (Int32.ofNat dn)), .val (.int (Int32.ofNat fr)), .val (.int (Int32.ofNat ot)), .val (.int sf), .val (.ref b4), .val (.ref b33), .val (.ref b69), .unset, .unset, .unset, .unset, .unset] [(.int (1 : Int32)), (.ref b69), (.int (1 : Int32)), (.ref b109), (.ref b109)])) rfl rfl (hb hby at_189) _ ?_
      show Steps p.tables e below (T118.setTop (mkF m 190 #[.val (.long i0), .second, .val (.long i1), .second, .val (.long i2), .second, .val (.long i3), .second, .val (.int i4), .val (.int i5), .val (.int (Int32.ofNat dn)), .val (.int (Int32.ofNat fr)), .val (.int (Int32.ofNat ot)), .val (.int sf), .val (.ref b4), .val (.ref b33), .val (.ref b69), .unset, .unset, .unset, .unset, .unset] [(.int (own_hi i2)), (.int (1 : Int32)), (.ref b109), (.ref b109)])) _
      refine XS.i2dS X118.here hx rfl (hb hby at_190) rfl (v := (FP.i2d (own_hi i2))) rfl ?_
      exact kt
    obtain ⟨clu126, Aru126, qu126, Su126, Ngu126, Hu126, Gu126⟩ := id f119
    have hinu126 : ¬ ((1 : Int32) < 0 ∨ clu126.slots.size ≤ ((1 : Int32)).toNatClampNeg) := inb_of Su126 ⟨by decide, by decide⟩
    obtain ⟨T127, h127, X127, e127, W127, st127⟩ := stD X118 hx hZ e118 Aru126 (j := (1 : Int32)) hinu126 (g := (mkF m 191 #[.val (.long i0), .second, .val (.long i1), .second, .val (.long i2), .second, .val (.long i3), .second, .val (.int i4), .val (.int i5), .val (.int (Int32.ofNat dn)), .val (.int (Int32.ofNat fr)), .val (.int (Int32.ofNat ot)), .val (.int sf), .val (.ref b4), .val (.ref b33), .val (.ref b69), .unset, .unset, .unset, .unset, .unset] [(.double (FP.i2d (own_hi i2))), (.int (1 : Int32)), (.ref b109), (.ref b109)])) rfl rfl (hb hby at_191)
    have f128 := Arv.set Aru126 qu126 Su126 Ngu126 Hu126 Gu126 rfl W127 1 rfl (Nat.le_of_ble_eq_true rfl)
    have f129 := (f120.other W127 ne_b4_b109)
    have f130 := (f121.other W127 ne_b33_b109)
    have f131 := (f122.other W127 ne_b69_b109)
    have Zs132 : n0 ≤ h127.size := by rw [W127.size]; exact Zs123
    have N127 := Fr.snoc X127 N118 g_b109
    obtain ⟨clv133, Arv133, -, Sv133, -, Hv133, -⟩ := id f131
    have sg134 : ∀ t, Steps p.tables e below (T127.setTop (mkF m 199 #[.val (.long i0), .second, .val (.long i1), .second, .val (.long i2), .second, .val (.long i3), .second, .val (.int i4), .val (.int i5), .val (.int (Int32.ofNat dn)), .val (.int (Int32.ofNat fr)), .val (.int (Int32.ofNat ot)), .val (.int sf), .val (.ref b4), .val (.ref b33), .val (.ref b69), .unset, .unset, .unset, .unset, .unset] [(.double (FP.i2d (own_lo i3))), (.int (2 : Int32)), (.ref b109), (.ref b109)])) t → Steps p.tables e below (T127.setTop (mkF m 192 #[.val (.long i0), .second, .val (.long i1), .second, .val (.long i2), .second, .val (.long i3), .second, .val (.int i4), .val (.int i5), .val (.int (Int32.ofNat dn)), .val (.int (Int32.ofNat fr)), .val (.int (Int32.ofNat ot)), .val (.int sf), .val (.ref b4), .val (.ref b33), .val (.ref b69), .unset, .unset, .unset, .unset, .unset] [(.ref b109)])) t := by
      intro t kt
      refine XS.dup X127.here hx rfl (hb hby at_192) rfl rfl ?_
      show Steps p.tables e below (T127.setTop (mkF m 193 #[.val (.long i0), .second, .val (.long i1), .second, .val (.long i2), .second, .val (.long i3), .second, .val (.int i4), .val (.int i5), .val (.int (Int32.ofNat dn)), .val (.int (Int32.ofNat fr)), .val (.int (Int32.ofNat ot)), .val (.int sf), .val (.ref b4), .val (.ref b33), .val (.ref b69), .unset, .unset, .unset, .unset, .unset] [(.ref b109), (.ref b109)])) _
      refine XS.iconst X127.here hx rfl (hb hby at_193) ?_
      show Steps p.tables e below (T127.setTop (mkF m 194 #[.val (.long i0), .second, .val (.long i1), .second, .val (.long i2), .second, .val (.long i3), .second, .val (.int i4), .val (.int i5), .val (.int (Int32.ofNat dn)), .val (.int (Int32.ofNat fr)), .val (.int (Int32.ofNat ot)), .val (.int sf), .val (.ref b4), .val (.ref b33), .val (.ref b69), .unset, .unset, .unset, .unset, .unset] [(.int (2 : Int32)), (.ref b109), (.ref b109)])) _
      refine XS.aload X127.here hx rfl (hb hby at_194) rfl rfl ?_
      show Steps p.tables e below (T127.setTop (mkF m 196 #[.val (.long i0), .second, .val (.long i1), .second, .val (.long i2), .second, .val (.long i3), .second, .val (.int i4), .val (.int i5), .val (.int (Int32.ofNat dn)), .val (.int (Int32.ofNat fr)), .val (.int (Int32.ofNat ot)), .val (.int sf), .val (.ref b4), .val (.ref b33), .val (.ref b69), .unset, .unset, .unset, .unset, .unset] [(.ref b69), (.int (2 : Int32)), (.ref b109), (.ref b109)])) _
      refine XS.iconst X127.here hx rfl (hb hby at_196) ?_
      show Steps p.tables e below (T127.setTop (mkF m 197 #[.val (.long i0), .second, .val (.long i1), .second, .val (.long i2), .second, .val (.long i3), .second, .val (.int i4), .val (.int i5), .val (.int (Int32.ofNat dn)), .val (.int (Int32.ofNat fr)), .val (.int (Int32.ofNat ot)), .val (.int sf), .val (.ref b4), .val (.ref b33), .val (.ref b69), .unset, .unset, .unset, .unset, .unset] [(.int (2 : Int32)), (.ref b69), (.int (2 : Int32)), (.ref b109), (.ref b109)])) _
      refine X127.iaload hx (j := (2 : Int32)) (v := (.int (own_lo i3))) (by rw [e127]; exact Arv133.1) (State.isArrayOf_alike hZ.alike Arv133.2.1) Arv133.2.2 (inb_of Sv133 ⟨by decide, by decide⟩) (Hv133 2 (by rw [Sv133]; decide)) (g := (mkF m 197 #[.val (.long i0), .second, .val (.long i1), .second, .val (.long i2), .second, .val (.long i3), .second, .val (.int i4), .val (.int i5), .val (.int (Int32.ofNat dn)), .val (.int (Int32.ofNat fr)), .val (.int (Int32.ofNat ot)), .val (.int sf), .val (.ref b4), .val (.ref b33), .val (.ref b69), .unset, .unset, .unset, .unset, .unset] [(.int (2 : Int32)), (.ref b69), (.int (2 : Int32)), (.ref b109), (.ref b109)])) rfl rfl (hb hby at_197) _ ?_
      show Steps p.tables e below (T127.setTop (mkF m 198 #[.val (.long i0), .second, .val (.long i1), .second, .val (.long i2), .second, .val (.long i3), .second, .val (.int i4), .val (.int i5), .val (.int (Int32.ofNat dn)), .val (.int (Int32.ofNat fr)), .val (.int (Int32.ofNat ot)), .val (.int sf), .val (.ref b4), .val (.ref b33), .val (.ref b69), .unset, .unset, .unset, .unset, .unset] [(.int (own_lo i3)), (.int (2 : Int32)), (.ref b109), (.ref b109)])) _
      refine XS.i2dS X127.here hx rfl (hb hby at_198) rfl (v := (FP.i2d (own_lo i3))) rfl ?_
      exact kt
    obtain ⟨clu135, Aru135, qu135, Su135, Ngu135, Hu135, Gu135⟩ := id f128
    have hinu135 : ¬ ((2 : Int32) < 0 ∨ clu135.slots.size ≤ ((2 : Int32)).toNatClampNeg) := inb_of Su135 ⟨by decide, by decide⟩
    obtain ⟨T136, h136, X136, e136, W136, st136⟩ := stD X127 hx hZ e127 Aru135 (j := (2 : Int32)) hinu135 (g := (mkF m 199 #[.val (.long i0), .second, .val (.long i1), .second, .val (.long i2), .second, .val (.long i3), .second, .val (.int i4), .val (.int i5), .val (.int (Int32.ofNat dn)), .val (.int (Int32.ofNat fr)), .val (.int (Int32.ofNat ot)), .val (.int sf), .val (.ref b4), .val (.ref b33), .val (.ref b69), .unset, .unset, .unset, .unset, .unset] [(.double (FP.i2d (own_lo i3))), (.int (2 : Int32)), (.ref b109), (.ref b109)])) rfl rfl (hb hby at_199)
    have f137 := Arv.set Aru135 qu135 Su135 Ngu135 Hu135 Gu135 rfl W136 2 rfl (Nat.le_of_ble_eq_true rfl)
    have f138 := (f129.other W136 ne_b4_b109)
    have f139 := (f130.other W136 ne_b33_b109)
    have f140 := (f131.other W136 ne_b69_b109)
    have Zs141 : n0 ≤ h136.size := by rw [W136.size]; exact Zs132
    have N136 := Fr.snoc X136 N127 g_b109
    obtain ⟨clv142, Arv142, -, Sv142, -, Hv142, -⟩ := id f140
    have sg143 : ∀ t, Steps p.tables e below (T136.setTop (mkF m 207 #[.val (.long i0), .second, .val (.long i1), .second, .val (.long i2), .second, .val (.long i3), .second, .val (.int i4), .val (.int i5), .val (.int (Int32.ofNat dn)), .val (.int (Int32.ofNat fr)), .val (.int (Int32.ofNat ot)), .val (.int sf), .val (.ref b4), .val (.ref b33), .val (.ref b69), .unset, .unset, .unset, .unset, .unset] [(.double (FP.i2d (own_hi i3))), (.int (3 : Int32)), (.ref b109), (.ref b109)])) t → Steps p.tables e below (T136.setTop (mkF m 200 #[.val (.long i0), .second, .val (.long i1), .second, .val (.long i2), .second, .val (.long i3), .second, .val (.int i4), .val (.int i5), .val (.int (Int32.ofNat dn)), .val (.int (Int32.ofNat fr)), .val (.int (Int32.ofNat ot)), .val (.int sf), .val (.ref b4), .val (.ref b33), .val (.ref b69), .unset, .unset, .unset, .unset, .unset] [(.ref b109)])) t := by
      intro t kt
      refine XS.dup X136.here hx rfl (hb hby at_200) rfl rfl ?_
      show Steps p.tables e below (T136.setTop (mkF m 201 #[.val (.long i0), .second, .val (.long i1), .second, .val (.long i2), .second, .val (.long i3), .second, .val (.int i4), .val (.int i5), .val (.int (Int32.ofNat dn)), .val (.int (Int32.ofNat fr)), .val (.int (Int32.ofNat ot)), .val (.int sf), .val (.ref b4), .val (.ref b33), .val (.ref b69), .unset, .unset, .unset, .unset, .unset] [(.ref b109), (.ref b109)])) _
      refine XS.iconst X136.here hx rfl (hb hby at_201) ?_
      show Steps p.tables e below (T136.setTop (mkF m 202 #[.val (.long i0), .second, .val (.long i1), .second, .val (.long i2), .second, .val (.long i3), .second, .val (.int i4), .val (.int i5), .val (.int (Int32.ofNat dn)), .val (.int (Int32.ofNat fr)), .val (.int (Int32.ofNat ot)), .val (.int sf), .val (.ref b4), .val (.ref b33), .val (.ref b69), .unset, .unset, .unset, .unset, .unset] [(.int (3 : Int32)), (.ref b109), (.ref b109)])) _
      refine XS.aload X136.here hx rfl (hb hby at_202) rfl rfl ?_
      show Steps p.tables e below (T136.setTop (mkF m 204 #[.val (.long i0), .second, .val (.long i1), .second, .val (.long i2), .second, .val (.long i3), .second, .val (.int i4), .val (.int i5), .val (.int (Int32.ofNat dn)), .val (.int (Int32.ofNat fr)), .val (.int (Int32.ofNat ot)), .val (.int sf), .val (.ref b4), .val (.ref b33), .val (.ref b69), .unset, .unset, .unset, .unset, .unset] [(.ref b69), (.int (3 : Int32)), (.ref b109), (.ref b109)])) _
      refine XS.iconst X136.here hx rfl (hb hby at_204) ?_
      show Steps p.tables e below (T136.setTop (mkF m 205 #[.val (.long i0), .second, .val (.long i1), .second, .val (.long i2), .second, .val (.long i3), .second, .val (.int i4), .val (.int i5), .val (.int (Int32.ofNat dn)), .val (.int (Int32.ofNat fr)), .val (.int (Int32.ofNat ot)), .val (.int sf), .val (.ref b4), .val (.ref b33), .val (.ref b69), .unset, .unset, .unset, .unset, .unset] [(.int (3 : Int32)), (.ref b69), (.int (3 : Int32)), (.ref b109), (.ref b109)])) _
      refine X136.iaload hx (j := (3 : Int32)) (v := (.int (own_hi i3))) (by rw [e136]; exact Arv142.1) (State.isArrayOf_alike hZ.alike Arv142.2.1) Arv142.2.2 (inb_of Sv142 ⟨by decide, by decide⟩) (Hv142 3 (by rw [Sv142]; decide)) (g := (mkF m 205 #[.val (.long i0), .second, .val (.long i1), .second, .val (.long i2), .second, .val (.long i3), .second, .val (.int i4), .val (.int i5), .val (.int (Int32.ofNat dn)), .val (.int (Int32.ofNat fr)), .val (.int (Int32.ofNat ot)), .val (.int sf), .val (.ref b4), .val (.ref b33), .val (.ref b69), .unset, .unset, .unset, .unset, .unset] [(.int (3 : Int32)), (.ref b69), (.int (3 : Int32)), (.ref b109), (.ref b109)])) rfl rfl (hb hby at_205) _ ?_
      show Steps p.tables e below (T136.setTop (mkF m 206 #[.val (.long i0), .second, .val (.long i1), .second, .val (.long i2), .second, .val (.long i3), .second, .val (.int i4), .val (.int i5), .val (.int (Int32.ofNat dn)), .val (.int (Int32.ofNat fr)), .val (.int (Int32.ofNat ot)), .val (.int sf), .val (.ref b4), .val (.ref b33), .val (.ref b69), .unset, .unset, .unset, .unset, .unset] [(.int (own_hi i3)), (.int (3 : Int32)), (.ref b109), (.ref b109)])) _
      refine XS.i2dS X136.here hx rfl (hb hby at_206) rfl (v := (FP.i2d (own_hi i3))) rfl ?_
      exact kt
    obtain ⟨clu144, Aru144, qu144, Su144, Ngu144, Hu144, Gu144⟩ := id f137
    have hinu144 : ¬ ((3 : Int32) < 0 ∨ clu144.slots.size ≤ ((3 : Int32)).toNatClampNeg) := inb_of Su144 ⟨by decide, by decide⟩
    obtain ⟨T145, h145, X145, e145, W145, st145⟩ := stD X136 hx hZ e136 Aru144 (j := (3 : Int32)) hinu144 (g := (mkF m 207 #[.val (.long i0), .second, .val (.long i1), .second, .val (.long i2), .second, .val (.long i3), .second, .val (.int i4), .val (.int i5), .val (.int (Int32.ofNat dn)), .val (.int (Int32.ofNat fr)), .val (.int (Int32.ofNat ot)), .val (.int sf), .val (.ref b4), .val (.ref b33), .val (.ref b69), .unset, .unset, .unset, .unset, .unset] [(.double (FP.i2d (own_hi i3))), (.int (3 : Int32)), (.ref b109), (.ref b109)])) rfl rfl (hb hby at_207)
    have f146 := Arv.set Aru144 qu144 Su144 Ngu144 Hu144 Gu144 rfl W145 3 rfl (Nat.le_of_ble_eq_true rfl)
    have f147 := (f138.other W145 ne_b4_b109)
    have f148 := (f139.other W145 ne_b33_b109)
    have f149 := (f140.other W145 ne_b69_b109)
    have Zs150 : n0 ≤ h145.size := by rw [W145.size]; exact Zs141
    have N145 := Fr.snoc X145 N136 g_b109
    have sg151 : ∀ t, Steps p.tables e below (T145.setTop (mkF m 210 #[.val (.long i0), .second, .val (.long i1), .second, .val (.long i2), .second, .val (.long i3), .second, .val (.int i4), .val (.int i5), .val (.int (Int32.ofNat dn)), .val (.int (Int32.ofNat fr)), .val (.int (Int32.ofNat ot)), .val (.int sf), .val (.ref b4), .val (.ref b33), .val (.ref b69), .val (.ref b109), .unset, .unset, .unset, .unset] [])) t → Steps p.tables e below (T145.setTop (mkF m 208 #[.val (.long i0), .second, .val (.long i1), .second, .val (.long i2), .second, .val (.long i3), .second, .val (.int i4), .val (.int i5), .val (.int (Int32.ofNat dn)), .val (.int (Int32.ofNat fr)), .val (.int (Int32.ofNat ot)), .val (.int sf), .val (.ref b4), .val (.ref b33), .val (.ref b69), .unset, .unset, .unset, .unset, .unset] [(.ref b109)])) t := by
      intro t kt
      refine XS.astore X145.here hx rfl (hb hby at_208) rfl rfl (l' := #[.val (.long i0), .second, .val (.long i1), .second, .val (.long i2), .second, .val (.long i3), .second, .val (.int i4), .val (.int i5), .val (.int (Int32.ofNat dn)), .val (.int (Int32.ofNat fr)), .val (.int (Int32.ofNat ot)), .val (.int sf), .val (.ref b4), .val (.ref b33), .val (.ref b69), .val (.ref b109), .unset, .unset, .unset, .unset]) rfl ?_
      exact kt
    have hbf : ∀ n, own_B ((own_at [own_lo i0, own_hi i0, own_lo i1, own_hi i1] fr) n) := own_atB [own_lo i0, own_hi i0, own_lo i1, own_hi i1] fr (by simp only [List.mem_cons, List.not_mem_nil, or_false]; rintro x (rfl | rfl | rfl | rfl) <;> first | exact own_lo_B _ | exact own_hi_B _)
    have hbg : ∀ n, own_B ((own_at [own_lo i2, own_hi i2, own_lo i3, own_hi i3] ot) n) := own_atB [own_lo i2, own_hi i2, own_lo i3, own_hi i3] ot (by simp only [List.mem_cons, List.not_mem_nil, or_false]; rintro x (rfl | rfl | rfl | rfl) <;> first | exact own_lo_B _ | exact own_hi_B _)
    obtain ⟨c1, A1, -, S1, -, H1, -⟩ := id f147
    obtain ⟨c2, A2, -, S2, -, H2, -⟩ := id f149
    have z1 : c1.slots.size = 4 := S1
    have z2 : c2.slots.size = 4 := S2
    obtain ⟨T152, L152, rf, X152, e152, N152, hrf, st152⟩ := own_ref (a0 := a0) (n0 := n0) (own_at [own_lo i0, own_hi i0, own_lo i1, own_hi i1] fr) (own_at [own_lo i2, own_hi i2, own_lo i3, own_hi i3] ot) hbf hbg fr ot dn hdn hfr4 hot4 i0 i1 i2 i3 i4 i5 (.val (.int sf)) b4 b33 b69 b109 c1 c2 X145 hx hZ hw hby hml hown e145 rfl (by decide) (by decide) Zs150 N145 A1 z1 (fun n hn => by rw [H1 _ (by rw [z1]; exact own_lt hn hfr4)]; exact congrArg some (own_getI [own_lo i0, own_hi i0, own_lo i1, own_hi i1] (k := fr) (n := n) (own_lt hn hfr4))) A2 z2 (fun n hn => by rw [H2 _ (by rw [z2]; exact own_lt hn hot4)]; exact congrArg some (own_getI [own_lo i2, own_hi i2, own_lo i3, own_hi i3] (k := ot) (n := n) (own_lt hn hot4)))
    have sg153 : ∀ t, Steps p.tables e below (T152.setTop (mkF m 296 #[.val (.long i0), .second, .val (.long i1), .second, .val (.long i2), .second, .val (.long i3), .second, .val (.int i4), .val (.int i5), .val (.int (Int32.ofNat dn)), .val (.int (Int32.ofNat fr)), .val (.int (Int32.ofNat ot)), .val (.int sf), .val (.ref b4), .val (.ref b33), .val (.ref b69), .val (.ref b109), .val (.long rf), .second, .unset, .unset] [(.int (Int32.ofNat dn)), (.int (Int32.ofNat ot)), (.ref b109), (.int (Int32.ofNat fr)), (.ref b33)])) t → Steps p.tables e below (T152.setTop (mkF m 286 #[.val (.long i0), .second, .val (.long i1), .second, .val (.long i2), .second, .val (.long i3), .second, .val (.int i4), .val (.int i5), .val (.int (Int32.ofNat dn)), .val (.int (Int32.ofNat fr)), .val (.int (Int32.ofNat ot)), .val (.int sf), .val (.ref b4), .val (.ref b33), .val (.ref b69), .val (.ref b109), .val (.long rf), .second, .unset, .unset] [])) t := by
      intro t kt
      refine XS.aload X152.here hx rfl (hb hby at_286) rfl rfl ?_
      show Steps p.tables e below (T152.setTop (mkF m 288 #[.val (.long i0), .second, .val (.long i1), .second, .val (.long i2), .second, .val (.long i3), .second, .val (.int i4), .val (.int i5), .val (.int (Int32.ofNat dn)), .val (.int (Int32.ofNat fr)), .val (.int (Int32.ofNat ot)), .val (.int sf), .val (.ref b4), .val (.ref b33), .val (.ref b69), .val (.ref b109), .val (.long rf), .second, .unset, .unset] [(.ref b33)])) _
      refine XS.iload X152.here hx rfl (hb hby at_288) rfl ?_
      show Steps p.tables e below (T152.setTop (mkF m 290 #[.val (.long i0), .second, .val (.long i1), .second, .val (.long i2), .second, .val (.long i3), .second, .val (.int i4), .val (.int i5), .val (.int (Int32.ofNat dn)), .val (.int (Int32.ofNat fr)), .val (.int (Int32.ofNat ot)), .val (.int sf), .val (.ref b4), .val (.ref b33), .val (.ref b69), .val (.ref b109), .val (.long rf), .second, .unset, .unset] [(.int (Int32.ofNat fr)), (.ref b33)])) _
      refine XS.aload X152.here hx rfl (hb hby at_290) rfl rfl ?_
      show Steps p.tables e below (T152.setTop (mkF m 292 #[.val (.long i0), .second, .val (.long i1), .second, .val (.long i2), .second, .val (.long i3), .second, .val (.int i4), .val (.int i5), .val (.int (Int32.ofNat dn)), .val (.int (Int32.ofNat fr)), .val (.int (Int32.ofNat ot)), .val (.int sf), .val (.ref b4), .val (.ref b33), .val (.ref b69), .val (.ref b109), .val (.long rf), .second, .unset, .unset] [(.ref b109), (.int (Int32.ofNat fr)), (.ref b33)])) _
      refine XS.iload X152.here hx rfl (hb hby at_292) rfl ?_
      show Steps p.tables e below (T152.setTop (mkF m 294 #[.val (.long i0), .second, .val (.long i1), .second, .val (.long i2), .second, .val (.long i3), .second, .val (.int i4), .val (.int i5), .val (.int (Int32.ofNat dn)), .val (.int (Int32.ofNat fr)), .val (.int (Int32.ofNat ot)), .val (.int sf), .val (.ref b4), .val (.ref b33), .val (.ref b69), .val (.ref b109), .val (.long rf), .second, .unset, .unset] [(.int (Int32.ofNat ot)), (.ref b109), (.int (Int32.ofNat fr)), (.ref b33)])) _
      refine XS.iload X152.here hx rfl (hb hby at_294) rfl ?_
      exact kt
    obtain ⟨_, _, ⟨T154, L154, k154, n154⟩, -, X154, ⟨Lc154, hQ154, l154, y154, z154⟩, st154⟩ := Jvm.LawKit.callS X152 hx (y := (⟨"com/example/cairnwise/cairnwise/model/Points", "squaredDistance", "([DI[DII)D"⟩ : MethodName)) hown (mvT hZ (hw _ (List.mem_of_getElem? (i := 13) rfl))) (mvT hZ (hw _ (List.mem_of_getElem? (i := 14) rfl))) (mvT hZ (hw _ (List.mem_of_getElem? (i := 15) rfl))) (mvT hZ (hw _ (List.mem_of_getElem? (i := 16) rfl))) (by decide) (backOf (W := 0) (rm4 l Z a0 hw [] b33 fr b109 ot dn (own_at [own_lo i0, own_hi i0, own_lo i1, own_hi i1] fr) (own_at [own_lo i2, own_hi i2, own_lo i3, own_hi i3] ot) k32 k108 [(.double (FP.i2d (own_lo i0))), (.double (FP.i2d (own_hi i0))), (.double (FP.i2d (own_lo i1))), (.double (FP.i2d (own_hi i1)))] [(.double (FP.i2d (own_lo i2))), (.double (FP.i2d (own_hi i2))), (.double (FP.i2d (own_lo i3))), (.double (FP.i2d (own_hi i3)))] h145 n0 Zs150 hbf hbg hfr4 hot4 f148 (fun n hn => own_getD [own_lo i0, own_hi i0, own_lo i1, own_hi i1] (k := fr) (n := n) (own_lt hn hfr4)) f146 (fun n hn => own_getD [own_lo i2, own_hi i2, own_lo i3, own_hi i3] (k := ot) (n := n) (own_lt hn hot4))) hZ (hw _ (List.mem_of_getElem? (i := 16) rfl)) (hw _ (List.mem_of_getElem? (i := 15) rfl)) (by decide) (by decide)) (g := (mkF m 296 #[.val (.long i0), .second, .val (.long i1), .second, .val (.long i2), .second, .val (.long i3), .second, .val (.int i4), .val (.int i5), .val (.int (Int32.ofNat dn)), .val (.int (Int32.ofNat fr)), .val (.int (Int32.ofNat ot)), .val (.int sf), .val (.ref b4), .val (.ref b33), .val (.ref b69), .val (.ref b109), .val (.long rf), .second, .unset, .unset] [(.int (Int32.ofNat dn)), (.int (Int32.ofNat ot)), (.ref b109), (.int (Int32.ofNat fr)), (.ref b33)])) rfl (by rw [hml]; rfl) (argsL := [(.ref b33), (.int (Int32.ofNat fr)), (.ref b109), (.int (Int32.ofNat ot)), (.int (Int32.ofNat dn))]) (rest := []) (lenOf pd_2 rfl) rfl (by show 2 * 0 + _ ≤ _; exact Nat.le_of_eq rfl) (hb hby at_296) (fun _ _ => ⟨rfl, e152, (by decide : 4 + 0 ≤ _), (by decide : 16 + 0 ≤ _)⟩)
    dsimp only [Pt.U, Pt.locs, Pt.cells, Pt.slots] at X154 l154 y154 z154 st154 hQ154
    subst l154 y154 z154
    obtain ⟨⟨u', rfl, hu'⟩, Nq154, eq154⟩ := hQ154
    have N154 := Fr.app N152 Nq154
    have hcmp : cmpValue (FP.dcmp u' (FP.l2d rf)) .l = 0 := own_same hu' hrf (own_ssq_b _ _ hbf hbg dn) hdn
    have sg155 : ∀ t, Steps p.tables e below (T154.setTop (mkF m 315 #[.val (.long i0), .second, .val (.long i1), .second, .val (.long i2), .second, .val (.long i3), .second, .val (.int i4), .val (.int i5), .val (.int (Int32.ofNat dn)), .val (.int (Int32.ofNat fr)), .val (.int (Int32.ofNat ot)), .val (.int sf), .val (.ref b4), .val (.ref b33), .val (.ref b69), .val (.ref b109), .val (.long rf), .second, .val (.double u'), .second] [(.int (1 : Int32))])) t → Steps p.tables e below (T154.setTop (mkF m 299 #[.val (.long i0), .second, .val (.long i1), .second, .val (.long i2), .second, .val (.long i3), .second, .val (.int i4), .val (.int i5), .val (.int (Int32.ofNat dn)), .val (.int (Int32.ofNat fr)), .val (.int (Int32.ofNat ot)), .val (.int sf), .val (.ref b4), .val (.ref b33), .val (.ref b69), .val (.ref b109), .val (.long rf), .second, .unset, .unset] [(.double u')])) t := by
      intro t kt
      refine XS.dstore X154.here hx rfl (hb hby at_299) rfl (l' := #[.val (.long i0), .second, .val (.long i1), .second, .val (.long i2), .second, .val (.long i3), .second, .val (.int i4), .val (.int i5), .val (.int (Int32.ofNat dn)), .val (.int (Int32.ofNat fr)), .val (.int (Int32.ofNat ot)), .val (.int sf), .val (.ref b4), .val (.ref b33), .val (.ref b69), .val (.ref b109), .val (.long rf), .second, .val (.double u'), .second]) rfl ?_
      show Steps p.tables e below (T154.setTop (mkF m 301 #[.val (.long i0), .second, .val (.long i1), .second, .val (.long i2), .second, .val (.long i3), .second, .val (.int i4), .val (.int i5), .val (.int (Int32.ofNat dn)), .val (.int (Int32.ofNat fr)), .val (.int (Int32.ofNat ot)), .val (.int sf), .val (.ref b4), .val (.ref b33), .val (.ref b69), .val (.ref b109), .val (.long rf), .second, .val (.double u'), .second] [])) _
      refine XS.dload X154.here hx rfl (hb hby at_301) rfl ?_
      show Steps p.tables e below (T154.setTop (mkF m 303 #[.val (.long i0), .second, .val (.long i1), .second, .val (.long i2), .second, .val (.long i3), .second, .val (.int i4), .val (.int i5), .val (.int (Int32.ofNat dn)), .val (.int (Int32.ofNat fr)), .val (.int (Int32.ofNat ot)), .val (.int sf), .val (.ref b4), .val (.ref b33), .val (.ref b69), .val (.ref b109), .val (.long rf), .second, .val (.double u'), .second] [(.double u')])) _
      refine XS.lload X154.here hx rfl (hb hby at_303) rfl ?_
      show Steps p.tables e below (T154.setTop (mkF m 305 #[.val (.long i0), .second, .val (.long i1), .second, .val (.long i2), .second, .val (.long i3), .second, .val (.int i4), .val (.int i5), .val (.int (Int32.ofNat dn)), .val (.int (Int32.ofNat fr)), .val (.int (Int32.ofNat ot)), .val (.int sf), .val (.ref b4), .val (.ref b33), .val (.ref b69), .val (.ref b109), .val (.long rf), .second, .val (.double u'), .second] [(.long rf), (.double u')])) _
      refine XS.l2dS X154.here hx rfl (hb hby at_305) rfl (v := (FP.l2d rf)) rfl ?_
      show Steps p.tables e below (T154.setTop (mkF m 306 #[.val (.long i0), .second, .val (.long i1), .second, .val (.long i2), .second, .val (.long i3), .second, .val (.int i4), .val (.int i5), .val (.int (Int32.ofNat dn)), .val (.int (Int32.ofNat fr)), .val (.int (Int32.ofNat ot)), .val (.int sf), .val (.ref b4), .val (.ref b33), .val (.ref b69), .val (.ref b109), .val (.long rf), .second, .val (.double u'), .second] [(.double (FP.l2d rf)), (.double u')])) _
      refine XS.dcmpS X154.here hx rfl (hb hby at_306) rfl (v := (cmpValue (FP.dcmp u' (FP.l2d rf)) .l)) rfl ?_
      show Steps p.tables e below (T154.setTop (mkF m 307 #[.val (.long i0), .second, .val (.long i1), .second, .val (.long i2), .second, .val (.long i3), .second, .val (.int i4), .val (.int i5), .val (.int (Int32.ofNat dn)), .val (.int (Int32.ofNat fr)), .val (.int (Int32.ofNat ot)), .val (.int sf), .val (.ref b4), .val (.ref b33), .val (.ref b69), .val (.ref b109), .val (.long rf), .second, .val (.double u'), .second] [(.int (cmpValue (FP.dcmp u' (FP.l2d rf)) .l))])) _
      refine XS.ifNo X154.here hx rfl (hb hby at_307) rfl ((if0 _ _).trans (teq (hcmp : (cmpValue (FP.dcmp u' (FP.l2d rf)) .l) = (0 : Int32))).2) ?_
      show Steps p.tables e below (T154.setTop (mkF m 310 #[.val (.long i0), .second, .val (.long i1), .second, .val (.long i2), .second, .val (.long i3), .second, .val (.int i4), .val (.int i5), .val (.int (Int32.ofNat dn)), .val (.int (Int32.ofNat fr)), .val (.int (Int32.ofNat ot)), .val (.int sf), .val (.ref b4), .val (.ref b33), .val (.ref b69), .val (.ref b109), .val (.long rf), .second, .val (.double u'), .second] [])) _
      refine XS.iconst X154.here hx rfl (hb hby at_310) ?_
      show Steps p.tables e below (T154.setTop (mkF m 311 #[.val (.long i0), .second, .val (.long i1), .second, .val (.long i2), .second, .val (.long i3), .second, .val (.int i4), .val (.int i5), .val (.int (Int32.ofNat dn)), .val (.int (Int32.ofNat fr)), .val (.int (Int32.ofNat ot)), .val (.int sf), .val (.ref b4), .val (.ref b33), .val (.ref b69), .val (.ref b109), .val (.long rf), .second, .val (.double u'), .second] [(.int (1 : Int32))])) _
      refine XS.goto X154.here hx rfl (pc0 := 311) (pc' := 315) rfl (hb hby at_311) (by decide) (by decide) ?_
      exact kt
    obtain ⟨fs, hr, hrun, hended, hW, hsame⟩ := X154.leave (v := some (.int (1 : Int32))) (fun h => by rw [Bd.returns] at h; cases h)
    refine ⟨_, _, pre0 _ ?_, hrun, hended, _, _, rfl, ?_, ⟨_, rfl⟩, hW, hsame.mono (by decide) (by decide)⟩
    · refine sg1 _ ?_
      refine sf_st _ ?_
      refine sg2 _ ?_
      refine st3 _ ?_
      refine sg7 _ ?_
      refine st8 _ ?_
      refine st10 _ ?_
      refine sg13 _ ?_
      refine st14 _ ?_
      refine st16 _ ?_
      refine sg19 _ ?_
      refine st20 _ ?_
      refine st22 _ ?_
      refine sg25 _ ?_
      refine st26 _ ?_
      refine st28 _ ?_
      refine sg31 _ ?_
      refine st32 _ ?_
      refine sg38 _ ?_
      refine st40 _ ?_
      refine sg45 _ ?_
      refine st47 _ ?_
      refine sg52 _ ?_
      refine st54 _ ?_
      refine sg59 _ ?_
      refine st61 _ ?_
      refine sg65 _ ?_
      refine sg66 _ ?_
      refine sg67 _ ?_
      refine st68 _ ?_
      refine sg74 _ ?_
      refine st75 _ ?_
      refine st77 _ ?_
      refine sg82 _ ?_
      refine st83 _ ?_
      refine st85 _ ?_
      refine sg90 _ ?_
      refine st91 _ ?_
      refine st93 _ ?_
      refine sg98 _ ?_
      refine st99 _ ?_
      refine st101 _ ?_
      refine sg106 _ ?_
      refine sg107 _ ?_
      refine st108 _ ?_
      refine sg116 _ ?_
      refine st118 _ ?_
      refine sg125 _ ?_
      refine st127 _ ?_
      refine sg134 _ ?_
      refine st136 _ ?_
      refine sg143 _ ?_
      refine st145 _ ?_
      refine sg151 _ ?_
      refine st152 _ ?_
      refine sg153 _ ?_
      refine st154 _ ?_
      refine sg155 _ ?_
      exact retN X154 hx (t := .boolean) Bd.returns (by simp) (hb hby at_315) hr
    · show Q0 Z i0 i1 i2 i3 i4 i5 h0 n0 _ T154.heap _
      rw [eq154]; exact ⟨rfl, N154⟩
  · have sg67 : ∀ t, Steps p.tables e below (T61.setTop (mkF m 210 #[.val (.long i0), .second, .val (.long i1), .second, .val (.long i2), .second, .val (.long i3), .second, .val (.int i4), .val (.int i5), .val (.int (Int32.ofNat dn)), .val (.int (Int32.ofNat fr)), .val (.int (Int32.ofNat ot)), .val (.int sf), .val (.ref b4), .val (.ref b33), .val (.ref b4), .val (.ref b33), .unset, .unset, .unset, .unset] [])) t → Steps p.tables e below (T61.setTop (mkF m 118 #[.val (.long i0), .second, .val (.long i1), .second, .val (.long i2), .second, .val (.long i3), .second, .val (.int i4), .val (.int i5), .val (.int (Int32.ofNat dn)), .val (.int (Int32.ofNat fr)), .val (.int (Int32.ofNat ot)), .val (.int sf), .val (.ref b4), .val (.ref b33), .unset, .unset, .unset, .unset, .unset, .unset] [(.int sf)])) t := by
      intro t kt
      refine XS.ifNo X61.here hx rfl (hb hby at_118) rfl ((if0 _ _).trans (feq (c118 : ¬ (sf = (0 : Int32)))).1) ?_
      show Steps p.tables e below (T61.setTop (mkF m 121 #[.val (.long i0), .second, .val (.long i1), .second, .val (.long i2), .second, .val (.long i3), .second, .val (.int i4), .val (.int i5), .val (.int (Int32.ofNat dn)), .val (.int (Int32.ofNat fr)), .val (.int (Int32.ofNat ot)), .val (.int sf), .val (.ref b4), .val (.ref b33), .unset, .unset, .unset, .unset, .unset, .unset] [])) _
      refine XS.aload X61.here hx rfl (hb hby at_121) rfl rfl ?_
      show Steps p.tables e below (T61.setTop (mkF m 123 #[.val (.long i0), .second, .val (.long i1), .second, .val (.long i2), .second, .val (.long i3), .second, .val (.int i4), .val (.int i5), .val (.int (Int32.ofNat dn)), .val (.int (Int32.ofNat fr)), .val (.int (Int32.ofNat ot)), .val (.int sf), .val (.ref b4), .val (.ref b33), .unset, .unset, .unset, .unset, .unset, .unset] [(.ref b4)])) _
      refine XS.goto X61.here hx rfl (pc0 := 123) (pc' := 161) rfl (hb hby at_123) (by decide) (by decide) ?_
      show Steps p.tables e below (T61.setTop (mkF m 161 #[.val (.long i0), .second, .val (.long i1), .second, .val (.long i2), .second, .val (.long i3), .second, .val (.int i4), .val (.int i5), .val (.int (Int32.ofNat dn)), .val (.int (Int32.ofNat fr)), .val (.int (Int32.ofNat ot)), .val (.int sf), .val (.ref b4), .val (.ref b33), .unset, .unset, .unset, .unset, .unset, .unset] [(.ref b4)])) _
      refine XS.astore X61.here hx rfl (hb hby at_161) rfl rfl (l' := #[.val (.long i0), .second, .val (.long i1), .second, .val (.long i2), .second, .val (.long i3), .second, .val (.int i4), .val (.int i5), .val (.int (Int32.ofNat dn)), .val (.int (Int32.ofNat fr)), .val (.int (Int32.ofNat ot)), .val (.int sf), .val (.ref b4), .val (.ref b33), .val (.ref b4), .unset, .unset, .unset, .unset, .unset]) rfl ?_
      show Steps p.tables e below (T61.setTop (mkF m 163 #[.val (.long i0), .second, .val (.long i1), .second, .val (.long i2), .second, .val (.long i3), .second, .val (.int i4), .val (.int i5), .val (.int (Int32.ofNat dn)), .val (.int (Int32.ofNat fr)), .val (.int (Int32.ofNat ot)), .val (.int sf), .val (.ref b4), .val (.ref b33), .val (.ref b4), .unset, .unset, .unset, .unset, .unset] [])) _
      refine XS.iload X61.here hx rfl (hb hby at_163) rfl ?_
      show Steps p.tables e below (T61.setTop (mkF m 165 #[.val (.long i0), .second, .val (.long i1), .second, .val (.long i2), .second, .val (.long i3), .second, .val (.int i4), .val (.int i5), .val (.int (Int32.ofNat dn)), .val (.int (Int32.ofNat fr)), .val (.int (Int32.ofNat ot)), .val (.int sf), .val (.ref b4), .val (.ref b33), .val (.ref b4), .unset, .unset, .unset, .unset, .unset] [(.int sf)])) _
      refine XS.ifNo X61.here hx rfl (hb hby at_165) rfl ((if0 _ _).trans (feq (c118 : ¬ (sf = (0 : Int32)))).1) ?_
      show Steps p.tables e below (T61.setTop (mkF m 168 #[.val (.long i0), .second, .val (.long i1), .second, .val (.long i2), .second, .val (.long i3), .second, .val (.int i4), .val (.int i5), .val (.int (Int32.ofNat dn)), .val (.int (Int32.ofNat fr)), .val (.int (Int32.ofNat ot)), .val (.int sf), .val (.ref b4), .val (.ref b33), .val (.ref b4), .unset, .unset, .unset, .unset, .unset] [])) _
      refine XS.aload X61.here hx rfl (hb hby at_168) rfl rfl ?_
      show Steps p.tables e below (T61.setTop (mkF m 170 #[.val (.long i0), .second, .val (.long i1), .second, .val (.long i2), .second, .val (.long i3), .second, .val (.int i4), .val (.int i5), .val (.int (Int32.ofNat dn)), .val (.int (Int32.ofNat fr)), .val (.int (Int32.ofNat ot)), .val (.int sf), .val (.ref b4), .val (.ref b33), .val (.ref b4), .unset, .unset, .unset, .unset, .unset] [(.ref b33)])) _
      refine XS.goto X61.here hx rfl (pc0 := 170) (pc' := 208) rfl (hb hby at_170) (by decide) (by decide) ?_
      show Steps p.tables e below (T61.setTop (mkF m 208 #[.val (.long i0), .second, .val (.long i1), .second, .val (.long i2), .second, .val (.long i3), .second, .val (.int i4), .val (.int i5), .val (.int (Int32.ofNat dn)), .val (.int (Int32.ofNat fr)), .val (.int (Int32.ofNat ot)), .val (.int sf), .val (.ref b4), .val (.ref b33), .val (.ref b4), .unset, .unset, .unset, .unset, .unset] [(.ref b33)])) _
      refine XS.astore X61.here hx rfl (hb hby at_208) rfl rfl (l' := #[.val (.long i0), .second, .val (.long i1), .second, .val (.long i2), .second, .val (.long i3), .second, .val (.int i4), .val (.int i5), .val (.int (Int32.ofNat dn)), .val (.int (Int32.ofNat fr)), .val (.int (Int32.ofNat ot)), .val (.int sf), .val (.ref b4), .val (.ref b33), .val (.ref b4), .val (.ref b33), .unset, .unset, .unset, .unset]) rfl ?_
      exact kt
    have hbf : ∀ n, own_B ((own_at [own_lo i0, own_hi i0, own_lo i1, own_hi i1] fr) n) := own_atB [own_lo i0, own_hi i0, own_lo i1, own_hi i1] fr (by simp only [List.mem_cons, List.not_mem_nil, or_false]; rintro x (rfl | rfl | rfl | rfl) <;> first | exact own_lo_B _ | exact own_hi_B _)
    have hbg : ∀ n, own_B ((own_at [own_lo i0, own_hi i0, own_lo i1, own_hi i1] ot) n) := own_atB [own_lo i0, own_hi i0, own_lo i1, own_hi i1] ot (by simp only [List.mem_cons, List.not_mem_nil, or_false]; rintro x (rfl | rfl | rfl | rfl) <;> first | exact own_lo_B _ | exact own_hi_B _)
    obtain ⟨c1, A1, -, S1, -, H1, -⟩ := id f63
    obtain ⟨c2, A2, -, S2, -, H2, -⟩ := id f63
    have z1 : c1.slots.size = 4 := S1
    have z2 : c2.slots.size = 4 := S2
    obtain ⟨T68, L68, rf, X68, e68, N68, hrf, st68⟩ := own_ref (a0 := a0) (n0 := n0) (own_at [own_lo i0, own_hi i0, own_lo i1, own_hi i1] fr) (own_at [own_lo i0, own_hi i0, own_lo i1, own_hi i1] ot) hbf hbg fr ot dn hdn hfr4 hot4 i0 i1 i2 i3 i4 i5 (.val (.int sf)) b4 b33 b4 b33 c1 c2 X61 hx hZ hw hby hml hown e61 rfl (by decide) (by decide) Zs64 N61 A1 z1 (fun n hn => by rw [H1 _ (by rw [z1]; exact own_lt hn hfr4)]; exact congrArg some (own_getI [own_lo i0, own_hi i0, own_lo i1, own_hi i1] (k := fr) (n := n) (own_lt hn hfr4))) A2 z2 (fun n hn => by rw [H2 _ (by rw [z2]; exact own_lt hn hot4)]; exact congrArg some (own_getI [own_lo i0, own_hi i0, own_lo i1, own_hi i1] (k := ot) (n := n) (own_lt hn hot4)))
    have sg69 : ∀ t, Steps p.tables e below (T68.setTop (mkF m 296 #[.val (.long i0), .second, .val (.long i1), .second, .val (.long i2), .second, .val (.long i3), .second, .val (.int i4), .val (.int i5), .val (.int (Int32.ofNat dn)), .val (.int (Int32.ofNat fr)), .val (.int (Int32.ofNat ot)), .val (.int sf), .val (.ref b4), .val (.ref b33), .val (.ref b4), .val (.ref b33), .val (.long rf), .second, .unset, .unset] [(.int (Int32.ofNat dn)), (.int (Int32.ofNat ot)), (.ref b33), (.int (Int32.ofNat fr)), (.ref b33)])) t → Steps p.tables e below (T68.setTop (mkF m 286 #[.val (.long i0), .second, .val (.long i1), .second, .val (.long i2), .second, .val (.long i3), .second, .val (.int i4), .val (.int i5), .val (.int (Int32.ofNat dn)), .val (.int (Int32.ofNat fr)), .val (.int (Int32.ofNat ot)), .val (.int sf), .val (.ref b4), .val (.ref b33), .val (.ref b4), .val (.ref b33), .val (.long rf), .second, .unset, .unset] [])) t := by
      intro t kt
      refine XS.aload X68.here hx rfl (hb hby at_286) rfl rfl ?_
      show Steps p.tables e below (T68.setTop (mkF m 288 #[.val (.long i0), .second, .val (.long i1), .second, .val (.long i2), .second, .val (.long i3), .second, .val (.int i4), .val (.int i5), .val (.int (Int32.ofNat dn)), .val (.int (Int32.ofNat fr)), .val (.int (Int32.ofNat ot)), .val (.int sf), .val (.ref b4), .val (.ref b33), .val (.ref b4), .val (.ref b33), .val (.long rf), .second, .unset, .unset] [(.ref b33)])) _
      refine XS.iload X68.here hx rfl (hb hby at_288) rfl ?_
      show Steps p.tables e below (T68.setTop (mkF m 290 #[.val (.long i0), .second, .val (.long i1), .second, .val (.long i2), .second, .val (.long i3), .second, .val (.int i4), .val (.int i5), .val (.int (Int32.ofNat dn)), .val (.int (Int32.ofNat fr)), .val (.int (Int32.ofNat ot)), .val (.int sf), .val (.ref b4), .val (.ref b33), .val (.ref b4), .val (.ref b33), .val (.long rf), .second, .unset, .unset] [(.int (Int32.ofNat fr)), (.ref b33)])) _
      refine XS.aload X68.here hx rfl (hb hby at_290) rfl rfl ?_
      show Steps p.tables e below (T68.setTop (mkF m 292 #[.val (.long i0), .second, .val (.long i1), .second, .val (.long i2), .second, .val (.long i3), .second, .val (.int i4), .val (.int i5), .val (.int (Int32.ofNat dn)), .val (.int (Int32.ofNat fr)), .val (.int (Int32.ofNat ot)), .val (.int sf), .val (.ref b4), .val (.ref b33), .val (.ref b4), .val (.ref b33), .val (.long rf), .second, .unset, .unset] [(.ref b33), (.int (Int32.ofNat fr)), (.ref b33)])) _
      refine XS.iload X68.here hx rfl (hb hby at_292) rfl ?_
      show Steps p.tables e below (T68.setTop (mkF m 294 #[.val (.long i0), .second, .val (.long i1), .second, .val (.long i2), .second, .val (.long i3), .second, .val (.int i4), .val (.int i5), .val (.int (Int32.ofNat dn)), .val (.int (Int32.ofNat fr)), .val (.int (Int32.ofNat ot)), .val (.int sf), .val (.ref b4), .val (.ref b33), .val (.ref b4), .val (.ref b33), .val (.long rf), .second, .unset, .unset] [(.int (Int32.ofNat ot)), (.ref b33), (.int (Int32.ofNat fr)), (.ref b33)])) _
      refine XS.iload X68.here hx rfl (hb hby at_294) rfl ?_
      exact kt
    obtain ⟨_, _, ⟨T70, L70, k70, n70⟩, -, X70, ⟨Lc70, hQ70, l70, y70, z70⟩, st70⟩ := Jvm.LawKit.callS X68 hx (y := (⟨"com/example/cairnwise/cairnwise/model/Points", "squaredDistance", "([DI[DII)D"⟩ : MethodName)) hown (mvT hZ (hw _ (List.mem_of_getElem? (i := 13) rfl))) (mvT hZ (hw _ (List.mem_of_getElem? (i := 14) rfl))) (mvT hZ (hw _ (List.mem_of_getElem? (i := 15) rfl))) (mvT hZ (hw _ (List.mem_of_getElem? (i := 16) rfl))) (by decide) (backOf (W := 0) (rm4 l Z a0 hw [] b33 fr b33 ot dn (own_at [own_lo i0, own_hi i0, own_lo i1, own_hi i1] fr) (own_at [own_lo i0, own_hi i0, own_lo i1, own_hi i1] ot) k32 k32 [(.double (FP.i2d (own_lo i0))), (.double (FP.i2d (own_hi i0))), (.double (FP.i2d (own_lo i1))), (.double (FP.i2d (own_hi i1)))] [(.double (FP.i2d (own_lo i0))), (.double (FP.i2d (own_hi i0))), (.double (FP.i2d (own_lo i1))), (.double (FP.i2d (own_hi i1)))] h61 n0 Zs64 hbf hbg hfr4 hot4 f62 (fun n hn => own_getD [own_lo i0, own_hi i0, own_lo i1, own_hi i1] (k := fr) (n := n) (own_lt hn hfr4)) f62 (fun n hn => own_getD [own_lo i0, own_hi i0, own_lo i1, own_hi i1] (k := ot) (n := n) (own_lt hn hot4))) hZ (hw _ (List.mem_of_getElem? (i := 16) rfl)) (hw _ (List.mem_of_getElem? (i := 15) rfl)) (by decide) (by decide)) (g := (mkF m 296 #[.val (.long i0), .second, .val (.long i1), .second, .val (.long i2), .second, .val (.long i3), .second, .val (.int i4), .val (.int i5), .val (.int (Int32.ofNat dn)), .val (.int (Int32.ofNat fr)), .val (.int (Int32.ofNat ot)), .val (.int sf), .val (.ref b4), .val (.ref b33), .val (.ref b4), .val (.ref b33), .val (.long rf), .second, .unset, .unset] [(.int (Int32.ofNat dn)), (.int (Int32.ofNat ot)), (.ref b33), (.int (Int32.ofNat fr)), (.ref b33)])) rfl (by rw [hml]; rfl) (argsL := [(.ref b33), (.int (Int32.ofNat fr)), (.ref b33), (.int (Int32.ofNat ot)), (.int (Int32.ofNat dn))]) (rest := []) (lenOf pd_2 rfl) rfl (by show 2 * 0 + _ ≤ _; exact Nat.le_of_eq rfl) (hb hby at_296) (fun _ _ => ⟨rfl, e68, (by decide : 2 + 0 ≤ _), (by decide : 8 + 0 ≤ _)⟩)
    dsimp only [Pt.U, Pt.locs, Pt.cells, Pt.slots] at X70 l70 y70 z70 st70 hQ70
    subst l70 y70 z70
    obtain ⟨⟨u', rfl, hu'⟩, Nq70, eq70⟩ := hQ70
    have N70 := Fr.app N68 Nq70
    have hcmp : cmpValue (FP.dcmp u' (FP.l2d rf)) .l = 0 := own_same hu' hrf (own_ssq_b _ _ hbf hbg dn) hdn
    have sg71 : ∀ t, Steps p.tables e below (T70.setTop (mkF m 315 #[.val (.long i0), .second, .val (.long i1), .second, .val (.long i2), .second, .val (.long i3), .second, .val (.int i4), .val (.int i5), .val (.int (Int32.ofNat dn)), .val (.int (Int32.ofNat fr)), .val (.int (Int32.ofNat ot)), .val (.int sf), .val (.ref b4), .val (.ref b33), .val (.ref b4), .val (.ref b33), .val (.long rf), .second, .val (.double u'), .second] [(.int (1 : Int32))])) t → Steps p.tables e below (T70.setTop (mkF m 299 #[.val (.long i0), .second, .val (.long i1), .second, .val (.long i2), .second, .val (.long i3), .second, .val (.int i4), .val (.int i5), .val (.int (Int32.ofNat dn)), .val (.int (Int32.ofNat fr)), .val (.int (Int32.ofNat ot)), .val (.int sf), .val (.ref b4), .val (.ref b33), .val (.ref b4), .val (.ref b33), .val (.long rf), .second, .unset, .unset] [(.double u')])) t := by
      intro t kt
      refine XS.dstore X70.here hx rfl (hb hby at_299) rfl (l' := #[.val (.long i0), .second, .val (.long i1), .second, .val (.long i2), .second, .val (.long i3), .second, .val (.int i4), .val (.int i5), .val (.int (Int32.ofNat dn)), .val (.int (Int32.ofNat fr)), .val (.int (Int32.ofNat ot)), .val (.int sf), .val (.ref b4), .val (.ref b33), .val (.ref b4), .val (.ref b33), .val (.long rf), .second, .val (.double u'), .second]) rfl ?_
      show Steps p.tables e below (T70.setTop (mkF m 301 #[.val (.long i0), .second, .val (.long i1), .second, .val (.long i2), .second, .val (.long i3), .second, .val (.int i4), .val (.int i5), .val (.int (Int32.ofNat dn)), .val (.int (Int32.ofNat fr)), .val (.int (Int32.ofNat ot)), .val (.int sf), .val (.ref b4), .val (.ref b33), .val (.ref b4), .val (.ref b33), .val (.long rf), .second, .val (.double u'), .second] [])) _
      refine XS.dload X70.here hx rfl (hb hby at_301) rfl ?_
      show Steps p.tables e below (T70.setTop (mkF m 303 #[.val (.long i0), .second, .val (.long i1), .second, .val (.long i2), .second, .val (.long i3), .second, .val (.int i4), .val (.int i5), .val (.int (Int32.ofNat dn)), .val (.int (Int32.ofNat fr)), .val (.int (Int32.ofNat ot)), .val (.int sf), .val (.ref b4), .val (.ref b33), .val (.ref b4), .val (.ref b33), .val (.long rf), .second, .val (.double u'), .second] [(.double u')])) _
      refine XS.lload X70.here hx rfl (hb hby at_303) rfl ?_
      show Steps p.tables e below (T70.setTop (mkF m 305 #[.val (.long i0), .second, .val (.long i1), .second, .val (.long i2), .second, .val (.long i3), .second, .val (.int i4), .val (.int i5), .val (.int (Int32.ofNat dn)), .val (.int (Int32.ofNat fr)), .val (.int (Int32.ofNat ot)), .val (.int sf), .val (.ref b4), .val (.ref b33), .val (.ref b4), .val (.ref b33), .val (.long rf), .second, .val (.double u'), .second] [(.long rf), (.double u')])) _
      refine XS.l2dS X70.here hx rfl (hb hby at_305) rfl (v := (FP.l2d rf)) rfl ?_
      show Steps p.tables e below (T70.setTop (mkF m 306 #[.val (.long i0), .second, .val (.long i1), .second, .val (.long i2), .second, .val (.long i3), .second, .val (.int i4), .val (.int i5), .val (.int (Int32.ofNat dn)), .val (.int (Int32.ofNat fr)), .val (.int (Int32.ofNat ot)), .val (.int sf), .val (.ref b4), .val (.ref b33), .val (.ref b4), .val (.ref b33), .val (.long rf), .second, .val (.double u'), .second] [(.double (FP.l2d rf)), (.double u')])) _
      refine XS.dcmpS X70.here hx rfl (hb hby at_306) rfl (v := (cmpValue (FP.dcmp u' (FP.l2d rf)) .l)) rfl ?_
      show Steps p.tables e below (T70.setTop (mkF m 307 #[.val (.long i0), .second, .val (.long i1), .second, .val (.long i2), .second, .val (.long i3), .second, .val (.int i4), .val (.int i5), .val (.int (Int32.ofNat dn)), .val (.int (Int32.ofNat fr)), .val (.int (Int32.ofNat ot)), .val (.int sf), .val (.ref b4), .val (.ref b33), .val (.ref b4), .val (.ref b33), .val (.long rf), .second, .val (.double u'), .second] [(.int (cmpValue (FP.dcmp u' (FP.l2d rf)) .l))])) _
      refine XS.ifNo X70.here hx rfl (hb hby at_307) rfl ((if0 _ _).trans (teq (hcmp : (cmpValue (FP.dcmp u' (FP.l2d rf)) .l) = (0 : Int32))).2) ?_
      show Steps p.tables e below (T70.setTop (mkF m 310 #[.val (.long i0), .second, .val (.long i1), .second, .val (.long i2), .second, .val (.long i3), .second, .val (.int i4), .val (.int i5), .val (.int (Int32.ofNat dn)), .val (.int (Int32.ofNat fr)), .val (.int (Int32.ofNat ot)), .val (.int sf), .val (.ref b4), .val (.ref b33), .val (.ref b4), .val (.ref b33), .val (.long rf), .second, .val (.double u'), .second] [])) _
      refine XS.iconst X70.here hx rfl (hb hby at_310) ?_
      show Steps p.tables e below (T70.setTop (mkF m 311 #[.val (.long i0), .second, .val (.long i1), .second, .val (.long i2), .second, .val (.long i3), .second, .val (.int i4), .val (.int i5), .val (.int (Int32.ofNat dn)), .val (.int (Int32.ofNat fr)), .val (.int (Int32.ofNat ot)), .val (.int sf), .val (.ref b4), .val (.ref b33), .val (.ref b4), .val (.ref b33), .val (.long rf), .second, .val (.double u'), .second] [(.int (1 : Int32))])) _
      refine XS.goto X70.here hx rfl (pc0 := 311) (pc' := 315) rfl (hb hby at_311) (by decide) (by decide) ?_
      exact kt
    obtain ⟨fs, hr, hrun, hended, hW, hsame⟩ := X70.leave (v := some (.int (1 : Int32))) (fun h => by rw [Bd.returns] at h; cases h)
    refine ⟨_, _, pre0 _ ?_, hrun, hended, _, _, rfl, ?_, ⟨_, rfl⟩, hW, hsame.mono (by decide) (by decide)⟩
    · refine sg1 _ ?_
      refine sf_st _ ?_
      refine sg2 _ ?_
      refine st3 _ ?_
      refine sg7 _ ?_
      refine st8 _ ?_
      refine st10 _ ?_
      refine sg13 _ ?_
      refine st14 _ ?_
      refine st16 _ ?_
      refine sg19 _ ?_
      refine st20 _ ?_
      refine st22 _ ?_
      refine sg25 _ ?_
      refine st26 _ ?_
      refine st28 _ ?_
      refine sg31 _ ?_
      refine st32 _ ?_
      refine sg38 _ ?_
      refine st40 _ ?_
      refine sg45 _ ?_
      refine st47 _ ?_
      refine sg52 _ ?_
      refine st54 _ ?_
      refine sg59 _ ?_
      refine st61 _ ?_
      refine sg65 _ ?_
      refine sg66 _ ?_
      refine sg67 _ ?_
      refine st68 _ ?_
      refine sg69 _ ?_
      refine st70 _ ?_
      refine sg71 _ ?_
      exact retN X70 hx (t := .boolean) Bd.returns (by simp) (hb hby at_315) hr
    · show Q0 Z i0 i1 i2 i3 i4 i5 h0 n0 _ T70.heap _
      rw [eq70]; exact ⟨rfl, N70⟩
set_option maxRecDepth 65536 in
set_option maxHeartbeats 40000000 in
theorem comes_1 {Post : Tables → Env → Array Value → State → Outcome → State → Prop} (hpost : ∀ tb e args s v u, (limb_1_1.after args s (.returned v) u = true ∧ limb_1_2.after args s (.returned v) u = true ∧ True) → FrameEnd s (.returned v) u (Jvm.fieldLocs frame_1_writes args s ++ Jvm.arrayLocs frame_1_arrays args s ++ Jvm.staticLocs frame_1_statics s) 16 128 → Post tb e args s (.returned v) u) :
    ArmFor flags0 classFile x code maxLocals ret World_1 tables_1 room_1 Calls_1 rest_1 Pre_1 Post := by
  intro l hfl _ _ p e ha hc hk s m args below hf hA hF happ hP
  obtain ⟨hcalls, hrest, hpre⟩ := hP
  obtain ⟨-, -, -, hnamed, -, -, -, hat⟩ := (Spec.applies_iff hf).mp happ
  obtain ⟨hg, hn⟩ := and_e (Cond.before_iff.mp (show (Jvm.Cond.and given_1 narrow_1).before args s = true from hpre))
  obtain ⟨h1, h2⟩ := and_e hg
  obtain ⟨w0, w1, w2, w3, w4, w5, rfl⟩ : ∃ w0 w1 w2 w3 w4 w5 : Value, args = #[w0, w1, w2, w3, w4, w5] := by
    have hs : args.size = 6 := by simpa [Cond.value, given_1] using h1
    obtain ⟨L⟩ := args
    match L, hs with
    | [w0, w1, w2, w3, w4, w5], _ => exact ⟨w0, w1, w2, w3, w4, w5, rfl⟩
  have hw := fun d (hd : d ∈ tables_1) => atoms_spec (ws := Jvm.Cond.code x code maxLocals ret :: tables_1) hat d (List.mem_cons_of_mem _ hd)
  have hfit : Fit s := fun {y c} hc i hi => by
    obtain ⟨ha, rfl⟩ := Array.getElem?_eq_some_iff.mp hc
    have q := List.all_eq_true.mp ((Array.all_eq_true_iff_forall_mem.mp hF) _ (Array.getElem_mem ha)) i (List.mem_range.mpr hi)
    simpa [Array.getElem?_eq_getElem hi] using q
  obtain ⟨a0, b0⟩ := and_e h2
  obtain ⟨i0, e0⟩ := isL_v a0
  obtain rfl : w0 = (.long i0) := Option.some.inj e0
  obtain ⟨a1, b1⟩ := and_e b0
  obtain ⟨i1, e1⟩ := isL_v a1
  obtain rfl : w1 = (.long i1) := Option.some.inj e1
  obtain ⟨a2, b2⟩ := and_e b1
  obtain ⟨i2, e2⟩ := isL_v a2
  obtain rfl : w2 = (.long i2) := Option.some.inj e2
  obtain ⟨a3, b3⟩ := and_e b2
  obtain ⟨i3, e3⟩ := isL_v a3
  obtain rfl : w3 = (.long i3) := Option.some.inj e3
  obtain ⟨a4, b4⟩ := and_e b3
  obtain ⟨i4, e4⟩ := is_v a4
  obtain rfl : w4 = (.int i4) := Option.some.inj e4
  obtain ⟨i5, e5⟩ := is_v b4
  obtain rfl : w5 = (.int i5) := Option.some.inj e5
  obtain ⟨n, o, h1, h2, h3, _, L, rfl, ⟨rfl, N⟩, hq⟩ := rm0 l s _ hw tables_1 i0 i1 i2 i3 i4 i5 s.heap s.heap.size (Nat.le_refl _) p e ha hc hk s m _ below hf ((Spec.applies_iff_loose hf).mp happ).1 ⟨rfl, State.Warmed39.refl s, rfl⟩ trivial
  refine ⟨n, _, h1, h2, h3, hpost _ _ _ _ _ _ ⟨Cond.after_iff.mpr rfl, Cond.after_iff.mpr (eq_i res_at (Term.int_eval (1)) rfl), trivial⟩ ⟨hq.1, hq.2.1, (hq.2.2.sift fun y hy => Or.inr (N y hy)).mono (by decide) (by decide)⟩⟩
theorem main_1_1 : Claimed_1_1 := comes_1 fun _ _ _ _ _ _ h hF => ⟨h.1, hF⟩
theorem main_1_2 : Claimed_1_2 := comes_1 fun _ _ _ _ _ _ h hF => ⟨h.2.1, hF⟩
end Jvm.Pilot.@@N@@
namespace Jvm.Pilot.@@N@@
open Jvm Jvm.ClassFile Sem Op Lib Jvm.Free Jvm.Stand Jvm.Pilot.@@N@@.Jvm.D
/-! MADE BY PROGRAM (witnessworld.py) out of the Statement's table words and the real class files: 11 classes; the members and pool entries that the words name. The judged class is class 1, her method 1. -/
namespace start1
open Jvm.ClassFile
def u (s : String) : CpInfo := .utf8 (stringToUtf16 s)
/-- a pool by its gaps: so many unusable entries, then the entry; so many at the end -/
def gap : Nat → List CpInfo → List CpInfo
  | 0, r => r
  | n + 1, r => .unusable :: gap n r
def poolList (es : List (Nat × CpInfo)) (last : Nat) : List CpInfo := es.foldr (fun e r => gap e.1 (e.2 :: r)) (gap last [])
def pool (es : List (Nat × CpInfo)) (last : Nat) : Array CpInfo := ⟨poolList es last⟩
def fileOf (pool : Array CpInfo) (this : Nat) (attrs : Array Attribute := #[]) (ms : Array MethodInfo := #[]) (fl : Nat := 33) (sup : Nat := 0) (ifs : Array Nat := #[]) (fds : Array FieldInfo := #[]) : ClassFile where
  minorVersion := 0
  majorVersion := 65
  constantPool := pool
  accessFlags := fl
  thisClass := this
  superClass := sup
  interfaces := ifs
  fields := fds
  methods := ms
  attributes := attrs
def plain (name : String) (sup : Option ClassId) : Class where
  name := name
  kind := .ordinary
  loader := none
  accessFlags := 33
  super := sup
  interfaces := #[]
  cf := none
  fields := #[]
  methods := #[]
  instanceTypes := #[]
  staticTypes := #[]
  resolved := #[]
  callSites := []
  init := .initialized
  statics := none
  mirror := none

def pool0 : Array CpInfo := pool [(5, u "<init>"), (0, u "()V"), (1, .class_ 10), (1, u "java/lang/Object")] 113

def k0m0 : Method := { name := "<init>", desc := "()V", sig := { parameters := [], returnType := none }, accessFlags := 1, code := none }
/-- java/lang/Object -/
def k0 : Class := { plain "java/lang/Object" none with
  accessFlags := 33
  interfaces := #[]
  cf := some (fileOf pool0 8 #[] #[{ accessFlags := 1, nameIndex := 5, descriptorIndex := 6, attributes := #[] }] 33 0 #[] #[])
  fields := #[]
  methods := #[k0m0]
  instanceTypes := #[]
  staticTypes := #[]
  resolved := Array.replicate 124 none
  statics := none }

def pool1 : Array CpInfo := pool [(2, .class_ 4), (1, u "java/lang/Object"), (0, u "<init>"), (0, u "()V"), (0, .integer 2147483647), (0, .methodref 9 10), (0, .class_ 11), (0, .nameAndType 12 13), (0, u "com/example/cairnwise/cairnwise/model/PointsSquaredDistancePinLaw"), (0, u "lo"), (0, u "(J)I"), (0, .methodref 9 15), (0, .nameAndType 16 13), (0, u "hi"), (0, .methodref 9 18), (0, .nameAndType 19 20), (0, u "term"), (0, u "([II[II)J"), (0, .methodref 22 23), (0, .class_ 24), (0, .nameAndType 25 26), (0, u "com/example/cairnwise/cairnwise/model/Points"), (0, u "squaredDistance"), (0, u "([DI[DII)D"), (2, u "law"), (0, u "(JJJJII)Z")] 7

def k1m0 : Method := { name := "<init>", desc := "()V", sig := { parameters := [], returnType := none }, accessFlags := 1, code := none }
def k1c1 : Code := { maxStack := 7, maxLocals := 22, code := code, exceptionTable := #[], attributes := #[] }
def k1m1 : Method := { name := "law", desc := "(JJJJII)Z", sig := { parameters := [.long, .long, .long, .long, .int, .int], returnType := some .boolean }, accessFlags := 9, code := some k1c1 }
def k1c2 : Code := { maxStack := 2, maxLocals := 2, code := method_3_code, exceptionTable := #[], attributes := #[] }
def k1m2 : Method := { name := "lo", desc := "(J)I", sig := { parameters := [.long], returnType := some .int }, accessFlags := 10, code := some k1c2 }
def k1c3 : Code := { maxStack := 3, maxLocals := 2, code := method_4_code, exceptionTable := #[], attributes := #[] }
def k1m3 : Method := { name := "hi", desc := "(J)I", sig := { parameters := [.long], returnType := some .int }, accessFlags := 10, code := some k1c3 }
def k1c4 : Code := { maxStack := 4, maxLocals := 6, code := method_5_code, exceptionTable := #[], attributes := #[] }
def k1m4 : Method := { name := "term", desc := "([II[II)J", sig := { parameters := [(.array .int), .int, (.array .int), .int], returnType := some .long }, accessFlags := 10, code := some k1c4 }
/-- com/example/cairnwise/cairnwise/model/PointsSquaredDistancePinLaw -/
def k1 : Class := { plain "com/example/cairnwise/cairnwise/model/PointsSquaredDistancePinLaw" (some 0) with
  accessFlags := 49
  interfaces := #[]
  cf := some (fileOf pool1 9 #[] #[{ accessFlags := 1, nameIndex := 5, descriptorIndex := 6, attributes := #[] }, { accessFlags := 9, nameIndex := 29, descriptorIndex := 30, attributes := #[] }, { accessFlags := 10, nameIndex := 12, descriptorIndex := 13, attributes := #[] }, { accessFlags := 10, nameIndex := 16, descriptorIndex := 13, attributes := #[] }, { accessFlags := 10, nameIndex := 19, descriptorIndex := 20, attributes := #[] }] 49 2 #[] #[])
  fields := #[]
  methods := #[k1m0, k1m1, k1m2, k1m3, k1m4]
  instanceTypes := #[]
  staticTypes := #[]
  resolved := Array.replicate 38 none
  statics := none }

def pool2 : Array CpInfo := pool [(2, .class_ 4), (1, u "java/lang/Object"), (3, .class_ 10), (1, u "com/example/cairnwise/cairnwise/model/Points"), (0, u "coordinates"), (0, u "[D"), (2, u "dimensions"), (0, u "I"), (2, u "count"), (0, .class_ 21), (0, u "com/example/cairnwise/cairnwise/model/Points$Builder"), (74, u "squaredDistance"), (0, u "([DI[DII)D")] 72

def k2c0 : Code := { maxStack := 6, maxLocals := 10, code := prog_43_method_11_code, exceptionTable := #[], attributes := #[] }
def k2m0 : Method := { name := "squaredDistance", desc := "([DI[DII)D", sig := { parameters := [(.array .double), .int, (.array .double), .int, .int], returnType := some .double }, accessFlags := 9, code := some k2c0 }
/-- com/example/cairnwise/cairnwise/model/Points -/
def k2 : Class := { plain "com/example/cairnwise/cairnwise/model/Points" (some 0) with
  accessFlags := 49
  interfaces := #[]
  cf := some (fileOf pool2 8 #[.nestMembers #[20]] #[{ accessFlags := 9, nameIndex := 96, descriptorIndex := 97, attributes := #[] }] 49 2 #[] #[{ accessFlags := 18, nameIndex := 11, descriptorIndex := 12, attributes := #[] }, { accessFlags := 18, nameIndex := 19, descriptorIndex := 16, attributes := #[] }, { accessFlags := 18, nameIndex := 15, descriptorIndex := 16, attributes := #[] }])
  fields := #[{ name := "coordinates", type := (.array .double), accessFlags := 18, slot := 0, constantValue := 0 }, { name := "count", type := .int, accessFlags := 18, slot := 1, constantValue := 0 }, { name := "dimensions", type := .int, accessFlags := 18, slot := 2, constantValue := 0 }]
  methods := #[k2m0]
  instanceTypes := #[(.array .double), .int, .int]
  staticTypes := #[]
  resolved := Array.replicate 170 none
  statics := none }

def pool3 : Array CpInfo := pool [(1, u "java/lang/Cloneable"), (0, .class_ 1), (0, u "java/lang/Object"), (0, .class_ 3)] 3

/-- java/lang/Cloneable -/
def k3 : Class := { plain "java/lang/Cloneable" (some 0) with
  accessFlags := 1537
  interfaces := #[]
  cf := some (fileOf pool3 2 #[] #[] 1537 4 #[] #[])
  fields := #[]
  methods := #[]
  instanceTypes := #[]
  staticTypes := #[]
  resolved := Array.replicate 8 none
  statics := none }

def pool4 : Array CpInfo := pool [(1, u "java/io/Serializable"), (0, .class_ 1), (0, u "java/lang/Object"), (0, .class_ 3)] 3

/-- java/io/Serializable -/
def k4 : Class := { plain "java/io/Serializable" (some 0) with
  accessFlags := 1537
  interfaces := #[]
  cf := some (fileOf pool4 2 #[] #[] 1537 4 #[] #[])
  fields := #[]
  methods := #[]
  instanceTypes := #[]
  staticTypes := #[]
  resolved := Array.replicate 8 none
  statics := none }

/-- the primitive byte -/
def k5 : Class := { plain "byte" none with kind := .primitive 'B', accessFlags := 0x411 }
/-- [B -/
def k6 : Class := { plain "[B" (some 0) with kind := .array 5 .byte, interfaces := #[3, 4], accessFlags := 1041 }

/-- the primitive double -/
def k7 : Class := { plain "double" none with kind := .primitive 'D', accessFlags := 0x411 }
/-- [D -/
def k8 : Class := { plain "[D" (some 0) with kind := .array 7 .double, interfaces := #[3, 4], accessFlags := 1041 }

/-- the primitive int -/
def k9 : Class := { plain "int" none with kind := .primitive 'I', accessFlags := 0x411 }
/-- [I -/
def k10 : Class := { plain "[I" (some 0) with kind := .array 9 .int, interfaces := #[3, 4], accessFlags := 1041 }

def heap : Heap := #[]
def classes : Array Class := #[k0, k1, k2, k3, k4, k5, k6, k7, k8, k9, k10]
def interned : List (Array UInt16 × Addr) := []
def slotsUsed : Nat := 0
def theMethod : MethodId := ⟨1, 1⟩
def args0 : Array Value := #[.long 5, .long 3, .long 9, .long 1, .int 4, .int 1]
def aboutOver (below : List Frame) : State where
  vm := { classes := classes, interned := interned.toArray }
  heap := heap
  slotsUsed := slotsUsed
  threads := #[{ frames := .invoking theMethod args0 :: below }]
def below0 : List Frame := [.native { method := ⟨0, 0⟩, args := #[] }]
def about1 : State := aboutOver below0
def p0 : Program := .bare "" "" ""
def e0 : Env := launch0.env 0 0 0
theorem w_frames : about1.frames = Frame.invoking theMethod args0 :: below0 := rfl
set_option maxRecDepth 65536 in
theorem w_args : argsFit about1.vm theMethod args0 = true := by decide +kernel
set_option maxRecDepth 65536 in
theorem w_heap : heapFits about1 = true := by decide +kernel
set_option maxRecDepth 65536 in
theorem w_runnable : about1.curStatus? = some .runnable := by decide +kernel
set_option maxRecDepth 65536 in
theorem w_alone : about1.alone = true := by decide +kernel
set_option maxRecDepth 65536 in
theorem w_named : about1.methodNamed? x = some theMethod := by decide +kernel
set_option maxRecDepth 65536 in
theorem w_hears : about1.hears theMethod below0 = true := by decide +kernel
set_option maxRecDepth 65536 in
theorem w_ripe : about1.ripe theMethod args0 below0 = true := by decide +kernel
theorem w_running : about1.status = .running := rfl
set_option maxRecDepth 65536 in
theorem w_room : about1.hasRoom e0.platform room_1 = true :=
  launch0.hasRoom_least _ room_1 (by decide +kernel) (by decide +kernel) (by decide +kernel) (by decide +kernel) (by decide +kernel) (by decide +kernel)
theorem allAtoms_all (ts : List Jvm.Cond) (a : Array Jvm.Value) (st : Jvm.State) : (allAtoms ts).before a st = ts.all (fun c => c.before a st) := by
  induction ts with
  | nil => rfl
  | cons c t ih =>
    show (Jvm.Cond.and c (allAtoms t)).before a st = _
    rw [Jvm.Cond.before_and, ih, List.all_cons]
def words1 : List Jvm.Cond := Jvm.Cond.code x code maxLocals ret :: tables_1
/-- a 'code' word, met by the world's own term for the bytes: nothing is compared byte by byte -/
theorem code_word {y : MethodName} {bytes : ByteArray} {mx : Nat} {rt : Option FieldType} {a : Array Value} {s : State} {m : MethodId} {meth : Method} {c : Code} (h1 : s.methodNamed? y = some m) (h2 : s.vm.method? m = some meth) (h3 : meth.code = some c) (h4 : c.code = bytes)
    (h5 : (c.maxLocals == mx && c.exceptionTable.isEmpty && decide (c.maxStack ≤ mostOperands) && decide (meth.sig.returnType = rt) && !meth.locks && decide (parseMethodDescriptor y.desc = some meth.sig)) = true) : (Jvm.Cond.code y bytes mx rt).before a s = true := by
  simp only [Bool.and_eq_true, beq_iff_eq, Bool.not_eq_true', decide_eq_true_eq] at h5
  obtain ⟨⟨⟨⟨⟨g1, g2⟩, g3⟩, g4⟩, g5⟩, g6⟩ := h5
  simp [Cond.before, Cond.holds, Cond.value, h1, h2, h3, h4, g1, g2, g3, g4, g5, g6]
def isCode : Jvm.Cond → Bool
  | .code _ _ _ _ => true
  | _ => false
theorem all_split {L : List Jvm.Cond} {P : Jvm.Cond → Bool} (h1 : L.all (fun c => isCode c || P c) = true) (h2 : ∀ c ∈ L.filter isCode, P c = true) : L.all P = true := by
  refine List.all_eq_true.mpr fun c hc => ?_
  have h := List.all_eq_true.mp h1 c hc
  rcases Bool.eq_false_or_eq_true (isCode c) with hi | hi
  · exact h2 c (List.mem_filter.mpr ⟨hc, hi⟩)
  · simpa [hi] using h
set_option maxRecDepth 65536 in
theorem w_c0 : (Jvm.Cond.code x code maxLocals ret).before args0 about1 = true := code_word (m := ⟨1, 1⟩) (meth := k1m1) (c := k1c1) (by decide +kernel) rfl rfl rfl (by decide +kernel)
set_option maxRecDepth 65536 in
theorem w_c1 : (Jvm.Cond.code ({ cls := "com/example/cairnwise/cairnwise/model/PointsSquaredDistancePinLaw", name := "lo", desc := "(J)I" } : Jvm.MethodName) method_3_code (2 : Nat) (Option.some Jvm.ClassFile.FieldType.int)).before args0 about1 = true := code_word (m := ⟨1, 2⟩) (meth := k1m2) (c := k1c2) (by decide +kernel) rfl rfl rfl (by decide +kernel)
set_option maxRecDepth 65536 in
theorem w_c2 : (Jvm.Cond.code ({ cls := "com/example/cairnwise/cairnwise/model/PointsSquaredDistancePinLaw", name := "hi", desc := "(J)I" } : Jvm.MethodName) method_4_code (2 : Nat) (Option.some Jvm.ClassFile.FieldType.int)).before args0 about1 = true := code_word (m := ⟨1, 3⟩) (meth := k1m3) (c := k1c3) (by decide +kernel) rfl rfl rfl (by decide +kernel)
set_option maxRecDepth 65536 in
theorem w_c3 : (Jvm.Cond.code ({ cls := "com/example/cairnwise/cairnwise/model/PointsSquaredDistancePinLaw", name := "term", desc := "([II[II)J" } : Jvm.MethodName) method_5_code (6 : Nat) (Option.some Jvm.ClassFile.FieldType.long)).before args0 about1 = true := code_word (m := ⟨1, 4⟩) (meth := k1m4) (c := k1c4) (by decide +kernel) rfl rfl rfl (by decide +kernel)
set_option maxRecDepth 65536 in
theorem w_c4 : (Jvm.Cond.code ({ cls := "com/example/cairnwise/cairnwise/model/Points", name := "squaredDistance", desc := "([DI[DII)D" } : Jvm.MethodName) prog_43_method_11_code (10 : Nat) (Option.some Jvm.ClassFile.FieldType.double)).before args0 about1 = true := code_word (m := ⟨2, 0⟩) (meth := k2m0) (c := k2c0) (by decide +kernel) rfl rfl rfl (by decide +kernel)
def codes1 : List Jvm.Cond := [Jvm.Cond.code x code maxLocals ret, Jvm.Cond.code ({ cls := "com/example/cairnwise/cairnwise/model/PointsSquaredDistancePinLaw", name := "lo", desc := "(J)I" } : Jvm.MethodName) method_3_code (2 : Nat) (Option.some Jvm.ClassFile.FieldType.int), Jvm.Cond.code ({ cls := "com/example/cairnwise/cairnwise/model/PointsSquaredDistancePinLaw", name := "hi", desc := "(J)I" } : Jvm.MethodName) method_4_code (2 : Nat) (Option.some Jvm.ClassFile.FieldType.int), Jvm.Cond.code ({ cls := "com/example/cairnwise/cairnwise/model/PointsSquaredDistancePinLaw", name := "term", desc := "([II[II)J" } : Jvm.MethodName) method_5_code (6 : Nat) (Option.some Jvm.ClassFile.FieldType.long), Jvm.Cond.code ({ cls := "com/example/cairnwise/cairnwise/model/Points", name := "squaredDistance", desc := "([DI[DII)D" } : Jvm.MethodName) prog_43_method_11_code (10 : Nat) (Option.some Jvm.ClassFile.FieldType.double)]
set_option maxRecDepth 65536 in
theorem codes_eq : words1.filter isCode = codes1 := rfl
theorem w_codes : ∀ c ∈ words1.filter isCode, c.before args0 about1 = true := by
  rw [codes_eq]
  intro c hc
  simp only [codes1, List.mem_cons, List.not_mem_nil, or_false] at hc
  rcases hc with rfl | rfl | rfl | rfl | rfl
  · exact w_c0
  · exact w_c1
  · exact w_c2
  · exact w_c3
  · exact w_c4
set_option maxRecDepth 65536 in
theorem w_t1 : words1.all (fun c => isCode c || c.before args0 about1) = true := by decide +kernel
theorem w_tables : (allAtoms (Jvm.Cond.code x code maxLocals ret :: tables_1)).before args0 about1 = true := by
  rw [allAtoms_all]
  show words1.all (fun c => c.before args0 about1) = true
  refine all_split ?_ w_codes
  rw [w_t1]
set_option maxRecDepth 65536 in
theorem w_case : (Jvm.Cond.and given_1 narrow_1).before args0 about1 = true := by decide +kernel
theorem w_applies : (headSpec (Jvm.Cond.code x code maxLocals ret :: tables_1) room_1).applies x e0.platform about1 = true :=
  (Spec.applies_iff w_frames).mpr ⟨w_running, w_runnable, w_alone, w_named, w_hears, w_ripe, w_room, w_tables⟩
theorem atStart : AtStart classFile x code maxLocals ret World_1 tables_1 room_1 Calls_1 rest_1 Pre_1 launch0 p0 e0 about1 theMethod args0 below0 :=
  ⟨lists_1, trivial, launch0.admits_env _ _ _, launch0.least_env, fairChoices_fair.cas, fairChoices_fair.clock, w_frames, w_args, w_heap, w_applies, trivial, trivial, w_case⟩
end start1
theorem witness_1 : WitnessClaimed_1 := ⟨start1.p0, start1.e0, start1.about1, start1.theMethod, start1.args0, start1.below0, start1.atStart⟩
end Jvm.Pilot.@@N@@
