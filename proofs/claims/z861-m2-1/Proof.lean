import JvmDerived
import JvmDerived.Pilot.@@N@@Statement
import JvmDerived.Pilot.@@N@@Code
set_option linter.unusedVariables false
set_option linter.unusedSimpArgs false
namespace Jvm.RoadKit
open Sem ClassFile Op Lib Jvm.Stand Jvm.Free Jvm.LawKit
section New
variable {p : Program} {l : Launch} {e : Env} {R : Room} {s : State} {m : MethodId} {args : Array Value} {below : List Frame} {meth : Method} {c : Code} {T : State} {locs : List Loc} {cells slots : Nat}
theorem retI (X : Stand p l e R s m args below meth c T locs cells slots) (hx : p.tables.exec = Jvm.exec) {pc : Nat} {Ls : Array Slot} {z : Int32} {rest : List Value} (hret : meth.sig.returnType = some .int) (hd : decode c.code pc = .ok (.ireturn, 1)) {fs : List Frame}
    (hl : ∀ (f : JFrame) (acts : List Action), f.method = m → f.locked = none → f.entered = [] → (doReturn e (T.setTop f) acts (some (.int z))).1 = T.setFrames fs) : Steps p.tables e below (T.setTop (mkF m pc Ls (.int z :: rest))) (T.setFrames fs) := by
  have hm' : T.vm.method? m = some meth := X.method'
  have hn : narrow .int (.int z) = .int z := rfl
  show Steps p.tables e below (T.setTop { method := m, pc := pc, locals := Ls, stack := _ :: rest, locked := none }) _
  jvm_step X.here [X.here.top, hx, hd, hm', hret, hn]
  first | (intro acts; rw [hl _ acts rfl rfl rfl]) | rw [hl _ _ rfl rfl rfl]
  exact Steps.refl _
theorem retD (X : Stand p l e R s m args below meth c T locs cells slots) (hx : p.tables.exec = Jvm.exec) {pc : Nat} {Ls : Array Slot} {z : UInt64} {rest : List Value} (hret : meth.sig.returnType = some .double) (hd : decode c.code pc = .ok (.dreturn, 1)) {fs : List Frame}
    (hl : ∀ (f : JFrame) (acts : List Action), f.method = m → f.locked = none → f.entered = [] → (doReturn e (T.setTop f) acts (some (.double z))).1 = T.setFrames fs) : Steps p.tables e below (T.setTop (mkF m pc Ls (.double z :: rest))) (T.setFrames fs) := by
  have hm' : T.vm.method? m = some meth := X.method'
  have hn : narrow .double (.double z) = .double z := rfl
  show Steps p.tables e below (T.setTop { method := m, pc := pc, locals := Ls, stack := _ :: rest, locked := none }) _
  jvm_step X.here [X.here.top, hx, hd, hm', hret, hn]
  first | (intro acts; rw [hl _ acts rfl rfl rfl]) | rw [hl _ _ rfl rfl rfl]
  exact Steps.refl _
theorem retJ (X : Stand p l e R s m args below meth c T locs cells slots) (hx : p.tables.exec = Jvm.exec) {pc : Nat} {Ls : Array Slot} {z : Int64} {rest : List Value} (hret : meth.sig.returnType = some .long) (hd : decode c.code pc = .ok (.lreturn, 1)) {fs : List Frame}
    (hl : ∀ (f : JFrame) (acts : List Action), f.method = m → f.locked = none → f.entered = [] → (doReturn e (T.setTop f) acts (some (.long z))).1 = T.setFrames fs) : Steps p.tables e below (T.setTop (mkF m pc Ls (.long z :: rest))) (T.setFrames fs) := by
  have hm' : T.vm.method? m = some meth := X.method'
  have hn : narrow .long (.long z) = .long z := rfl
  show Steps p.tables e below (T.setTop { method := m, pc := pc, locals := Ls, stack := _ :: rest, locked := none }) _
  jvm_step X.here [X.here.top, hx, hd, hm', hret, hn]
  first | (intro acts; rw [hl _ acts rfl rfl rfl]) | rw [hl _ _ rfl rfl rfl]
  exact Steps.refl _
end New
end Jvm.RoadKit
namespace Jvm.Pilot.@@N@@
open Jvm Jvm.ClassFile Sem Op Lib Jvm.Free Jvm.Stand Jvm.LawKit Jvm.RoadKit Bundle Jvm.Pilot.@@N@@.Jvm.D Jvm.Free.Fl
open Jvm.Free.XT (n32 succ32 add32n lt32 nlt32)

theorem own_cl (r : Option Ordering) : cmpValue r .l = 0 ↔ r = some .eq := by rcases r with _ | (_ | _ | _) <;> decide
theorem own_cl_pos (r : Option Ordering) : 0 < cmpValue r .l ↔ r = some .gt := by rcases r with _ | (_ | _ | _) <;> decide
theorem own_dconst0 : FP.Core.DInt 0 FP.dconst0 := FP.Core.i2d_int 0
theorem own_i2d_pos (a : Int32) : 0 < cmpValue (FP.dcmp (FP.i2d a) FP.dconst0) .l ↔ 0 < a := by
  rw [own_cl_pos, show FP.dcmp (FP.i2d a) FP.dconst0 = _ from FP.Core.dcmp_int (FP.Core.i2d_int a) own_dconst0, Option.some.injEq, FP.Core.compare_gt_iff, Int32.lt_iff_toInt_lt]
  rfl

def own_mx (a b : Int64) : Int64 := if a < b then b else a
def own_mi (a b : Int32) : Int32 := if a < b then b else a
theorem own_m0 (w : Int64) : 0 ≤ (own_mx 0 w).toInt ∧ (own_mx 0 w).toInt = max 0 w.toInt := by
  unfold own_mx
  have e : (0 : Int64).toInt = 0 := by decide
  split <;> rename_i h <;> rw [Int64.lt_iff_toInt_lt] at h <;> constructor <;> omega
/-- one duration counted: the sum below 2^63, and how often it wrapped -/
def own_st (q : Int64 × Int64) (w : Int64) : Int64 × Int64 := ((q.1 + own_mx 0 w) &&& (9223372036854775807 : Int64), if q.1 + own_mx 0 w < 0 then q.2 + 1 else q.2)
def own_run (q : Int64 × Int64) (ws : List Int64) : Int64 × Int64 := ws.foldl own_st q
theorem own_st_v (q : Int64 × Int64) (w : Int64) (h0 : 0 ≤ q.1.toInt) (h1 : 0 ≤ q.2.toInt) (h2 : q.2.toInt ≤ 100) : 0 ≤ (own_st q w).1.toInt ∧ 0 ≤ (own_st q w).2.toInt ∧ (own_st q w).2.toInt ≤ q.2.toInt + 1 ∧ (own_st q w).2.toInt * 9223372036854775808 + (own_st q w).1.toInt = q.2.toInt * 9223372036854775808 + q.1.toInt + max 0 w.toInt := by
  obtain ⟨g1, g2⟩ := own_m0 w
  have ha := c_ladd q.1 (own_mx 0 w)
  have hr := rng64 (q.1 + own_mx 0 w)
  have hb := rng64 q.1
  have hc := rng64 (own_mx 0 w)
  have hm := c_maskL (q.1 + own_mx 0 w) 9223372036854775807 63 (by decide) (by decide)
  have e63 : ((2 ^ 63 : Nat) : Int) = 9223372036854775808 := by decide
  rw [e63] at hm
  have e0 : (0 : Int64).toInt = 0 := by decide
  have e1 : (1 : Int64).toInt = 1 := by decide
  unfold own_st
  by_cases hn : q.1 + own_mx 0 w < 0
  · rw [if_pos hn]
    rw [Int64.lt_iff_toInt_lt, e0] at hn
    have hp : (q.2 + 1).toInt = q.2.toInt + 1 := by have := c_ladd q.2 1; have := rng64 (q.2 + 1); omega
    refine ⟨?_, ?_, ?_, ?_⟩ <;> simp only [hm, hp] <;> omega
  · rw [if_neg hn]
    rw [Int64.lt_iff_toInt_lt, e0] at hn
    refine ⟨?_, ?_, ?_, ?_⟩ <;> simp only [hm] <;> omega
def own_tot (ws : List Int64) : Int := (ws.map fun w => max 0 w.toInt).sum
theorem own_run_v : ∀ (ws : List Int64) (q : Int64 × Int64), 0 ≤ q.1.toInt → 0 ≤ q.2.toInt → q.2.toInt + ws.length ≤ 100 → 0 ≤ (own_run q ws).1.toInt ∧ 0 ≤ (own_run q ws).2.toInt ∧ (own_run q ws).2.toInt * 9223372036854775808 + (own_run q ws).1.toInt = q.2.toInt * 9223372036854775808 + q.1.toInt + own_tot ws
  | [], q, h0, h1, _ => ⟨h0, h1, by simp [own_run, own_tot]⟩
  | w :: ws, q, h0, h1, h2 => by
    simp only [List.length_cons] at h2
    obtain ⟨a1, a2, a3, a4⟩ := own_st_v q w h0 h1 (by omega)
    obtain ⟨b1, b2, b3⟩ := own_run_v ws (own_st q w) a1 a2 (by omega)
    refine ⟨b1, b2, ?_⟩
    show (own_run (own_st q w) ws).2.toInt * 9223372036854775808 + (own_run (own_st q w) ws).1.toInt = _
    rw [b3, a4]
    simp only [own_tot, List.map_cons, List.sum_cons]
    omega
theorem d4_0 : decode jdk_29_method_66_code 0 = .ok (.lload_n 0, 1) := by decide +kernel
theorem d4_1 : decode jdk_29_method_66_code 1 = .ok (.lload_n 2, 1) := by decide +kernel
theorem d4_2 : decode jdk_29_method_66_code 2 = .ok (.lcmp, 1) := by decide +kernel
theorem d4_3 : decode jdk_29_method_66_code 3 = .ok (.ifCond .lt 7, 3) := by decide +kernel
theorem d4_6 : decode jdk_29_method_66_code 6 = .ok (.lload_n 0, 1) := by decide +kernel
theorem d4_7 : decode jdk_29_method_66_code 7 = .ok (.goto 4, 3) := by decide +kernel
theorem d4_10 : decode jdk_29_method_66_code 10 = .ok (.lload_n 2, 1) := by decide +kernel
theorem d4_11 : decode jdk_29_method_66_code 11 = .ok (.lreturn, 1) := by decide +kernel
theorem ef_4 (m : MethodId) (x0 : Int64) (x1 : Int64) : entryFrame m #[(.long x0), (.long x1)] 4 = mkF m 0 #[.val (.long x0), .second, .val (.long x1), .second] [] := by first | (simp [entryFrame, mkF, argsToLocals, Value.category]; done) | rfl
def Q4 (Z : State) (x1 x2 : Int64) (h0 : Heap) (n0 : Nat) (v : Option Value) (h : Heap) (L : List Loc) : Prop := v = some (.long (own_mx x1 x2)) ∧ Fr n0 L ∧ h = h0
set_option maxRecDepth 65536 in
set_option maxHeartbeats 40000000 in
theorem rm4 (l : Launch) (Z : State) (a0 : Array Value) (hw : ∀ d ∈ tables_1, d.before a0 Z = true) (ws : List Jvm.Cond) (x1 x2 : Int64) (h0 : Heap) (n0 : Nat) (Z0 : n0 ≤ h0.size)  :
    MetFree l (⟨"java/lang/Math", "max", "(JJ)J"⟩ : MethodName) (head1 (Jvm.Cond.code (⟨"java/lang/Math", "max", "(JJ)J"⟩ : MethodName) jdk_29_method_66_code 4 (some .long) :: ws) ({ frames := 0, cells := 0, slots := 0, locals := 0 } : Room)) (fun a U => a = #[(.long x1), (.long x2)] ∧ Z.Warmed39 U.vm ∧ U.heap = h0) (fun _ _ _ _ _ => True) (fun _ U o U' => ∃ v L, o = .returned v ∧ Q4 Z x1 x2 h0 n0 v U'.heap L ∧ FrameEnd U o U' L ({ frames := 0, cells := 0, slots := 0, locals := 0 } : Room).cells ({ frames := 0, cells := 0, slots := 0, locals := 0 } : Room).slots) := by
  refine MetFree.of_bodySF (Jvm.Free.JP.mathPlain rfl (by decide +kernel)) hisR ?_
  intro p e s m args below meth c s₁ Bd hml0 hP hK
  obtain ⟨rfl, hZ, hh⟩ := hP
  have hx := Bd.exec
  have hby := Bd.bytes
  have hml : c.maxLocals = 4 := hml0
  have hown : s.vm.findClass "java/lang/Math" = some m.cls := findClass_of_methodNamed Bd.named
  have hnm := (name_of_methodNamed Bd.named Bd.method).1
  have X0 : Stand p l e ({ frames := 0, cells := 0, slots := 0, locals := 0 } : Room) s m #[(.long x1), (.long x2)] below meth c s₁ [] 0 0 := Stand.of_body Bd
  have e0 : s₁.heap = h0 := by rw [← hh, Bd.state]; rfl
  have N0 := Fr.nil n0
  have pre0 : ∀ t, Steps p.tables e below (s₁.setTop (mkF m 0 #[.val (.long x1), .second, .val (.long x2), .second] [])) t → Steps p.tables e below (s₁.setTop (entryFrame m #[(.long x1), (.long x2)] 4)) t := fun t kq0 => castTop (ef_4 m x1 x2) kq0
  have sg1 : ∀ t, Steps p.tables e below (s₁.setTop (mkF m 3 #[.val (.long x1), .second, .val (.long x2), .second] [(.int (lcmpW x1 x2))])) t → Steps p.tables e below (s₁.setTop (mkF m 0 #[.val (.long x1), .second, .val (.long x2), .second] [])) t := by
    intro t kt
    refine XS.lloadN X0.here hx rfl (hb hby d4_0) rfl ?_
    show Steps p.tables e below (s₁.setTop (mkF m 1 #[.val (.long x1), .second, .val (.long x2), .second] [(.long x1)])) _
    refine XS.lloadN X0.here hx rfl (hb hby d4_1) rfl ?_
    show Steps p.tables e below (s₁.setTop (mkF m 2 #[.val (.long x1), .second, .val (.long x2), .second] [(.long x2), (.long x1)])) _
    refine XS.lcmp X0.here hx rfl (hb hby d4_2) rfl ?_
    exact kt
  by_cases c : x1 < x2
  · have sg2 : ∀ t, Steps p.tables e below (s₁.setTop (mkF m 11 #[.val (.long x1), .second, .val (.long x2), .second] [(.long x2)])) t → Steps p.tables e below (s₁.setTop (mkF m 3 #[.val (.long x1), .second, .val (.long x2), .second] [(.int (lcmpW x1 x2))])) t := by
      intro t kt
      refine XS.ifYes X0.here hx rfl (pc0 := 3) (pc' := 10) rfl (hb hby d4_3) rfl ((if0 _ _).trans (tlt ((lw_lt x1 x2).mpr c : (lcmpW x1 x2) < (0 : Int32))).1) (by decide) (by decide) ?_
      show Steps p.tables e below (s₁.setTop (mkF m 10 #[.val (.long x1), .second, .val (.long x2), .second] [])) _
      refine XS.lloadN X0.here hx rfl (hb hby d4_10) rfl ?_
      exact kt
    obtain ⟨fs, hr, hrun, hended, hW, hsame⟩ := X0.leave (v := some (.long x2)) (fun h => by rw [Bd.returns] at h; cases h)
    refine ⟨_, _, pre0 _ ?_, hrun, hended, _, _, rfl, ?_, ⟨_, rfl⟩, hW, hsame.mono (by decide) (by decide)⟩
    · refine sg1 _ ?_
      refine sg2 _ ?_
      exact retJ X0 hx Bd.returns (hb hby d4_11) hr
    · show Q4 Z x1 x2 h0 n0 _ s₁.heap _
      rw [e0]; exact ⟨by simp [own_mx, c], N0, rfl⟩
  · have sg2 : ∀ t, Steps p.tables e below (s₁.setTop (mkF m 11 #[.val (.long x1), .second, .val (.long x2), .second] [(.long x1)])) t → Steps p.tables e below (s₁.setTop (mkF m 3 #[.val (.long x1), .second, .val (.long x2), .second] [(.int (lcmpW x1 x2))])) t := by
      intro t kt
      refine XS.ifNo X0.here hx rfl (hb hby d4_3) rfl ((if0 _ _).trans (flt (fun q => c ((lw_lt x1 x2).mp q) : ¬ ((lcmpW x1 x2) < (0 : Int32)))).1) ?_
      show Steps p.tables e below (s₁.setTop (mkF m 6 #[.val (.long x1), .second, .val (.long x2), .second] [])) _
      refine XS.lloadN X0.here hx rfl (hb hby d4_6) rfl ?_
      show Steps p.tables e below (s₁.setTop (mkF m 7 #[.val (.long x1), .second, .val (.long x2), .second] [(.long x1)])) _
      refine XS.goto X0.here hx rfl (pc0 := 7) (pc' := 11) rfl (hb hby d4_7) (by decide) (by decide) ?_
      exact kt
    obtain ⟨fs, hr, hrun, hended, hW, hsame⟩ := X0.leave (v := some (.long x1)) (fun h => by rw [Bd.returns] at h; cases h)
    refine ⟨_, _, pre0 _ ?_, hrun, hended, _, _, rfl, ?_, ⟨_, rfl⟩, hW, hsame.mono (by decide) (by decide)⟩
    · refine sg1 _ ?_
      refine sg2 _ ?_
      exact retJ X0 hx Bd.returns (hb hby d4_11) hr
    · show Q4 Z x1 x2 h0 n0 _ s₁.heap _
      rw [e0]; exact ⟨by simp [own_mx, c], N0, rfl⟩
theorem d8_0 : decode jdk_29_method_65_code 0 = .ok (.iload_n 0, 1) := by decide +kernel
theorem d8_1 : decode jdk_29_method_65_code 1 = .ok (.iload_n 1, 1) := by decide +kernel
theorem d8_2 : decode jdk_29_method_65_code 2 = .ok (.if_icmp .lt 7, 3) := by decide +kernel
theorem d8_5 : decode jdk_29_method_65_code 5 = .ok (.iload_n 0, 1) := by decide +kernel
theorem d8_6 : decode jdk_29_method_65_code 6 = .ok (.goto 4, 3) := by decide +kernel
theorem d8_9 : decode jdk_29_method_65_code 9 = .ok (.iload_n 1, 1) := by decide +kernel
theorem d8_10 : decode jdk_29_method_65_code 10 = .ok (.ireturn, 1) := by decide +kernel
theorem ef_8 (m : MethodId) (x0 : Int32) (x1 : Int32) : entryFrame m #[(.int x0), (.int x1)] 2 = mkF m 0 #[.val (.int x0), .val (.int x1)] [] := by first | (simp [entryFrame, mkF, argsToLocals, Value.category]; done) | rfl
def Q8 (Z : State) (x1 x2 : Int32) (h0 : Heap) (n0 : Nat) (v : Option Value) (h : Heap) (L : List Loc) : Prop := v = some (.int (own_mi x1 x2)) ∧ Fr n0 L ∧ h = h0
set_option maxRecDepth 65536 in
set_option maxHeartbeats 40000000 in
theorem rm8 (l : Launch) (Z : State) (a0 : Array Value) (hw : ∀ d ∈ tables_1, d.before a0 Z = true) (ws : List Jvm.Cond) (x1 x2 : Int32) (h0 : Heap) (n0 : Nat) (Z0 : n0 ≤ h0.size)  :
    MetFree l (⟨"java/lang/Math", "max", "(II)I"⟩ : MethodName) (head1 (Jvm.Cond.code (⟨"java/lang/Math", "max", "(II)I"⟩ : MethodName) jdk_29_method_65_code 2 (some .int) :: ws) ({ frames := 0, cells := 0, slots := 0, locals := 0 } : Room)) (fun a U => a = #[(.int x1), (.int x2)] ∧ Z.Warmed39 U.vm ∧ U.heap = h0) (fun _ _ _ _ _ => True) (fun _ U o U' => ∃ v L, o = .returned v ∧ Q8 Z x1 x2 h0 n0 v U'.heap L ∧ FrameEnd U o U' L ({ frames := 0, cells := 0, slots := 0, locals := 0 } : Room).cells ({ frames := 0, cells := 0, slots := 0, locals := 0 } : Room).slots) := by
  refine MetFree.of_bodySF (Jvm.Free.JP.mathPlain rfl (by decide +kernel)) hisR ?_
  intro p e s m args below meth c s₁ Bd hml0 hP hK
  obtain ⟨rfl, hZ, hh⟩ := hP
  have hx := Bd.exec
  have hby := Bd.bytes
  have hml : c.maxLocals = 2 := hml0
  have hown : s.vm.findClass "java/lang/Math" = some m.cls := findClass_of_methodNamed Bd.named
  have hnm := (name_of_methodNamed Bd.named Bd.method).1
  have X0 : Stand p l e ({ frames := 0, cells := 0, slots := 0, locals := 0 } : Room) s m #[(.int x1), (.int x2)] below meth c s₁ [] 0 0 := Stand.of_body Bd
  have e0 : s₁.heap = h0 := by rw [← hh, Bd.state]; rfl
  have N0 := Fr.nil n0
  have pre0 : ∀ t, Steps p.tables e below (s₁.setTop (mkF m 0 #[.val (.int x1), .val (.int x2)] [])) t → Steps p.tables e below (s₁.setTop (entryFrame m #[(.int x1), (.int x2)] 2)) t := fun t kq0 => castTop (ef_8 m x1 x2) kq0
  have sg1 : ∀ t, Steps p.tables e below (s₁.setTop (mkF m 2 #[.val (.int x1), .val (.int x2)] [(.int x2), (.int x1)])) t → Steps p.tables e below (s₁.setTop (mkF m 0 #[.val (.int x1), .val (.int x2)] [])) t := by
    intro t kt
    refine XS.iloadN X0.here hx rfl (hb hby d8_0) rfl ?_
    show Steps p.tables e below (s₁.setTop (mkF m 1 #[.val (.int x1), .val (.int x2)] [(.int x1)])) _
    refine XS.iloadN X0.here hx rfl (hb hby d8_1) rfl ?_
    exact kt
  by_cases c : x1 < x2
  · have sg2 : ∀ t, Steps p.tables e below (s₁.setTop (mkF m 10 #[.val (.int x1), .val (.int x2)] [(.int x2)])) t → Steps p.tables e below (s₁.setTop (mkF m 2 #[.val (.int x1), .val (.int x2)] [(.int x2), (.int x1)])) t := by
      intro t kt
      refine XS.icmpYes X0.here hx rfl (pc0 := 2) (pc' := 9) rfl (hb hby d8_2) rfl (tlt (c : x1 < x2)).1 (by decide) (by decide) ?_
      show Steps p.tables e below (s₁.setTop (mkF m 9 #[.val (.int x1), .val (.int x2)] [])) _
      refine XS.iloadN X0.here hx rfl (hb hby d8_9) rfl ?_
      exact kt
    obtain ⟨fs, hr, hrun, hended, hW, hsame⟩ := X0.leave (v := some (.int x2)) (fun h => by rw [Bd.returns] at h; cases h)
    refine ⟨_, _, pre0 _ ?_, hrun, hended, _, _, rfl, ?_, ⟨_, rfl⟩, hW, hsame.mono (by decide) (by decide)⟩
    · refine sg1 _ ?_
      refine sg2 _ ?_
      exact retI X0 hx Bd.returns (hb hby d8_10) hr
    · show Q8 Z x1 x2 h0 n0 _ s₁.heap _
      rw [e0]; exact ⟨by simp [own_mi, c], N0, rfl⟩
  · have sg2 : ∀ t, Steps p.tables e below (s₁.setTop (mkF m 10 #[.val (.int x1), .val (.int x2)] [(.int x1)])) t → Steps p.tables e below (s₁.setTop (mkF m 2 #[.val (.int x1), .val (.int x2)] [(.int x2), (.int x1)])) t := by
      intro t kt
      refine XS.icmpNo X0.here hx rfl (hb hby d8_2) rfl (flt (c : ¬ (x1 < x2))).1 ?_
      show Steps p.tables e below (s₁.setTop (mkF m 5 #[.val (.int x1), .val (.int x2)] [])) _
      refine XS.iloadN X0.here hx rfl (hb hby d8_5) rfl ?_
      show Steps p.tables e below (s₁.setTop (mkF m 6 #[.val (.int x1), .val (.int x2)] [(.int x1)])) _
      refine XS.goto X0.here hx rfl (pc0 := 6) (pc' := 10) rfl (hb hby d8_6) (by decide) (by decide) ?_
      exact kt
    obtain ⟨fs, hr, hrun, hended, hW, hsame⟩ := X0.leave (v := some (.int x1)) (fun h => by rw [Bd.returns] at h; cases h)
    refine ⟨_, _, pre0 _ ?_, hrun, hended, _, _, rfl, ?_, ⟨_, rfl⟩, hW, hsame.mono (by decide) (by decide)⟩
    · refine sg1 _ ?_
      refine sg2 _ ?_
      exact retI X0 hx Bd.returns (hb hby d8_10) hr
    · show Q8 Z x1 x2 h0 n0 _ s₁.heap _
      rw [e0]; exact ⟨by simp [own_mi, c], N0, rfl⟩

theorem own_le {x : Int32} (h : 0 ≤ x.toInt) (h1 : ¬ 0 < x) : x = 0 := by
  rw [Int32.lt_iff_toInt_lt] at h1
  have e : (0 : Int32).toInt = 0 := by decide
  exact Int32.toInt_inj.mp (by omega)
theorem d7_0 : decode jdk_33_method_47_code 0 = .ok (.iload_n 0, 1) := by decide +kernel
theorem d7_1 : decode jdk_33_method_47_code 1 = .ok (.ifCond .gt 14, 3) := by decide +kernel
theorem d7_4 : decode jdk_33_method_47_code 4 = .ok (.iload_n 0, 1) := by decide +kernel
theorem d7_5 : decode jdk_33_method_47_code 5 = .ok (.ifCond .ne 8, 3) := by decide +kernel
theorem d7_8 : decode jdk_33_method_47_code 8 = .ok (.bipush 32, 2) := by decide +kernel
theorem d7_10 : decode jdk_33_method_47_code 10 = .ok (.goto 4, 3) := by decide +kernel
theorem d7_13 : decode jdk_33_method_47_code 13 = .ok (.iconst 0, 1) := by decide +kernel
theorem d7_14 : decode jdk_33_method_47_code 14 = .ok (.ireturn, 1) := by decide +kernel
theorem d7_15 : decode jdk_33_method_47_code 15 = .ok (.bipush 31, 2) := by decide +kernel
theorem d7_17 : decode jdk_33_method_47_code 17 = .ok (.istore_n 1, 1) := by decide +kernel
theorem d7_18 : decode jdk_33_method_47_code 18 = .ok (.iload_n 0, 1) := by decide +kernel
theorem d7_19 : decode jdk_33_method_47_code 19 = .ok (.ldc_w 264, 3) := by decide +kernel
theorem d7_22 : decode jdk_33_method_47_code 22 = .ok (.if_icmp .lt 11, 3) := by decide +kernel
theorem d7_25 : decode jdk_33_method_47_code 25 = .ok (.iinc 1 (-16), 3) := by decide +kernel
theorem d7_28 : decode jdk_33_method_47_code 28 = .ok (.iload_n 0, 1) := by decide +kernel
theorem d7_29 : decode jdk_33_method_47_code 29 = .ok (.bipush 16, 2) := by decide +kernel
theorem d7_31 : decode jdk_33_method_47_code 31 = .ok (.iushr, 1) := by decide +kernel
theorem d7_32 : decode jdk_33_method_47_code 32 = .ok (.istore_n 0, 1) := by decide +kernel
theorem d7_33 : decode jdk_33_method_47_code 33 = .ok (.iload_n 0, 1) := by decide +kernel
theorem d7_34 : decode jdk_33_method_47_code 34 = .ok (.sipush 256, 3) := by decide +kernel
theorem d7_37 : decode jdk_33_method_47_code 37 = .ok (.if_icmp .lt 11, 3) := by decide +kernel
theorem d7_40 : decode jdk_33_method_47_code 40 = .ok (.iinc 1 (-8), 3) := by decide +kernel
theorem d7_43 : decode jdk_33_method_47_code 43 = .ok (.iload_n 0, 1) := by decide +kernel
theorem d7_44 : decode jdk_33_method_47_code 44 = .ok (.bipush 8, 2) := by decide +kernel
theorem d7_46 : decode jdk_33_method_47_code 46 = .ok (.iushr, 1) := by decide +kernel
theorem d7_47 : decode jdk_33_method_47_code 47 = .ok (.istore_n 0, 1) := by decide +kernel
theorem d7_48 : decode jdk_33_method_47_code 48 = .ok (.iload_n 0, 1) := by decide +kernel
theorem d7_49 : decode jdk_33_method_47_code 49 = .ok (.bipush 16, 2) := by decide +kernel
theorem d7_51 : decode jdk_33_method_47_code 51 = .ok (.if_icmp .lt 10, 3) := by decide +kernel
theorem d7_54 : decode jdk_33_method_47_code 54 = .ok (.iinc 1 (-4), 3) := by decide +kernel
theorem d7_57 : decode jdk_33_method_47_code 57 = .ok (.iload_n 0, 1) := by decide +kernel
theorem d7_58 : decode jdk_33_method_47_code 58 = .ok (.iconst 4, 1) := by decide +kernel
theorem d7_59 : decode jdk_33_method_47_code 59 = .ok (.iushr, 1) := by decide +kernel
theorem d7_60 : decode jdk_33_method_47_code 60 = .ok (.istore_n 0, 1) := by decide +kernel
theorem d7_61 : decode jdk_33_method_47_code 61 = .ok (.iload_n 0, 1) := by decide +kernel
theorem d7_62 : decode jdk_33_method_47_code 62 = .ok (.iconst 4, 1) := by decide +kernel
theorem d7_63 : decode jdk_33_method_47_code 63 = .ok (.if_icmp .lt 10, 3) := by decide +kernel
theorem d7_66 : decode jdk_33_method_47_code 66 = .ok (.iinc 1 (-2), 3) := by decide +kernel
theorem d7_69 : decode jdk_33_method_47_code 69 = .ok (.iload_n 0, 1) := by decide +kernel
theorem d7_70 : decode jdk_33_method_47_code 70 = .ok (.iconst 2, 1) := by decide +kernel
theorem d7_71 : decode jdk_33_method_47_code 71 = .ok (.iushr, 1) := by decide +kernel
theorem d7_72 : decode jdk_33_method_47_code 72 = .ok (.istore_n 0, 1) := by decide +kernel
theorem d7_73 : decode jdk_33_method_47_code 73 = .ok (.iload_n 1, 1) := by decide +kernel
theorem d7_74 : decode jdk_33_method_47_code 74 = .ok (.iload_n 0, 1) := by decide +kernel
theorem d7_75 : decode jdk_33_method_47_code 75 = .ok (.iconst 1, 1) := by decide +kernel
theorem d7_76 : decode jdk_33_method_47_code 76 = .ok (.iushr, 1) := by decide +kernel
theorem d7_77 : decode jdk_33_method_47_code 77 = .ok (.isub, 1) := by decide +kernel
theorem d7_78 : decode jdk_33_method_47_code 78 = .ok (.ireturn, 1) := by decide +kernel
theorem pn_7 : plainName "java/lang/Integer" = true := by first | (simp [plainName, overriddenIn]; done) | decide +kernel
theorem ef_7 (m : MethodId) (x0 : Int32) : entryFrame m #[(.int x0)] 2 = mkF m 0 #[.val (.int x0), .unset] [] := by first | (simp [entryFrame, mkF, argsToLocals, Value.category]; done) | rfl
def Q7 (Z : State) (x1 : Int32) (h0 : Heap) (n0 : Nat) (v : Option Value) (h : Heap) (L : List Loc) : Prop := (∃ r, v = some (.int r) ∧ 0 ≤ r.toInt ∧ r.toInt ≤ 32 ∧ (0 ≤ x1.toInt → 1 ≤ r.toInt)) ∧ Fr n0 L ∧ h = h0
set_option maxRecDepth 65536 in
set_option maxHeartbeats 40000000 in
theorem rm7 (l : Launch) (Z : State) (a0 : Array Value) (hw : ∀ d ∈ tables_1, d.before a0 Z = true) (ws : List Jvm.Cond) (x1 : Int32) (h0 : Heap) (n0 : Nat) (Z0 : n0 ≤ h0.size)  :
    MetFree l (⟨"java/lang/Integer", "numberOfLeadingZeros", "(I)I"⟩ : MethodName) (head1 (Jvm.Cond.code (⟨"java/lang/Integer", "numberOfLeadingZeros", "(I)I"⟩ : MethodName) jdk_33_method_47_code 2 (some .int) :: ws) ({ frames := 0, cells := 0, slots := 0, locals := 0 } : Room)) (fun a U => a = #[(.int x1)] ∧ Z.Warmed39 U.vm ∧ U.heap = h0) (fun _ _ _ _ _ => True) (fun _ U o U' => ∃ v L, o = .returned v ∧ Q7 Z x1 h0 n0 v U'.heap L ∧ FrameEnd U o U' L ({ frames := 0, cells := 0, slots := 0, locals := 0 } : Room).cells ({ frames := 0, cells := 0, slots := 0, locals := 0 } : Room).slots) := by
  refine MetFree.of_bodySF (plainFor_of_name pn_7) hisR ?_
  intro p e s m args below meth c s₁ Bd hml0 hP hK
  obtain ⟨rfl, hZ, hh⟩ := hP
  have hx := Bd.exec
  have hby := Bd.bytes
  have hml : c.maxLocals = 2 := hml0
  have hown : s.vm.findClass "java/lang/Integer" = some m.cls := findClass_of_methodNamed Bd.named
  have hnm := (name_of_methodNamed Bd.named Bd.method).1
  have X0 : Stand p l e ({ frames := 0, cells := 0, slots := 0, locals := 0 } : Room) s m #[(.int x1)] below meth c s₁ [] 0 0 := Stand.of_body Bd
  have e0 : s₁.heap = h0 := by rw [← hh, Bd.state]; rfl
  have N0 := Fr.nil n0
  have pre0 : ∀ t, Steps p.tables e below (s₁.setTop (mkF m 0 #[.val (.int x1), .unset] [])) t → Steps p.tables e below (s₁.setTop (entryFrame m #[(.int x1)] 2)) t := fun t kq0 => castTop (ef_7 m x1) kq0
  have sg1 : ∀ t, Steps p.tables e below (s₁.setTop (mkF m 1 #[.val (.int x1), .unset] [(.int x1)])) t → Steps p.tables e below (s₁.setTop (mkF m 0 #[.val (.int x1), .unset] [])) t := by
    intro t kt
    refine XS.iloadN X0.here hx rfl (hb hby d7_0) rfl ?_
    exact kt
  by_cases c1 : 0 < x1
  · have sg2 : ∀ t, Steps p.tables e below (s₁.setTop (mkF m 15 #[.val (.int x1), .unset] [])) t → Steps p.tables e below (s₁.setTop (mkF m 1 #[.val (.int x1), .unset] [(.int x1)])) t := by
      intro t kt
      refine XS.ifYes X0.here hx rfl (pc0 := 1) (pc' := 15) rfl (hb hby d7_1) rfl ((if0 _ _).trans (tlt (c1 : (0 : Int32) < x1)).2.2.1) (by decide) (by decide) ?_
      exact kt
    have sg3 : ∀ t, Steps p.tables e below (s₁.setTop (mkF m 22 #[.val (.int x1), .val (.int (31 : Int32))] [(.int (65536 : Int32)), (.int x1)])) t → Steps p.tables e below (s₁.setTop (mkF m 15 #[.val (.int x1), .unset] [])) t := by
      intro t kt
      refine XS.bipush X0.here hx rfl (hb hby d7_15) ?_
      show Steps p.tables e below (s₁.setTop (mkF m 17 #[.val (.int x1), .unset] [(.int (31 : Int32))])) _
      refine XS.istoreN X0.here hx rfl (hb hby d7_17) rfl (l' := #[.val (.int x1), .val (.int (31 : Int32))]) rfl ?_
      show Steps p.tables e below (s₁.setTop (mkF m 18 #[.val (.int x1), .val (.int (31 : Int32))] [])) _
      refine XS.iloadN X0.here hx rfl (hb hby d7_18) rfl ?_
      show Steps p.tables e below (s₁.setTop (mkF m 19 #[.val (.int x1), .val (.int (31 : Int32))] [(.int x1)])) _
      refine X0.ldcwInt hx hown (mvT hZ (hw _ (List.mem_of_getElem? (i := 43) rfl))) (g := (mkF m 19 #[.val (.int x1), .val (.int (31 : Int32))] [(.int x1)])) rfl (hb hby d7_19) _ ?_
      exact kt
    have z0 : (0 : Int32).toInt = 0 := by decide
    have p1 := Int32.lt_iff_toInt_lt.mp c1
    have r1 := rng32 x1
    by_cases c0 : x1 < (65536 : Int32)
    · have k0 := Int32.lt_iff_toInt_lt.mp c0
      have l0 : (65536 : Int32).toInt = 65536 := by decide
      have sg4 : ∀ t, Steps p.tables e below (s₁.setTop (mkF m 33 #[.val (.int x1), .val (.int (31 : Int32))] [])) t → Steps p.tables e below (s₁.setTop (mkF m 22 #[.val (.int x1), .val (.int (31 : Int32))] [(.int (65536 : Int32)), (.int x1)])) t := by
        intro t kt
        refine XS.icmpYes X0.here hx rfl (pc0 := 22) (pc' := 33) rfl (hb hby d7_22) rfl (tlt (c0 : x1 < (65536 : Int32))).1 (by decide) (by decide) ?_
        exact kt
      by_cases c1 : x1 < (256 : Int32)
      · have k1 := Int32.lt_iff_toInt_lt.mp c1
        have l1 : (256 : Int32).toInt = 256 := by decide
        have sg5 : ∀ t, Steps p.tables e below (s₁.setTop (mkF m 48 #[.val (.int x1), .val (.int (31 : Int32))] [])) t → Steps p.tables e below (s₁.setTop (mkF m 33 #[.val (.int x1), .val (.int (31 : Int32))] [])) t := by
          intro t kt
          refine XS.iloadN X0.here hx rfl (hb hby d7_33) rfl ?_
          show Steps p.tables e below (s₁.setTop (mkF m 34 #[.val (.int x1), .val (.int (31 : Int32))] [(.int x1)])) _
          refine XS.sipush X0.here hx rfl (hb hby d7_34) ?_
          show Steps p.tables e below (s₁.setTop (mkF m 37 #[.val (.int x1), .val (.int (31 : Int32))] [(.int (256 : Int32)), (.int x1)])) _
          refine XS.icmpYes X0.here hx rfl (pc0 := 37) (pc' := 48) rfl (hb hby d7_37) rfl (tlt (c1 : x1 < (256 : Int32))).1 (by decide) (by decide) ?_
          exact kt
        by_cases c2 : x1 < (16 : Int32)
        · have k2 := Int32.lt_iff_toInt_lt.mp c2
          have l2 : (16 : Int32).toInt = 16 := by decide
          have sg6 : ∀ t, Steps p.tables e below (s₁.setTop (mkF m 61 #[.val (.int x1), .val (.int (31 : Int32))] [])) t → Steps p.tables e below (s₁.setTop (mkF m 48 #[.val (.int x1), .val (.int (31 : Int32))] [])) t := by
            intro t kt
            refine XS.iloadN X0.here hx rfl (hb hby d7_48) rfl ?_
            show Steps p.tables e below (s₁.setTop (mkF m 49 #[.val (.int x1), .val (.int (31 : Int32))] [(.int x1)])) _
            refine XS.bipush X0.here hx rfl (hb hby d7_49) ?_
            show Steps p.tables e below (s₁.setTop (mkF m 51 #[.val (.int x1), .val (.int (31 : Int32))] [(.int (16 : Int32)), (.int x1)])) _
            refine XS.icmpYes X0.here hx rfl (pc0 := 51) (pc' := 61) rfl (hb hby d7_51) rfl (tlt (c2 : x1 < (16 : Int32))).1 (by decide) (by decide) ?_
            exact kt
          by_cases c3 : x1 < (4 : Int32)
          · have k3 := Int32.lt_iff_toInt_lt.mp c3
            have l3 : (4 : Int32).toInt = 4 := by decide
            have sg7 : ∀ t, Steps p.tables e below (s₁.setTop (mkF m 73 #[.val (.int x1), .val (.int (31 : Int32))] [])) t → Steps p.tables e below (s₁.setTop (mkF m 61 #[.val (.int x1), .val (.int (31 : Int32))] [])) t := by
              intro t kt
              refine XS.iloadN X0.here hx rfl (hb hby d7_61) rfl ?_
              show Steps p.tables e below (s₁.setTop (mkF m 62 #[.val (.int x1), .val (.int (31 : Int32))] [(.int x1)])) _
              refine XS.iconst X0.here hx rfl (hb hby d7_62) ?_
              show Steps p.tables e below (s₁.setTop (mkF m 63 #[.val (.int x1), .val (.int (31 : Int32))] [(.int (4 : Int32)), (.int x1)])) _
              refine XS.icmpYes X0.here hx rfl (pc0 := 63) (pc' := 73) rfl (hb hby d7_63) rfl (tlt (c3 : x1 < (4 : Int32))).1 (by decide) (by decide) ?_
              exact kt
            have own_fin : 1 ≤ (((31 : Int32) - ((x1.toUInt32 >>> ((1 : Int32) &&& 31).toUInt32).toInt32))).toInt ∧ (((31 : Int32) - ((x1.toUInt32 >>> ((1 : Int32) &&& 31).toUInt32).toInt32))).toInt ≤ 31 := by
              have q := c_iushr x1 1 1 (by decide) (by decide)
              have e2 : ((2 ^ 1 : Nat) : Int) = 2 := by decide
              rw [e2] at q
              have q2 := c_isub (31 : Int32) ((x1.toUInt32 >>> ((1 : Int32) &&& 31).toUInt32).toInt32)
              have q3 := rng32 (((31 : Int32) - ((x1.toUInt32 >>> ((1 : Int32) &&& 31).toUInt32).toInt32)))
              have en : ((31 : Int32)).toInt = 31 := by decide
              rw [q, en] at q2
              omega
            have sg8 : ∀ t, Steps p.tables e below (s₁.setTop (mkF m 78 #[.val (.int x1), .val (.int (31 : Int32))] [(.int ((31 : Int32) - ((x1.toUInt32 >>> ((1 : Int32) &&& 31).toUInt32).toInt32)))])) t → Steps p.tables e below (s₁.setTop (mkF m 73 #[.val (.int x1), .val (.int (31 : Int32))] [])) t := by
              intro t kt
              refine XS.iloadN X0.here hx rfl (hb hby d7_73) rfl ?_
              show Steps p.tables e below (s₁.setTop (mkF m 74 #[.val (.int x1), .val (.int (31 : Int32))] [(.int (31 : Int32))])) _
              refine XS.iloadN X0.here hx rfl (hb hby d7_74) rfl ?_
              show Steps p.tables e below (s₁.setTop (mkF m 75 #[.val (.int x1), .val (.int (31 : Int32))] [(.int x1), (.int (31 : Int32))])) _
              refine XS.iconst X0.here hx rfl (hb hby d7_75) ?_
              show Steps p.tables e below (s₁.setTop (mkF m 76 #[.val (.int x1), .val (.int (31 : Int32))] [(.int (1 : Int32)), (.int x1), (.int (31 : Int32))])) _
              refine XS.iushr X0.here hx rfl (hb hby d7_76) rfl ?_
              show Steps p.tables e below (s₁.setTop (mkF m 77 #[.val (.int x1), .val (.int (31 : Int32))] [(.int ((x1.toUInt32 >>> ((1 : Int32) &&& 31).toUInt32).toInt32)), (.int (31 : Int32))])) _
              refine XS.isub X0.here hx rfl (hb hby d7_77) rfl ?_
              exact kt
            obtain ⟨fs, hr, hrun, hended, hW, hsame⟩ := X0.leave (v := some (.int ((31 : Int32) - ((x1.toUInt32 >>> ((1 : Int32) &&& 31).toUInt32).toInt32)))) (fun h => by rw [Bd.returns] at h; cases h)
            refine ⟨_, _, pre0 _ ?_, hrun, hended, _, _, rfl, ?_, ⟨_, rfl⟩, hW, hsame.mono (by decide) (by decide)⟩
            · refine sg1 _ ?_
              refine sg2 _ ?_
              refine sg3 _ ?_
              refine sg4 _ ?_
              refine sg5 _ ?_
              refine sg6 _ ?_
              refine sg7 _ ?_
              refine sg8 _ ?_
              exact retI X0 hx Bd.returns (hb hby d7_78) hr
            · show Q7 Z x1 h0 n0 _ s₁.heap _
              rw [e0]; exact ⟨⟨_, rfl, by omega, by omega, fun _ => by omega⟩, N0, rfl⟩
          · have k3 : ¬ x1.toInt < (4 : Int32).toInt := fun q => c3 (Int32.lt_iff_toInt_lt.mpr q)
            have l3 : (4 : Int32).toInt = 4 := by decide
            have sg7 : ∀ t, Steps p.tables e below (s₁.setTop (mkF m 73 #[.val (.int ((x1.toUInt32 >>> ((2 : Int32) &&& 31).toUInt32).toInt32)), .val (.int ((31 : Int32) + (-2 : Int32)))] [])) t → Steps p.tables e below (s₁.setTop (mkF m 61 #[.val (.int x1), .val (.int (31 : Int32))] [])) t := by
              intro t kt
              refine XS.iloadN X0.here hx rfl (hb hby d7_61) rfl ?_
              show Steps p.tables e below (s₁.setTop (mkF m 62 #[.val (.int x1), .val (.int (31 : Int32))] [(.int x1)])) _
              refine XS.iconst X0.here hx rfl (hb hby d7_62) ?_
              show Steps p.tables e below (s₁.setTop (mkF m 63 #[.val (.int x1), .val (.int (31 : Int32))] [(.int (4 : Int32)), (.int x1)])) _
              refine XS.icmpNo X0.here hx rfl (hb hby d7_63) rfl (flt (c3 : ¬ (x1 < (4 : Int32)))).1 ?_
              show Steps p.tables e below (s₁.setTop (mkF m 66 #[.val (.int x1), .val (.int (31 : Int32))] [])) _
              refine XS.iinc X0.here hx rfl (hb hby d7_66) rfl (l' := #[.val (.int x1), .val (.int ((31 : Int32) + (-2 : Int32)))]) rfl ?_
              show Steps p.tables e below (s₁.setTop (mkF m 69 #[.val (.int x1), .val (.int ((31 : Int32) + (-2 : Int32)))] [])) _
              refine XS.iloadN X0.here hx rfl (hb hby d7_69) rfl ?_
              show Steps p.tables e below (s₁.setTop (mkF m 70 #[.val (.int x1), .val (.int ((31 : Int32) + (-2 : Int32)))] [(.int x1)])) _
              refine XS.iconst X0.here hx rfl (hb hby d7_70) ?_
              show Steps p.tables e below (s₁.setTop (mkF m 71 #[.val (.int x1), .val (.int ((31 : Int32) + (-2 : Int32)))] [(.int (2 : Int32)), (.int x1)])) _
              refine XS.iushr X0.here hx rfl (hb hby d7_71) rfl ?_
              show Steps p.tables e below (s₁.setTop (mkF m 72 #[.val (.int x1), .val (.int ((31 : Int32) + (-2 : Int32)))] [(.int ((x1.toUInt32 >>> ((2 : Int32) &&& 31).toUInt32).toInt32))])) _
              refine XS.istoreN X0.here hx rfl (hb hby d7_72) rfl (l' := #[.val (.int ((x1.toUInt32 >>> ((2 : Int32) &&& 31).toUInt32).toInt32)), .val (.int ((31 : Int32) + (-2 : Int32)))]) rfl ?_
              exact kt
            have s3 := c_iushr x1 2 2 (by decide) (by decide)
            have t3 : ((2 ^ 2 : Nat) : Int) = 4 := by decide
            rw [t3] at s3
            obtain ⟨y3, hy3⟩ : ∃ z, z = ((x1.toUInt32 >>> ((2 : Int32) &&& 31).toUInt32).toInt32) := ⟨_, rfl⟩
            rw [← hy3] at s3 sg7
            have own_fin : 1 ≤ ((((31 : Int32) + (-2 : Int32)) - ((y3.toUInt32 >>> ((1 : Int32) &&& 31).toUInt32).toInt32))).toInt ∧ ((((31 : Int32) + (-2 : Int32)) - ((y3.toUInt32 >>> ((1 : Int32) &&& 31).toUInt32).toInt32))).toInt ≤ 31 := by
              have q := c_iushr y3 1 1 (by decide) (by decide)
              have e2 : ((2 ^ 1 : Nat) : Int) = 2 := by decide
              rw [e2] at q
              have q2 := c_isub ((31 : Int32) + (-2 : Int32)) ((y3.toUInt32 >>> ((1 : Int32) &&& 31).toUInt32).toInt32)
              have q3 := rng32 ((((31 : Int32) + (-2 : Int32)) - ((y3.toUInt32 >>> ((1 : Int32) &&& 31).toUInt32).toInt32)))
              have en : (((31 : Int32) + (-2 : Int32))).toInt = 29 := by decide
              rw [q, en] at q2
              omega
            have sg8 : ∀ t, Steps p.tables e below (s₁.setTop (mkF m 78 #[.val (.int y3), .val (.int ((31 : Int32) + (-2 : Int32)))] [(.int (((31 : Int32) + (-2 : Int32)) - ((y3.toUInt32 >>> ((1 : Int32) &&& 31).toUInt32).toInt32)))])) t → Steps p.tables e below (s₁.setTop (mkF m 73 #[.val (.int y3), .val (.int ((31 : Int32) + (-2 : Int32)))] [])) t := by
              intro t kt
              refine XS.iloadN X0.here hx rfl (hb hby d7_73) rfl ?_
              show Steps p.tables e below (s₁.setTop (mkF m 74 #[.val (.int y3), .val (.int ((31 : Int32) + (-2 : Int32)))] [(.int ((31 : Int32) + (-2 : Int32)))])) _
              refine XS.iloadN X0.here hx rfl (hb hby d7_74) rfl ?_
              show Steps p.tables e below (s₁.setTop (mkF m 75 #[.val (.int y3), .val (.int ((31 : Int32) + (-2 : Int32)))] [(.int y3), (.int ((31 : Int32) + (-2 : Int32)))])) _
              refine XS.iconst X0.here hx rfl (hb hby d7_75) ?_
              show Steps p.tables e below (s₁.setTop (mkF m 76 #[.val (.int y3), .val (.int ((31 : Int32) + (-2 : Int32)))] [(.int (1 : Int32)), (.int y3), (.int ((31 : Int32) + (-2 : Int32)))])) _
              refine XS.iushr X0.here hx rfl (hb hby d7_76) rfl ?_
              show Steps p.tables e below (s₁.setTop (mkF m 77 #[.val (.int y3), .val (.int ((31 : Int32) + (-2 : Int32)))] [(.int ((y3.toUInt32 >>> ((1 : Int32) &&& 31).toUInt32).toInt32)), (.int ((31 : Int32) + (-2 : Int32)))])) _
              refine XS.isub X0.here hx rfl (hb hby d7_77) rfl ?_
              exact kt
            obtain ⟨fs, hr, hrun, hended, hW, hsame⟩ := X0.leave (v := some (.int (((31 : Int32) + (-2 : Int32)) - ((y3.toUInt32 >>> ((1 : Int32) &&& 31).toUInt32).toInt32)))) (fun h => by rw [Bd.returns] at h; cases h)
            refine ⟨_, _, pre0 _ ?_, hrun, hended, _, _, rfl, ?_, ⟨_, rfl⟩, hW, hsame.mono (by decide) (by decide)⟩
            · refine sg1 _ ?_
              refine sg2 _ ?_
              refine sg3 _ ?_
              refine sg4 _ ?_
              refine sg5 _ ?_
              refine sg6 _ ?_
              refine sg7 _ ?_
              refine sg8 _ ?_
              exact retI X0 hx Bd.returns (hb hby d7_78) hr
            · show Q7 Z x1 h0 n0 _ s₁.heap _
              rw [e0]; exact ⟨⟨_, rfl, by omega, by omega, fun _ => by omega⟩, N0, rfl⟩
        · have k2 : ¬ x1.toInt < (16 : Int32).toInt := fun q => c2 (Int32.lt_iff_toInt_lt.mpr q)
          have l2 : (16 : Int32).toInt = 16 := by decide
          have sg6 : ∀ t, Steps p.tables e below (s₁.setTop (mkF m 61 #[.val (.int ((x1.toUInt32 >>> ((4 : Int32) &&& 31).toUInt32).toInt32)), .val (.int ((31 : Int32) + (-4 : Int32)))] [])) t → Steps p.tables e below (s₁.setTop (mkF m 48 #[.val (.int x1), .val (.int (31 : Int32))] [])) t := by
            intro t kt
            refine XS.iloadN X0.here hx rfl (hb hby d7_48) rfl ?_
            show Steps p.tables e below (s₁.setTop (mkF m 49 #[.val (.int x1), .val (.int (31 : Int32))] [(.int x1)])) _
            refine XS.bipush X0.here hx rfl (hb hby d7_49) ?_
            show Steps p.tables e below (s₁.setTop (mkF m 51 #[.val (.int x1), .val (.int (31 : Int32))] [(.int (16 : Int32)), (.int x1)])) _
            refine XS.icmpNo X0.here hx rfl (hb hby d7_51) rfl (flt (c2 : ¬ (x1 < (16 : Int32)))).1 ?_
            show Steps p.tables e below (s₁.setTop (mkF m 54 #[.val (.int x1), .val (.int (31 : Int32))] [])) _
            refine XS.iinc X0.here hx rfl (hb hby d7_54) rfl (l' := #[.val (.int x1), .val (.int ((31 : Int32) + (-4 : Int32)))]) rfl ?_
            show Steps p.tables e below (s₁.setTop (mkF m 57 #[.val (.int x1), .val (.int ((31 : Int32) + (-4 : Int32)))] [])) _
            refine XS.iloadN X0.here hx rfl (hb hby d7_57) rfl ?_
            show Steps p.tables e below (s₁.setTop (mkF m 58 #[.val (.int x1), .val (.int ((31 : Int32) + (-4 : Int32)))] [(.int x1)])) _
            refine XS.iconst X0.here hx rfl (hb hby d7_58) ?_
            show Steps p.tables e below (s₁.setTop (mkF m 59 #[.val (.int x1), .val (.int ((31 : Int32) + (-4 : Int32)))] [(.int (4 : Int32)), (.int x1)])) _
            refine XS.iushr X0.here hx rfl (hb hby d7_59) rfl ?_
            show Steps p.tables e below (s₁.setTop (mkF m 60 #[.val (.int x1), .val (.int ((31 : Int32) + (-4 : Int32)))] [(.int ((x1.toUInt32 >>> ((4 : Int32) &&& 31).toUInt32).toInt32))])) _
            refine XS.istoreN X0.here hx rfl (hb hby d7_60) rfl (l' := #[.val (.int ((x1.toUInt32 >>> ((4 : Int32) &&& 31).toUInt32).toInt32)), .val (.int ((31 : Int32) + (-4 : Int32)))]) rfl ?_
            exact kt
          have s2 := c_iushr x1 4 4 (by decide) (by decide)
          have t2 : ((2 ^ 4 : Nat) : Int) = 16 := by decide
          rw [t2] at s2
          obtain ⟨y2, hy2⟩ : ∃ z, z = ((x1.toUInt32 >>> ((4 : Int32) &&& 31).toUInt32).toInt32) := ⟨_, rfl⟩
          rw [← hy2] at s2 sg6
          by_cases c3 : y2 < (4 : Int32)
          · have k3 := Int32.lt_iff_toInt_lt.mp c3
            have l3 : (4 : Int32).toInt = 4 := by decide
            have sg7 : ∀ t, Steps p.tables e below (s₁.setTop (mkF m 73 #[.val (.int y2), .val (.int ((31 : Int32) + (-4 : Int32)))] [])) t → Steps p.tables e below (s₁.setTop (mkF m 61 #[.val (.int y2), .val (.int ((31 : Int32) + (-4 : Int32)))] [])) t := by
              intro t kt
              refine XS.iloadN X0.here hx rfl (hb hby d7_61) rfl ?_
              show Steps p.tables e below (s₁.setTop (mkF m 62 #[.val (.int y2), .val (.int ((31 : Int32) + (-4 : Int32)))] [(.int y2)])) _
              refine XS.iconst X0.here hx rfl (hb hby d7_62) ?_
              show Steps p.tables e below (s₁.setTop (mkF m 63 #[.val (.int y2), .val (.int ((31 : Int32) + (-4 : Int32)))] [(.int (4 : Int32)), (.int y2)])) _
              refine XS.icmpYes X0.here hx rfl (pc0 := 63) (pc' := 73) rfl (hb hby d7_63) rfl (tlt (c3 : y2 < (4 : Int32))).1 (by decide) (by decide) ?_
              exact kt
            have own_fin : 1 ≤ ((((31 : Int32) + (-4 : Int32)) - ((y2.toUInt32 >>> ((1 : Int32) &&& 31).toUInt32).toInt32))).toInt ∧ ((((31 : Int32) + (-4 : Int32)) - ((y2.toUInt32 >>> ((1 : Int32) &&& 31).toUInt32).toInt32))).toInt ≤ 31 := by
              have q := c_iushr y2 1 1 (by decide) (by decide)
              have e2 : ((2 ^ 1 : Nat) : Int) = 2 := by decide
              rw [e2] at q
              have q2 := c_isub ((31 : Int32) + (-4 : Int32)) ((y2.toUInt32 >>> ((1 : Int32) &&& 31).toUInt32).toInt32)
              have q3 := rng32 ((((31 : Int32) + (-4 : Int32)) - ((y2.toUInt32 >>> ((1 : Int32) &&& 31).toUInt32).toInt32)))
              have en : (((31 : Int32) + (-4 : Int32))).toInt = 27 := by decide
              rw [q, en] at q2
              omega
            have sg8 : ∀ t, Steps p.tables e below (s₁.setTop (mkF m 78 #[.val (.int y2), .val (.int ((31 : Int32) + (-4 : Int32)))] [(.int (((31 : Int32) + (-4 : Int32)) - ((y2.toUInt32 >>> ((1 : Int32) &&& 31).toUInt32).toInt32)))])) t → Steps p.tables e below (s₁.setTop (mkF m 73 #[.val (.int y2), .val (.int ((31 : Int32) + (-4 : Int32)))] [])) t := by
              intro t kt
              refine XS.iloadN X0.here hx rfl (hb hby d7_73) rfl ?_
              show Steps p.tables e below (s₁.setTop (mkF m 74 #[.val (.int y2), .val (.int ((31 : Int32) + (-4 : Int32)))] [(.int ((31 : Int32) + (-4 : Int32)))])) _
              refine XS.iloadN X0.here hx rfl (hb hby d7_74) rfl ?_
              show Steps p.tables e below (s₁.setTop (mkF m 75 #[.val (.int y2), .val (.int ((31 : Int32) + (-4 : Int32)))] [(.int y2), (.int ((31 : Int32) + (-4 : Int32)))])) _
              refine XS.iconst X0.here hx rfl (hb hby d7_75) ?_
              show Steps p.tables e below (s₁.setTop (mkF m 76 #[.val (.int y2), .val (.int ((31 : Int32) + (-4 : Int32)))] [(.int (1 : Int32)), (.int y2), (.int ((31 : Int32) + (-4 : Int32)))])) _
              refine XS.iushr X0.here hx rfl (hb hby d7_76) rfl ?_
              show Steps p.tables e below (s₁.setTop (mkF m 77 #[.val (.int y2), .val (.int ((31 : Int32) + (-4 : Int32)))] [(.int ((y2.toUInt32 >>> ((1 : Int32) &&& 31).toUInt32).toInt32)), (.int ((31 : Int32) + (-4 : Int32)))])) _
              refine XS.isub X0.here hx rfl (hb hby d7_77) rfl ?_
              exact kt
            obtain ⟨fs, hr, hrun, hended, hW, hsame⟩ := X0.leave (v := some (.int (((31 : Int32) + (-4 : Int32)) - ((y2.toUInt32 >>> ((1 : Int32) &&& 31).toUInt32).toInt32)))) (fun h => by rw [Bd.returns] at h; cases h)
            refine ⟨_, _, pre0 _ ?_, hrun, hended, _, _, rfl, ?_, ⟨_, rfl⟩, hW, hsame.mono (by decide) (by decide)⟩
            · refine sg1 _ ?_
              refine sg2 _ ?_
              refine sg3 _ ?_
              refine sg4 _ ?_
              refine sg5 _ ?_
              refine sg6 _ ?_
              refine sg7 _ ?_
              refine sg8 _ ?_
              exact retI X0 hx Bd.returns (hb hby d7_78) hr
            · show Q7 Z x1 h0 n0 _ s₁.heap _
              rw [e0]; exact ⟨⟨_, rfl, by omega, by omega, fun _ => by omega⟩, N0, rfl⟩
          · have k3 : ¬ y2.toInt < (4 : Int32).toInt := fun q => c3 (Int32.lt_iff_toInt_lt.mpr q)
            have l3 : (4 : Int32).toInt = 4 := by decide
            have sg7 : ∀ t, Steps p.tables e below (s₁.setTop (mkF m 73 #[.val (.int ((y2.toUInt32 >>> ((2 : Int32) &&& 31).toUInt32).toInt32)), .val (.int (((31 : Int32) + (-4 : Int32)) + (-2 : Int32)))] [])) t → Steps p.tables e below (s₁.setTop (mkF m 61 #[.val (.int y2), .val (.int ((31 : Int32) + (-4 : Int32)))] [])) t := by
              intro t kt
              refine XS.iloadN X0.here hx rfl (hb hby d7_61) rfl ?_
              show Steps p.tables e below (s₁.setTop (mkF m 62 #[.val (.int y2), .val (.int ((31 : Int32) + (-4 : Int32)))] [(.int y2)])) _
              refine XS.iconst X0.here hx rfl (hb hby d7_62) ?_
              show Steps p.tables e below (s₁.setTop (mkF m 63 #[.val (.int y2), .val (.int ((31 : Int32) + (-4 : Int32)))] [(.int (4 : Int32)), (.int y2)])) _
              refine XS.icmpNo X0.here hx rfl (hb hby d7_63) rfl (flt (c3 : ¬ (y2 < (4 : Int32)))).1 ?_
              show Steps p.tables e below (s₁.setTop (mkF m 66 #[.val (.int y2), .val (.int ((31 : Int32) + (-4 : Int32)))] [])) _
              refine XS.iinc X0.here hx rfl (hb hby d7_66) rfl (l' := #[.val (.int y2), .val (.int (((31 : Int32) + (-4 : Int32)) + (-2 : Int32)))]) rfl ?_
              show Steps p.tables e below (s₁.setTop (mkF m 69 #[.val (.int y2), .val (.int (((31 : Int32) + (-4 : Int32)) + (-2 : Int32)))] [])) _
              refine XS.iloadN X0.here hx rfl (hb hby d7_69) rfl ?_
              show Steps p.tables e below (s₁.setTop (mkF m 70 #[.val (.int y2), .val (.int (((31 : Int32) + (-4 : Int32)) + (-2 : Int32)))] [(.int y2)])) _
              refine XS.iconst X0.here hx rfl (hb hby d7_70) ?_
              show Steps p.tables e below (s₁.setTop (mkF m 71 #[.val (.int y2), .val (.int (((31 : Int32) + (-4 : Int32)) + (-2 : Int32)))] [(.int (2 : Int32)), (.int y2)])) _
              refine XS.iushr X0.here hx rfl (hb hby d7_71) rfl ?_
              show Steps p.tables e below (s₁.setTop (mkF m 72 #[.val (.int y2), .val (.int (((31 : Int32) + (-4 : Int32)) + (-2 : Int32)))] [(.int ((y2.toUInt32 >>> ((2 : Int32) &&& 31).toUInt32).toInt32))])) _
              refine XS.istoreN X0.here hx rfl (hb hby d7_72) rfl (l' := #[.val (.int ((y2.toUInt32 >>> ((2 : Int32) &&& 31).toUInt32).toInt32)), .val (.int (((31 : Int32) + (-4 : Int32)) + (-2 : Int32)))]) rfl ?_
              exact kt
            have s3 := c_iushr y2 2 2 (by decide) (by decide)
            have t3 : ((2 ^ 2 : Nat) : Int) = 4 := by decide
            rw [t3] at s3
            obtain ⟨y3, hy3⟩ : ∃ z, z = ((y2.toUInt32 >>> ((2 : Int32) &&& 31).toUInt32).toInt32) := ⟨_, rfl⟩
            rw [← hy3] at s3 sg7
            have own_fin : 1 ≤ (((((31 : Int32) + (-4 : Int32)) + (-2 : Int32)) - ((y3.toUInt32 >>> ((1 : Int32) &&& 31).toUInt32).toInt32))).toInt ∧ (((((31 : Int32) + (-4 : Int32)) + (-2 : Int32)) - ((y3.toUInt32 >>> ((1 : Int32) &&& 31).toUInt32).toInt32))).toInt ≤ 31 := by
              have q := c_iushr y3 1 1 (by decide) (by decide)
              have e2 : ((2 ^ 1 : Nat) : Int) = 2 := by decide
              rw [e2] at q
              have q2 := c_isub (((31 : Int32) + (-4 : Int32)) + (-2 : Int32)) ((y3.toUInt32 >>> ((1 : Int32) &&& 31).toUInt32).toInt32)
              have q3 := rng32 (((((31 : Int32) + (-4 : Int32)) + (-2 : Int32)) - ((y3.toUInt32 >>> ((1 : Int32) &&& 31).toUInt32).toInt32)))
              have en : ((((31 : Int32) + (-4 : Int32)) + (-2 : Int32))).toInt = 25 := by decide
              rw [q, en] at q2
              omega
            have sg8 : ∀ t, Steps p.tables e below (s₁.setTop (mkF m 78 #[.val (.int y3), .val (.int (((31 : Int32) + (-4 : Int32)) + (-2 : Int32)))] [(.int ((((31 : Int32) + (-4 : Int32)) + (-2 : Int32)) - ((y3.toUInt32 >>> ((1 : Int32) &&& 31).toUInt32).toInt32)))])) t → Steps p.tables e below (s₁.setTop (mkF m 73 #[.val (.int y3), .val (.int (((31 : Int32) + (-4 : Int32)) + (-2 : Int32)))] [])) t := by
              intro t kt
              refine XS.iloadN X0.here hx rfl (hb hby d7_73) rfl ?_
              show Steps p.tables e below (s₁.setTop (mkF m 74 #[.val (.int y3), .val (.int (((31 : Int32) + (-4 : Int32)) + (-2 : Int32)))] [(.int (((31 : Int32) + (-4 : Int32)) + (-2 : Int32)))])) _
              refine XS.iloadN X0.here hx rfl (hb hby d7_74) rfl ?_
              show Steps p.tables e below (s₁.setTop (mkF m 75 #[.val (.int y3), .val (.int (((31 : Int32) + (-4 : Int32)) + (-2 : Int32)))] [(.int y3), (.int (((31 : Int32) + (-4 : Int32)) + (-2 : Int32)))])) _
              refine XS.iconst X0.here hx rfl (hb hby d7_75) ?_
              show Steps p.tables e below (s₁.setTop (mkF m 76 #[.val (.int y3), .val (.int (((31 : Int32) + (-4 : Int32)) + (-2 : Int32)))] [(.int (1 : Int32)), (.int y3), (.int (((31 : Int32) + (-4 : Int32)) + (-2 : Int32)))])) _
              refine XS.iushr X0.here hx rfl (hb hby d7_76) rfl ?_
              show Steps p.tables e below (s₁.setTop (mkF m 77 #[.val (.int y3), .val (.int (((31 : Int32) + (-4 : Int32)) + (-2 : Int32)))] [(.int ((y3.toUInt32 >>> ((1 : Int32) &&& 31).toUInt32).toInt32)), (.int (((31 : Int32) + (-4 : Int32)) + (-2 : Int32)))])) _
              refine XS.isub X0.here hx rfl (hb hby d7_77) rfl ?_
              exact kt
            obtain ⟨fs, hr, hrun, hended, hW, hsame⟩ := X0.leave (v := some (.int ((((31 : Int32) + (-4 : Int32)) + (-2 : Int32)) - ((y3.toUInt32 >>> ((1 : Int32) &&& 31).toUInt32).toInt32)))) (fun h => by rw [Bd.returns] at h; cases h)
            refine ⟨_, _, pre0 _ ?_, hrun, hended, _, _, rfl, ?_, ⟨_, rfl⟩, hW, hsame.mono (by decide) (by decide)⟩
            · refine sg1 _ ?_
              refine sg2 _ ?_
              refine sg3 _ ?_
              refine sg4 _ ?_
              refine sg5 _ ?_
              refine sg6 _ ?_
              refine sg7 _ ?_
              refine sg8 _ ?_
              exact retI X0 hx Bd.returns (hb hby d7_78) hr
            · show Q7 Z x1 h0 n0 _ s₁.heap _
              rw [e0]; exact ⟨⟨_, rfl, by omega, by omega, fun _ => by omega⟩, N0, rfl⟩
      · have k1 : ¬ x1.toInt < (256 : Int32).toInt := fun q => c1 (Int32.lt_iff_toInt_lt.mpr q)
        have l1 : (256 : Int32).toInt = 256 := by decide
        have sg5 : ∀ t, Steps p.tables e below (s₁.setTop (mkF m 48 #[.val (.int ((x1.toUInt32 >>> ((8 : Int32) &&& 31).toUInt32).toInt32)), .val (.int ((31 : Int32) + (-8 : Int32)))] [])) t → Steps p.tables e below (s₁.setTop (mkF m 33 #[.val (.int x1), .val (.int (31 : Int32))] [])) t := by
          intro t kt
          refine XS.iloadN X0.here hx rfl (hb hby d7_33) rfl ?_
          show Steps p.tables e below (s₁.setTop (mkF m 34 #[.val (.int x1), .val (.int (31 : Int32))] [(.int x1)])) _
          refine XS.sipush X0.here hx rfl (hb hby d7_34) ?_
          show Steps p.tables e below (s₁.setTop (mkF m 37 #[.val (.int x1), .val (.int (31 : Int32))] [(.int (256 : Int32)), (.int x1)])) _
          refine XS.icmpNo X0.here hx rfl (hb hby d7_37) rfl (flt (c1 : ¬ (x1 < (256 : Int32)))).1 ?_
          show Steps p.tables e below (s₁.setTop (mkF m 40 #[.val (.int x1), .val (.int (31 : Int32))] [])) _
          refine XS.iinc X0.here hx rfl (hb hby d7_40) rfl (l' := #[.val (.int x1), .val (.int ((31 : Int32) + (-8 : Int32)))]) rfl ?_
          show Steps p.tables e below (s₁.setTop (mkF m 43 #[.val (.int x1), .val (.int ((31 : Int32) + (-8 : Int32)))] [])) _
          refine XS.iloadN X0.here hx rfl (hb hby d7_43) rfl ?_
          show Steps p.tables e below (s₁.setTop (mkF m 44 #[.val (.int x1), .val (.int ((31 : Int32) + (-8 : Int32)))] [(.int x1)])) _
          refine XS.bipush X0.here hx rfl (hb hby d7_44) ?_
          show Steps p.tables e below (s₁.setTop (mkF m 46 #[.val (.int x1), .val (.int ((31 : Int32) + (-8 : Int32)))] [(.int (8 : Int32)), (.int x1)])) _
          refine XS.iushr X0.here hx rfl (hb hby d7_46) rfl ?_
          show Steps p.tables e below (s₁.setTop (mkF m 47 #[.val (.int x1), .val (.int ((31 : Int32) + (-8 : Int32)))] [(.int ((x1.toUInt32 >>> ((8 : Int32) &&& 31).toUInt32).toInt32))])) _
          refine XS.istoreN X0.here hx rfl (hb hby d7_47) rfl (l' := #[.val (.int ((x1.toUInt32 >>> ((8 : Int32) &&& 31).toUInt32).toInt32)), .val (.int ((31 : Int32) + (-8 : Int32)))]) rfl ?_
          exact kt
        have s1 := c_iushr x1 8 8 (by decide) (by decide)
        have t1 : ((2 ^ 8 : Nat) : Int) = 256 := by decide
        rw [t1] at s1
        obtain ⟨y1, hy1⟩ : ∃ z, z = ((x1.toUInt32 >>> ((8 : Int32) &&& 31).toUInt32).toInt32) := ⟨_, rfl⟩
        rw [← hy1] at s1 sg5
        by_cases c2 : y1 < (16 : Int32)
        · have k2 := Int32.lt_iff_toInt_lt.mp c2
          have l2 : (16 : Int32).toInt = 16 := by decide
          have sg6 : ∀ t, Steps p.tables e below (s₁.setTop (mkF m 61 #[.val (.int y1), .val (.int ((31 : Int32) + (-8 : Int32)))] [])) t → Steps p.tables e below (s₁.setTop (mkF m 48 #[.val (.int y1), .val (.int ((31 : Int32) + (-8 : Int32)))] [])) t := by
            intro t kt
            refine XS.iloadN X0.here hx rfl (hb hby d7_48) rfl ?_
            show Steps p.tables e below (s₁.setTop (mkF m 49 #[.val (.int y1), .val (.int ((31 : Int32) + (-8 : Int32)))] [(.int y1)])) _
            refine XS.bipush X0.here hx rfl (hb hby d7_49) ?_
            show Steps p.tables e below (s₁.setTop (mkF m 51 #[.val (.int y1), .val (.int ((31 : Int32) + (-8 : Int32)))] [(.int (16 : Int32)), (.int y1)])) _
            refine XS.icmpYes X0.here hx rfl (pc0 := 51) (pc' := 61) rfl (hb hby d7_51) rfl (tlt (c2 : y1 < (16 : Int32))).1 (by decide) (by decide) ?_
            exact kt
          by_cases c3 : y1 < (4 : Int32)
          · have k3 := Int32.lt_iff_toInt_lt.mp c3
            have l3 : (4 : Int32).toInt = 4 := by decide
            have sg7 : ∀ t, Steps p.tables e below (s₁.setTop (mkF m 73 #[.val (.int y1), .val (.int ((31 : Int32) + (-8 : Int32)))] [])) t → Steps p.tables e below (s₁.setTop (mkF m 61 #[.val (.int y1), .val (.int ((31 : Int32) + (-8 : Int32)))] [])) t := by
              intro t kt
              refine XS.iloadN X0.here hx rfl (hb hby d7_61) rfl ?_
              show Steps p.tables e below (s₁.setTop (mkF m 62 #[.val (.int y1), .val (.int ((31 : Int32) + (-8 : Int32)))] [(.int y1)])) _
              refine XS.iconst X0.here hx rfl (hb hby d7_62) ?_
              show Steps p.tables e below (s₁.setTop (mkF m 63 #[.val (.int y1), .val (.int ((31 : Int32) + (-8 : Int32)))] [(.int (4 : Int32)), (.int y1)])) _
              refine XS.icmpYes X0.here hx rfl (pc0 := 63) (pc' := 73) rfl (hb hby d7_63) rfl (tlt (c3 : y1 < (4 : Int32))).1 (by decide) (by decide) ?_
              exact kt
            have own_fin : 1 ≤ ((((31 : Int32) + (-8 : Int32)) - ((y1.toUInt32 >>> ((1 : Int32) &&& 31).toUInt32).toInt32))).toInt ∧ ((((31 : Int32) + (-8 : Int32)) - ((y1.toUInt32 >>> ((1 : Int32) &&& 31).toUInt32).toInt32))).toInt ≤ 31 := by
              have q := c_iushr y1 1 1 (by decide) (by decide)
              have e2 : ((2 ^ 1 : Nat) : Int) = 2 := by decide
              rw [e2] at q
              have q2 := c_isub ((31 : Int32) + (-8 : Int32)) ((y1.toUInt32 >>> ((1 : Int32) &&& 31).toUInt32).toInt32)
              have q3 := rng32 ((((31 : Int32) + (-8 : Int32)) - ((y1.toUInt32 >>> ((1 : Int32) &&& 31).toUInt32).toInt32)))
              have en : (((31 : Int32) + (-8 : Int32))).toInt = 23 := by decide
              rw [q, en] at q2
              omega
            have sg8 : ∀ t, Steps p.tables e below (s₁.setTop (mkF m 78 #[.val (.int y1), .val (.int ((31 : Int32) + (-8 : Int32)))] [(.int (((31 : Int32) + (-8 : Int32)) - ((y1.toUInt32 >>> ((1 : Int32) &&& 31).toUInt32).toInt32)))])) t → Steps p.tables e below (s₁.setTop (mkF m 73 #[.val (.int y1), .val (.int ((31 : Int32) + (-8 : Int32)))] [])) t := by
              intro t kt
              refine XS.iloadN X0.here hx rfl (hb hby d7_73) rfl ?_
              show Steps p.tables e below (s₁.setTop (mkF m 74 #[.val (.int y1), .val (.int ((31 : Int32) + (-8 : Int32)))] [(.int ((31 : Int32) + (-8 : Int32)))])) _
              refine XS.iloadN X0.here hx rfl (hb hby d7_74) rfl ?_
              show Steps p.tables e below (s₁.setTop (mkF m 75 #[.val (.int y1), .val (.int ((31 : Int32) + (-8 : Int32)))] [(.int y1), (.int ((31 : Int32) + (-8 : Int32)))])) _
              refine XS.iconst X0.here hx rfl (hb hby d7_75) ?_
              show Steps p.tables e below (s₁.setTop (mkF m 76 #[.val (.int y1), .val (.int ((31 : Int32) + (-8 : Int32)))] [(.int (1 : Int32)), (.int y1), (.int ((31 : Int32) + (-8 : Int32)))])) _
              refine XS.iushr X0.here hx rfl (hb hby d7_76) rfl ?_
              show Steps p.tables e below (s₁.setTop (mkF m 77 #[.val (.int y1), .val (.int ((31 : Int32) + (-8 : Int32)))] [(.int ((y1.toUInt32 >>> ((1 : Int32) &&& 31).toUInt32).toInt32)), (.int ((31 : Int32) + (-8 : Int32)))])) _
              refine XS.isub X0.here hx rfl (hb hby d7_77) rfl ?_
              exact kt
            obtain ⟨fs, hr, hrun, hended, hW, hsame⟩ := X0.leave (v := some (.int (((31 : Int32) + (-8 : Int32)) - ((y1.toUInt32 >>> ((1 : Int32) &&& 31).toUInt32).toInt32)))) (fun h => by rw [Bd.returns] at h; cases h)
            refine ⟨_, _, pre0 _ ?_, hrun, hended, _, _, rfl, ?_, ⟨_, rfl⟩, hW, hsame.mono (by decide) (by decide)⟩
            · refine sg1 _ ?_
              refine sg2 _ ?_
              refine sg3 _ ?_
              refine sg4 _ ?_
              refine sg5 _ ?_
              refine sg6 _ ?_
              refine sg7 _ ?_
              refine sg8 _ ?_
              exact retI X0 hx Bd.returns (hb hby d7_78) hr
            · show Q7 Z x1 h0 n0 _ s₁.heap _
              rw [e0]; exact ⟨⟨_, rfl, by omega, by omega, fun _ => by omega⟩, N0, rfl⟩
          · have k3 : ¬ y1.toInt < (4 : Int32).toInt := fun q => c3 (Int32.lt_iff_toInt_lt.mpr q)
            have l3 : (4 : Int32).toInt = 4 := by decide
            have sg7 : ∀ t, Steps p.tables e below (s₁.setTop (mkF m 73 #[.val (.int ((y1.toUInt32 >>> ((2 : Int32) &&& 31).toUInt32).toInt32)), .val (.int (((31 : Int32) + (-8 : Int32)) + (-2 : Int32)))] [])) t → Steps p.tables e below (s₁.setTop (mkF m 61 #[.val (.int y1), .val (.int ((31 : Int32) + (-8 : Int32)))] [])) t := by
              intro t kt
              refine XS.iloadN X0.here hx rfl (hb hby d7_61) rfl ?_
              show Steps p.tables e below (s₁.setTop (mkF m 62 #[.val (.int y1), .val (.int ((31 : Int32) + (-8 : Int32)))] [(.int y1)])) _
              refine XS.iconst X0.here hx rfl (hb hby d7_62) ?_
              show Steps p.tables e below (s₁.setTop (mkF m 63 #[.val (.int y1), .val (.int ((31 : Int32) + (-8 : Int32)))] [(.int (4 : Int32)), (.int y1)])) _
              refine XS.icmpNo X0.here hx rfl (hb hby d7_63) rfl (flt (c3 : ¬ (y1 < (4 : Int32)))).1 ?_
              show Steps p.tables e below (s₁.setTop (mkF m 66 #[.val (.int y1), .val (.int ((31 : Int32) + (-8 : Int32)))] [])) _
              refine XS.iinc X0.here hx rfl (hb hby d7_66) rfl (l' := #[.val (.int y1), .val (.int (((31 : Int32) + (-8 : Int32)) + (-2 : Int32)))]) rfl ?_
              show Steps p.tables e below (s₁.setTop (mkF m 69 #[.val (.int y1), .val (.int (((31 : Int32) + (-8 : Int32)) + (-2 : Int32)))] [])) _
              refine XS.iloadN X0.here hx rfl (hb hby d7_69) rfl ?_
              show Steps p.tables e below (s₁.setTop (mkF m 70 #[.val (.int y1), .val (.int (((31 : Int32) + (-8 : Int32)) + (-2 : Int32)))] [(.int y1)])) _
              refine XS.iconst X0.here hx rfl (hb hby d7_70) ?_
              show Steps p.tables e below (s₁.setTop (mkF m 71 #[.val (.int y1), .val (.int (((31 : Int32) + (-8 : Int32)) + (-2 : Int32)))] [(.int (2 : Int32)), (.int y1)])) _
              refine XS.iushr X0.here hx rfl (hb hby d7_71) rfl ?_
              show Steps p.tables e below (s₁.setTop (mkF m 72 #[.val (.int y1), .val (.int (((31 : Int32) + (-8 : Int32)) + (-2 : Int32)))] [(.int ((y1.toUInt32 >>> ((2 : Int32) &&& 31).toUInt32).toInt32))])) _
              refine XS.istoreN X0.here hx rfl (hb hby d7_72) rfl (l' := #[.val (.int ((y1.toUInt32 >>> ((2 : Int32) &&& 31).toUInt32).toInt32)), .val (.int (((31 : Int32) + (-8 : Int32)) + (-2 : Int32)))]) rfl ?_
              exact kt
            have s3 := c_iushr y1 2 2 (by decide) (by decide)
            have t3 : ((2 ^ 2 : Nat) : Int) = 4 := by decide
            rw [t3] at s3
            obtain ⟨y3, hy3⟩ : ∃ z, z = ((y1.toUInt32 >>> ((2 : Int32) &&& 31).toUInt32).toInt32) := ⟨_, rfl⟩
            rw [← hy3] at s3 sg7
            have own_fin : 1 ≤ (((((31 : Int32) + (-8 : Int32)) + (-2 : Int32)) - ((y3.toUInt32 >>> ((1 : Int32) &&& 31).toUInt32).toInt32))).toInt ∧ (((((31 : Int32) + (-8 : Int32)) + (-2 : Int32)) - ((y3.toUInt32 >>> ((1 : Int32) &&& 31).toUInt32).toInt32))).toInt ≤ 31 := by
              have q := c_iushr y3 1 1 (by decide) (by decide)
              have e2 : ((2 ^ 1 : Nat) : Int) = 2 := by decide
              rw [e2] at q
              have q2 := c_isub (((31 : Int32) + (-8 : Int32)) + (-2 : Int32)) ((y3.toUInt32 >>> ((1 : Int32) &&& 31).toUInt32).toInt32)
              have q3 := rng32 (((((31 : Int32) + (-8 : Int32)) + (-2 : Int32)) - ((y3.toUInt32 >>> ((1 : Int32) &&& 31).toUInt32).toInt32)))
              have en : ((((31 : Int32) + (-8 : Int32)) + (-2 : Int32))).toInt = 21 := by decide
              rw [q, en] at q2
              omega
            have sg8 : ∀ t, Steps p.tables e below (s₁.setTop (mkF m 78 #[.val (.int y3), .val (.int (((31 : Int32) + (-8 : Int32)) + (-2 : Int32)))] [(.int ((((31 : Int32) + (-8 : Int32)) + (-2 : Int32)) - ((y3.toUInt32 >>> ((1 : Int32) &&& 31).toUInt32).toInt32)))])) t → Steps p.tables e below (s₁.setTop (mkF m 73 #[.val (.int y3), .val (.int (((31 : Int32) + (-8 : Int32)) + (-2 : Int32)))] [])) t := by
              intro t kt
              refine XS.iloadN X0.here hx rfl (hb hby d7_73) rfl ?_
              show Steps p.tables e below (s₁.setTop (mkF m 74 #[.val (.int y3), .val (.int (((31 : Int32) + (-8 : Int32)) + (-2 : Int32)))] [(.int (((31 : Int32) + (-8 : Int32)) + (-2 : Int32)))])) _
              refine XS.iloadN X0.here hx rfl (hb hby d7_74) rfl ?_
              show Steps p.tables e below (s₁.setTop (mkF m 75 #[.val (.int y3), .val (.int (((31 : Int32) + (-8 : Int32)) + (-2 : Int32)))] [(.int y3), (.int (((31 : Int32) + (-8 : Int32)) + (-2 : Int32)))])) _
              refine XS.iconst X0.here hx rfl (hb hby d7_75) ?_
              show Steps p.tables e below (s₁.setTop (mkF m 76 #[.val (.int y3), .val (.int (((31 : Int32) + (-8 : Int32)) + (-2 : Int32)))] [(.int (1 : Int32)), (.int y3), (.int (((31 : Int32) + (-8 : Int32)) + (-2 : Int32)))])) _
              refine XS.iushr X0.here hx rfl (hb hby d7_76) rfl ?_
              show Steps p.tables e below (s₁.setTop (mkF m 77 #[.val (.int y3), .val (.int (((31 : Int32) + (-8 : Int32)) + (-2 : Int32)))] [(.int ((y3.toUInt32 >>> ((1 : Int32) &&& 31).toUInt32).toInt32)), (.int (((31 : Int32) + (-8 : Int32)) + (-2 : Int32)))])) _
              refine XS.isub X0.here hx rfl (hb hby d7_77) rfl ?_
              exact kt
            obtain ⟨fs, hr, hrun, hended, hW, hsame⟩ := X0.leave (v := some (.int ((((31 : Int32) + (-8 : Int32)) + (-2 : Int32)) - ((y3.toUInt32 >>> ((1 : Int32) &&& 31).toUInt32).toInt32)))) (fun h => by rw [Bd.returns] at h; cases h)
            refine ⟨_, _, pre0 _ ?_, hrun, hended, _, _, rfl, ?_, ⟨_, rfl⟩, hW, hsame.mono (by decide) (by decide)⟩
            · refine sg1 _ ?_
              refine sg2 _ ?_
              refine sg3 _ ?_
              refine sg4 _ ?_
              refine sg5 _ ?_
              refine sg6 _ ?_
              refine sg7 _ ?_
              refine sg8 _ ?_
              exact retI X0 hx Bd.returns (hb hby d7_78) hr
            · show Q7 Z x1 h0 n0 _ s₁.heap _
              rw [e0]; exact ⟨⟨_, rfl, by omega, by omega, fun _ => by omega⟩, N0, rfl⟩
        · have k2 : ¬ y1.toInt < (16 : Int32).toInt := fun q => c2 (Int32.lt_iff_toInt_lt.mpr q)
          have l2 : (16 : Int32).toInt = 16 := by decide
          have sg6 : ∀ t, Steps p.tables e below (s₁.setTop (mkF m 61 #[.val (.int ((y1.toUInt32 >>> ((4 : Int32) &&& 31).toUInt32).toInt32)), .val (.int (((31 : Int32) + (-8 : Int32)) + (-4 : Int32)))] [])) t → Steps p.tables e below (s₁.setTop (mkF m 48 #[.val (.int y1), .val (.int ((31 : Int32) + (-8 : Int32)))] [])) t := by
            intro t kt
            refine XS.iloadN X0.here hx rfl (hb hby d7_48) rfl ?_
            show Steps p.tables e below (s₁.setTop (mkF m 49 #[.val (.int y1), .val (.int ((31 : Int32) + (-8 : Int32)))] [(.int y1)])) _
            refine XS.bipush X0.here hx rfl (hb hby d7_49) ?_
            show Steps p.tables e below (s₁.setTop (mkF m 51 #[.val (.int y1), .val (.int ((31 : Int32) + (-8 : Int32)))] [(.int (16 : Int32)), (.int y1)])) _
            refine XS.icmpNo X0.here hx rfl (hb hby d7_51) rfl (flt (c2 : ¬ (y1 < (16 : Int32)))).1 ?_
            show Steps p.tables e below (s₁.setTop (mkF m 54 #[.val (.int y1), .val (.int ((31 : Int32) + (-8 : Int32)))] [])) _
            refine XS.iinc X0.here hx rfl (hb hby d7_54) rfl (l' := #[.val (.int y1), .val (.int (((31 : Int32) + (-8 : Int32)) + (-4 : Int32)))]) rfl ?_
            show Steps p.tables e below (s₁.setTop (mkF m 57 #[.val (.int y1), .val (.int (((31 : Int32) + (-8 : Int32)) + (-4 : Int32)))] [])) _
            refine XS.iloadN X0.here hx rfl (hb hby d7_57) rfl ?_
            show Steps p.tables e below (s₁.setTop (mkF m 58 #[.val (.int y1), .val (.int (((31 : Int32) + (-8 : Int32)) + (-4 : Int32)))] [(.int y1)])) _
            refine XS.iconst X0.here hx rfl (hb hby d7_58) ?_
            show Steps p.tables e below (s₁.setTop (mkF m 59 #[.val (.int y1), .val (.int (((31 : Int32) + (-8 : Int32)) + (-4 : Int32)))] [(.int (4 : Int32)), (.int y1)])) _
            refine XS.iushr X0.here hx rfl (hb hby d7_59) rfl ?_
            show Steps p.tables e below (s₁.setTop (mkF m 60 #[.val (.int y1), .val (.int (((31 : Int32) + (-8 : Int32)) + (-4 : Int32)))] [(.int ((y1.toUInt32 >>> ((4 : Int32) &&& 31).toUInt32).toInt32))])) _
            refine XS.istoreN X0.here hx rfl (hb hby d7_60) rfl (l' := #[.val (.int ((y1.toUInt32 >>> ((4 : Int32) &&& 31).toUInt32).toInt32)), .val (.int (((31 : Int32) + (-8 : Int32)) + (-4 : Int32)))]) rfl ?_
            exact kt
          have s2 := c_iushr y1 4 4 (by decide) (by decide)
          have t2 : ((2 ^ 4 : Nat) : Int) = 16 := by decide
          rw [t2] at s2
          obtain ⟨y2, hy2⟩ : ∃ z, z = ((y1.toUInt32 >>> ((4 : Int32) &&& 31).toUInt32).toInt32) := ⟨_, rfl⟩
          rw [← hy2] at s2 sg6
          by_cases c3 : y2 < (4 : Int32)
          · have k3 := Int32.lt_iff_toInt_lt.mp c3
            have l3 : (4 : Int32).toInt = 4 := by decide
            have sg7 : ∀ t, Steps p.tables e below (s₁.setTop (mkF m 73 #[.val (.int y2), .val (.int (((31 : Int32) + (-8 : Int32)) + (-4 : Int32)))] [])) t → Steps p.tables e below (s₁.setTop (mkF m 61 #[.val (.int y2), .val (.int (((31 : Int32) + (-8 : Int32)) + (-4 : Int32)))] [])) t := by
              intro t kt
              refine XS.iloadN X0.here hx rfl (hb hby d7_61) rfl ?_
              show Steps p.tables e below (s₁.setTop (mkF m 62 #[.val (.int y2), .val (.int (((31 : Int32) + (-8 : Int32)) + (-4 : Int32)))] [(.int y2)])) _
              refine XS.iconst X0.here hx rfl (hb hby d7_62) ?_
              show Steps p.tables e below (s₁.setTop (mkF m 63 #[.val (.int y2), .val (.int (((31 : Int32) + (-8 : Int32)) + (-4 : Int32)))] [(.int (4 : Int32)), (.int y2)])) _
              refine XS.icmpYes X0.here hx rfl (pc0 := 63) (pc' := 73) rfl (hb hby d7_63) rfl (tlt (c3 : y2 < (4 : Int32))).1 (by decide) (by decide) ?_
              exact kt
            have own_fin : 1 ≤ (((((31 : Int32) + (-8 : Int32)) + (-4 : Int32)) - ((y2.toUInt32 >>> ((1 : Int32) &&& 31).toUInt32).toInt32))).toInt ∧ (((((31 : Int32) + (-8 : Int32)) + (-4 : Int32)) - ((y2.toUInt32 >>> ((1 : Int32) &&& 31).toUInt32).toInt32))).toInt ≤ 31 := by
              have q := c_iushr y2 1 1 (by decide) (by decide)
              have e2 : ((2 ^ 1 : Nat) : Int) = 2 := by decide
              rw [e2] at q
              have q2 := c_isub (((31 : Int32) + (-8 : Int32)) + (-4 : Int32)) ((y2.toUInt32 >>> ((1 : Int32) &&& 31).toUInt32).toInt32)
              have q3 := rng32 (((((31 : Int32) + (-8 : Int32)) + (-4 : Int32)) - ((y2.toUInt32 >>> ((1 : Int32) &&& 31).toUInt32).toInt32)))
              have en : ((((31 : Int32) + (-8 : Int32)) + (-4 : Int32))).toInt = 19 := by decide
              rw [q, en] at q2
              omega
            have sg8 : ∀ t, Steps p.tables e below (s₁.setTop (mkF m 78 #[.val (.int y2), .val (.int (((31 : Int32) + (-8 : Int32)) + (-4 : Int32)))] [(.int ((((31 : Int32) + (-8 : Int32)) + (-4 : Int32)) - ((y2.toUInt32 >>> ((1 : Int32) &&& 31).toUInt32).toInt32)))])) t → Steps p.tables e below (s₁.setTop (mkF m 73 #[.val (.int y2), .val (.int (((31 : Int32) + (-8 : Int32)) + (-4 : Int32)))] [])) t := by
              intro t kt
              refine XS.iloadN X0.here hx rfl (hb hby d7_73) rfl ?_
              show Steps p.tables e below (s₁.setTop (mkF m 74 #[.val (.int y2), .val (.int (((31 : Int32) + (-8 : Int32)) + (-4 : Int32)))] [(.int (((31 : Int32) + (-8 : Int32)) + (-4 : Int32)))])) _
              refine XS.iloadN X0.here hx rfl (hb hby d7_74) rfl ?_
              show Steps p.tables e below (s₁.setTop (mkF m 75 #[.val (.int y2), .val (.int (((31 : Int32) + (-8 : Int32)) + (-4 : Int32)))] [(.int y2), (.int (((31 : Int32) + (-8 : Int32)) + (-4 : Int32)))])) _
              refine XS.iconst X0.here hx rfl (hb hby d7_75) ?_
              show Steps p.tables e below (s₁.setTop (mkF m 76 #[.val (.int y2), .val (.int (((31 : Int32) + (-8 : Int32)) + (-4 : Int32)))] [(.int (1 : Int32)), (.int y2), (.int (((31 : Int32) + (-8 : Int32)) + (-4 : Int32)))])) _
              refine XS.iushr X0.here hx rfl (hb hby d7_76) rfl ?_
              show Steps p.tables e below (s₁.setTop (mkF m 77 #[.val (.int y2), .val (.int (((31 : Int32) + (-8 : Int32)) + (-4 : Int32)))] [(.int ((y2.toUInt32 >>> ((1 : Int32) &&& 31).toUInt32).toInt32)), (.int (((31 : Int32) + (-8 : Int32)) + (-4 : Int32)))])) _
              refine XS.isub X0.here hx rfl (hb hby d7_77) rfl ?_
              exact kt
            obtain ⟨fs, hr, hrun, hended, hW, hsame⟩ := X0.leave (v := some (.int ((((31 : Int32) + (-8 : Int32)) + (-4 : Int32)) - ((y2.toUInt32 >>> ((1 : Int32) &&& 31).toUInt32).toInt32)))) (fun h => by rw [Bd.returns] at h; cases h)
            refine ⟨_, _, pre0 _ ?_, hrun, hended, _, _, rfl, ?_, ⟨_, rfl⟩, hW, hsame.mono (by decide) (by decide)⟩
            · refine sg1 _ ?_
              refine sg2 _ ?_
              refine sg3 _ ?_
              refine sg4 _ ?_
              refine sg5 _ ?_
              refine sg6 _ ?_
              refine sg7 _ ?_
              refine sg8 _ ?_
              exact retI X0 hx Bd.returns (hb hby d7_78) hr
            · show Q7 Z x1 h0 n0 _ s₁.heap _
              rw [e0]; exact ⟨⟨_, rfl, by omega, by omega, fun _ => by omega⟩, N0, rfl⟩
          · have k3 : ¬ y2.toInt < (4 : Int32).toInt := fun q => c3 (Int32.lt_iff_toInt_lt.mpr q)
            have l3 : (4 : Int32).toInt = 4 := by decide
            have sg7 : ∀ t, Steps p.tables e below (s₁.setTop (mkF m 73 #[.val (.int ((y2.toUInt32 >>> ((2 : Int32) &&& 31).toUInt32).toInt32)), .val (.int ((((31 : Int32) + (-8 : Int32)) + (-4 : Int32)) + (-2 : Int32)))] [])) t → Steps p.tables e below (s₁.setTop (mkF m 61 #[.val (.int y2), .val (.int (((31 : Int32) + (-8 : Int32)) + (-4 : Int32)))] [])) t := by
              intro t kt
              refine XS.iloadN X0.here hx rfl (hb hby d7_61) rfl ?_
              show Steps p.tables e below (s₁.setTop (mkF m 62 #[.val (.int y2), .val (.int (((31 : Int32) + (-8 : Int32)) + (-4 : Int32)))] [(.int y2)])) _
              refine XS.iconst X0.here hx rfl (hb hby d7_62) ?_
              show Steps p.tables e below (s₁.setTop (mkF m 63 #[.val (.int y2), .val (.int (((31 : Int32) + (-8 : Int32)) + (-4 : Int32)))] [(.int (4 : Int32)), (.int y2)])) _
              refine XS.icmpNo X0.here hx rfl (hb hby d7_63) rfl (flt (c3 : ¬ (y2 < (4 : Int32)))).1 ?_
              show Steps p.tables e below (s₁.setTop (mkF m 66 #[.val (.int y2), .val (.int (((31 : Int32) + (-8 : Int32)) + (-4 : Int32)))] [])) _
              refine XS.iinc X0.here hx rfl (hb hby d7_66) rfl (l' := #[.val (.int y2), .val (.int ((((31 : Int32) + (-8 : Int32)) + (-4 : Int32)) + (-2 : Int32)))]) rfl ?_
              show Steps p.tables e below (s₁.setTop (mkF m 69 #[.val (.int y2), .val (.int ((((31 : Int32) + (-8 : Int32)) + (-4 : Int32)) + (-2 : Int32)))] [])) _
              refine XS.iloadN X0.here hx rfl (hb hby d7_69) rfl ?_
              show Steps p.tables e below (s₁.setTop (mkF m 70 #[.val (.int y2), .val (.int ((((31 : Int32) + (-8 : Int32)) + (-4 : Int32)) + (-2 : Int32)))] [(.int y2)])) _
              refine XS.iconst X0.here hx rfl (hb hby d7_70) ?_
              show Steps p.tables e below (s₁.setTop (mkF m 71 #[.val (.int y2), .val (.int ((((31 : Int32) + (-8 : Int32)) + (-4 : Int32)) + (-2 : Int32)))] [(.int (2 : Int32)), (.int y2)])) _
              refine XS.iushr X0.here hx rfl (hb hby d7_71) rfl ?_
              show Steps p.tables e below (s₁.setTop (mkF m 72 #[.val (.int y2), .val (.int ((((31 : Int32) + (-8 : Int32)) + (-4 : Int32)) + (-2 : Int32)))] [(.int ((y2.toUInt32 >>> ((2 : Int32) &&& 31).toUInt32).toInt32))])) _
              refine XS.istoreN X0.here hx rfl (hb hby d7_72) rfl (l' := #[.val (.int ((y2.toUInt32 >>> ((2 : Int32) &&& 31).toUInt32).toInt32)), .val (.int ((((31 : Int32) + (-8 : Int32)) + (-4 : Int32)) + (-2 : Int32)))]) rfl ?_
              exact kt
            have s3 := c_iushr y2 2 2 (by decide) (by decide)
            have t3 : ((2 ^ 2 : Nat) : Int) = 4 := by decide
            rw [t3] at s3
            obtain ⟨y3, hy3⟩ : ∃ z, z = ((y2.toUInt32 >>> ((2 : Int32) &&& 31).toUInt32).toInt32) := ⟨_, rfl⟩
            rw [← hy3] at s3 sg7
            have own_fin : 1 ≤ ((((((31 : Int32) + (-8 : Int32)) + (-4 : Int32)) + (-2 : Int32)) - ((y3.toUInt32 >>> ((1 : Int32) &&& 31).toUInt32).toInt32))).toInt ∧ ((((((31 : Int32) + (-8 : Int32)) + (-4 : Int32)) + (-2 : Int32)) - ((y3.toUInt32 >>> ((1 : Int32) &&& 31).toUInt32).toInt32))).toInt ≤ 31 := by
              have q := c_iushr y3 1 1 (by decide) (by decide)
              have e2 : ((2 ^ 1 : Nat) : Int) = 2 := by decide
              rw [e2] at q
              have q2 := c_isub ((((31 : Int32) + (-8 : Int32)) + (-4 : Int32)) + (-2 : Int32)) ((y3.toUInt32 >>> ((1 : Int32) &&& 31).toUInt32).toInt32)
              have q3 := rng32 ((((((31 : Int32) + (-8 : Int32)) + (-4 : Int32)) + (-2 : Int32)) - ((y3.toUInt32 >>> ((1 : Int32) &&& 31).toUInt32).toInt32)))
              have en : (((((31 : Int32) + (-8 : Int32)) + (-4 : Int32)) + (-2 : Int32))).toInt = 17 := by decide
              rw [q, en] at q2
              omega
            have sg8 : ∀ t, Steps p.tables e below (s₁.setTop (mkF m 78 #[.val (.int y3), .val (.int ((((31 : Int32) + (-8 : Int32)) + (-4 : Int32)) + (-2 : Int32)))] [(.int (((((31 : Int32) + (-8 : Int32)) + (-4 : Int32)) + (-2 : Int32)) - ((y3.toUInt32 >>> ((1 : Int32) &&& 31).toUInt32).toInt32)))])) t → Steps p.tables e below (s₁.setTop (mkF m 73 #[.val (.int y3), .val (.int ((((31 : Int32) + (-8 : Int32)) + (-4 : Int32)) + (-2 : Int32)))] [])) t := by
              intro t kt
              refine XS.iloadN X0.here hx rfl (hb hby d7_73) rfl ?_
              show Steps p.tables e below (s₁.setTop (mkF m 74 #[.val (.int y3), .val (.int ((((31 : Int32) + (-8 : Int32)) + (-4 : Int32)) + (-2 : Int32)))] [(.int ((((31 : Int32) + (-8 : Int32)) + (-4 : Int32)) + (-2 : Int32)))])) _
              refine XS.iloadN X0.here hx rfl (hb hby d7_74) rfl ?_
              show Steps p.tables e below (s₁.setTop (mkF m 75 #[.val (.int y3), .val (.int ((((31 : Int32) + (-8 : Int32)) + (-4 : Int32)) + (-2 : Int32)))] [(.int y3), (.int ((((31 : Int32) + (-8 : Int32)) + (-4 : Int32)) + (-2 : Int32)))])) _
              refine XS.iconst X0.here hx rfl (hb hby d7_75) ?_
              show Steps p.tables e below (s₁.setTop (mkF m 76 #[.val (.int y3), .val (.int ((((31 : Int32) + (-8 : Int32)) + (-4 : Int32)) + (-2 : Int32)))] [(.int (1 : Int32)), (.int y3), (.int ((((31 : Int32) + (-8 : Int32)) + (-4 : Int32)) + (-2 : Int32)))])) _
              refine XS.iushr X0.here hx rfl (hb hby d7_76) rfl ?_
              show Steps p.tables e below (s₁.setTop (mkF m 77 #[.val (.int y3), .val (.int ((((31 : Int32) + (-8 : Int32)) + (-4 : Int32)) + (-2 : Int32)))] [(.int ((y3.toUInt32 >>> ((1 : Int32) &&& 31).toUInt32).toInt32)), (.int ((((31 : Int32) + (-8 : Int32)) + (-4 : Int32)) + (-2 : Int32)))])) _
              refine XS.isub X0.here hx rfl (hb hby d7_77) rfl ?_
              exact kt
            obtain ⟨fs, hr, hrun, hended, hW, hsame⟩ := X0.leave (v := some (.int (((((31 : Int32) + (-8 : Int32)) + (-4 : Int32)) + (-2 : Int32)) - ((y3.toUInt32 >>> ((1 : Int32) &&& 31).toUInt32).toInt32)))) (fun h => by rw [Bd.returns] at h; cases h)
            refine ⟨_, _, pre0 _ ?_, hrun, hended, _, _, rfl, ?_, ⟨_, rfl⟩, hW, hsame.mono (by decide) (by decide)⟩
            · refine sg1 _ ?_
              refine sg2 _ ?_
              refine sg3 _ ?_
              refine sg4 _ ?_
              refine sg5 _ ?_
              refine sg6 _ ?_
              refine sg7 _ ?_
              refine sg8 _ ?_
              exact retI X0 hx Bd.returns (hb hby d7_78) hr
            · show Q7 Z x1 h0 n0 _ s₁.heap _
              rw [e0]; exact ⟨⟨_, rfl, by omega, by omega, fun _ => by omega⟩, N0, rfl⟩
    · have k0 : ¬ x1.toInt < (65536 : Int32).toInt := fun q => c0 (Int32.lt_iff_toInt_lt.mpr q)
      have l0 : (65536 : Int32).toInt = 65536 := by decide
      have sg4 : ∀ t, Steps p.tables e below (s₁.setTop (mkF m 33 #[.val (.int ((x1.toUInt32 >>> ((16 : Int32) &&& 31).toUInt32).toInt32)), .val (.int ((31 : Int32) + (-16 : Int32)))] [])) t → Steps p.tables e below (s₁.setTop (mkF m 22 #[.val (.int x1), .val (.int (31 : Int32))] [(.int (65536 : Int32)), (.int x1)])) t := by
        intro t kt
        refine XS.icmpNo X0.here hx rfl (hb hby d7_22) rfl (flt (c0 : ¬ (x1 < (65536 : Int32)))).1 ?_
        show Steps p.tables e below (s₁.setTop (mkF m 25 #[.val (.int x1), .val (.int (31 : Int32))] [])) _
        refine XS.iinc X0.here hx rfl (hb hby d7_25) rfl (l' := #[.val (.int x1), .val (.int ((31 : Int32) + (-16 : Int32)))]) rfl ?_
        show Steps p.tables e below (s₁.setTop (mkF m 28 #[.val (.int x1), .val (.int ((31 : Int32) + (-16 : Int32)))] [])) _
        refine XS.iloadN X0.here hx rfl (hb hby d7_28) rfl ?_
        show Steps p.tables e below (s₁.setTop (mkF m 29 #[.val (.int x1), .val (.int ((31 : Int32) + (-16 : Int32)))] [(.int x1)])) _
        refine XS.bipush X0.here hx rfl (hb hby d7_29) ?_
        show Steps p.tables e below (s₁.setTop (mkF m 31 #[.val (.int x1), .val (.int ((31 : Int32) + (-16 : Int32)))] [(.int (16 : Int32)), (.int x1)])) _
        refine XS.iushr X0.here hx rfl (hb hby d7_31) rfl ?_
        show Steps p.tables e below (s₁.setTop (mkF m 32 #[.val (.int x1), .val (.int ((31 : Int32) + (-16 : Int32)))] [(.int ((x1.toUInt32 >>> ((16 : Int32) &&& 31).toUInt32).toInt32))])) _
        refine XS.istoreN X0.here hx rfl (hb hby d7_32) rfl (l' := #[.val (.int ((x1.toUInt32 >>> ((16 : Int32) &&& 31).toUInt32).toInt32)), .val (.int ((31 : Int32) + (-16 : Int32)))]) rfl ?_
        exact kt
      have s0 := c_iushr x1 16 16 (by decide) (by decide)
      have t0 : ((2 ^ 16 : Nat) : Int) = 65536 := by decide
      rw [t0] at s0
      obtain ⟨y0, hy0⟩ : ∃ z, z = ((x1.toUInt32 >>> ((16 : Int32) &&& 31).toUInt32).toInt32) := ⟨_, rfl⟩
      rw [← hy0] at s0 sg4
      by_cases c1 : y0 < (256 : Int32)
      · have k1 := Int32.lt_iff_toInt_lt.mp c1
        have l1 : (256 : Int32).toInt = 256 := by decide
        have sg5 : ∀ t, Steps p.tables e below (s₁.setTop (mkF m 48 #[.val (.int y0), .val (.int ((31 : Int32) + (-16 : Int32)))] [])) t → Steps p.tables e below (s₁.setTop (mkF m 33 #[.val (.int y0), .val (.int ((31 : Int32) + (-16 : Int32)))] [])) t := by
          intro t kt
          refine XS.iloadN X0.here hx rfl (hb hby d7_33) rfl ?_
          show Steps p.tables e below (s₁.setTop (mkF m 34 #[.val (.int y0), .val (.int ((31 : Int32) + (-16 : Int32)))] [(.int y0)])) _
          refine XS.sipush X0.here hx rfl (hb hby d7_34) ?_
          show Steps p.tables e below (s₁.setTop (mkF m 37 #[.val (.int y0), .val (.int ((31 : Int32) + (-16 : Int32)))] [(.int (256 : Int32)), (.int y0)])) _
          refine XS.icmpYes X0.here hx rfl (pc0 := 37) (pc' := 48) rfl (hb hby d7_37) rfl (tlt (c1 : y0 < (256 : Int32))).1 (by decide) (by decide) ?_
          exact kt
        by_cases c2 : y0 < (16 : Int32)
        · have k2 := Int32.lt_iff_toInt_lt.mp c2
          have l2 : (16 : Int32).toInt = 16 := by decide
          have sg6 : ∀ t, Steps p.tables e below (s₁.setTop (mkF m 61 #[.val (.int y0), .val (.int ((31 : Int32) + (-16 : Int32)))] [])) t → Steps p.tables e below (s₁.setTop (mkF m 48 #[.val (.int y0), .val (.int ((31 : Int32) + (-16 : Int32)))] [])) t := by
            intro t kt
            refine XS.iloadN X0.here hx rfl (hb hby d7_48) rfl ?_
            show Steps p.tables e below (s₁.setTop (mkF m 49 #[.val (.int y0), .val (.int ((31 : Int32) + (-16 : Int32)))] [(.int y0)])) _
            refine XS.bipush X0.here hx rfl (hb hby d7_49) ?_
            show Steps p.tables e below (s₁.setTop (mkF m 51 #[.val (.int y0), .val (.int ((31 : Int32) + (-16 : Int32)))] [(.int (16 : Int32)), (.int y0)])) _
            refine XS.icmpYes X0.here hx rfl (pc0 := 51) (pc' := 61) rfl (hb hby d7_51) rfl (tlt (c2 : y0 < (16 : Int32))).1 (by decide) (by decide) ?_
            exact kt
          by_cases c3 : y0 < (4 : Int32)
          · have k3 := Int32.lt_iff_toInt_lt.mp c3
            have l3 : (4 : Int32).toInt = 4 := by decide
            have sg7 : ∀ t, Steps p.tables e below (s₁.setTop (mkF m 73 #[.val (.int y0), .val (.int ((31 : Int32) + (-16 : Int32)))] [])) t → Steps p.tables e below (s₁.setTop (mkF m 61 #[.val (.int y0), .val (.int ((31 : Int32) + (-16 : Int32)))] [])) t := by
              intro t kt
              refine XS.iloadN X0.here hx rfl (hb hby d7_61) rfl ?_
              show Steps p.tables e below (s₁.setTop (mkF m 62 #[.val (.int y0), .val (.int ((31 : Int32) + (-16 : Int32)))] [(.int y0)])) _
              refine XS.iconst X0.here hx rfl (hb hby d7_62) ?_
              show Steps p.tables e below (s₁.setTop (mkF m 63 #[.val (.int y0), .val (.int ((31 : Int32) + (-16 : Int32)))] [(.int (4 : Int32)), (.int y0)])) _
              refine XS.icmpYes X0.here hx rfl (pc0 := 63) (pc' := 73) rfl (hb hby d7_63) rfl (tlt (c3 : y0 < (4 : Int32))).1 (by decide) (by decide) ?_
              exact kt
            have own_fin : 1 ≤ ((((31 : Int32) + (-16 : Int32)) - ((y0.toUInt32 >>> ((1 : Int32) &&& 31).toUInt32).toInt32))).toInt ∧ ((((31 : Int32) + (-16 : Int32)) - ((y0.toUInt32 >>> ((1 : Int32) &&& 31).toUInt32).toInt32))).toInt ≤ 31 := by
              have q := c_iushr y0 1 1 (by decide) (by decide)
              have e2 : ((2 ^ 1 : Nat) : Int) = 2 := by decide
              rw [e2] at q
              have q2 := c_isub ((31 : Int32) + (-16 : Int32)) ((y0.toUInt32 >>> ((1 : Int32) &&& 31).toUInt32).toInt32)
              have q3 := rng32 ((((31 : Int32) + (-16 : Int32)) - ((y0.toUInt32 >>> ((1 : Int32) &&& 31).toUInt32).toInt32)))
              have en : (((31 : Int32) + (-16 : Int32))).toInt = 15 := by decide
              rw [q, en] at q2
              omega
            have sg8 : ∀ t, Steps p.tables e below (s₁.setTop (mkF m 78 #[.val (.int y0), .val (.int ((31 : Int32) + (-16 : Int32)))] [(.int (((31 : Int32) + (-16 : Int32)) - ((y0.toUInt32 >>> ((1 : Int32) &&& 31).toUInt32).toInt32)))])) t → Steps p.tables e below (s₁.setTop (mkF m 73 #[.val (.int y0), .val (.int ((31 : Int32) + (-16 : Int32)))] [])) t := by
              intro t kt
              refine XS.iloadN X0.here hx rfl (hb hby d7_73) rfl ?_
              show Steps p.tables e below (s₁.setTop (mkF m 74 #[.val (.int y0), .val (.int ((31 : Int32) + (-16 : Int32)))] [(.int ((31 : Int32) + (-16 : Int32)))])) _
              refine XS.iloadN X0.here hx rfl (hb hby d7_74) rfl ?_
              show Steps p.tables e below (s₁.setTop (mkF m 75 #[.val (.int y0), .val (.int ((31 : Int32) + (-16 : Int32)))] [(.int y0), (.int ((31 : Int32) + (-16 : Int32)))])) _
              refine XS.iconst X0.here hx rfl (hb hby d7_75) ?_
              show Steps p.tables e below (s₁.setTop (mkF m 76 #[.val (.int y0), .val (.int ((31 : Int32) + (-16 : Int32)))] [(.int (1 : Int32)), (.int y0), (.int ((31 : Int32) + (-16 : Int32)))])) _
              refine XS.iushr X0.here hx rfl (hb hby d7_76) rfl ?_
              show Steps p.tables e below (s₁.setTop (mkF m 77 #[.val (.int y0), .val (.int ((31 : Int32) + (-16 : Int32)))] [(.int ((y0.toUInt32 >>> ((1 : Int32) &&& 31).toUInt32).toInt32)), (.int ((31 : Int32) + (-16 : Int32)))])) _
              refine XS.isub X0.here hx rfl (hb hby d7_77) rfl ?_
              exact kt
            obtain ⟨fs, hr, hrun, hended, hW, hsame⟩ := X0.leave (v := some (.int (((31 : Int32) + (-16 : Int32)) - ((y0.toUInt32 >>> ((1 : Int32) &&& 31).toUInt32).toInt32)))) (fun h => by rw [Bd.returns] at h; cases h)
            refine ⟨_, _, pre0 _ ?_, hrun, hended, _, _, rfl, ?_, ⟨_, rfl⟩, hW, hsame.mono (by decide) (by decide)⟩
            · refine sg1 _ ?_
              refine sg2 _ ?_
              refine sg3 _ ?_
              refine sg4 _ ?_
              refine sg5 _ ?_
              refine sg6 _ ?_
              refine sg7 _ ?_
              refine sg8 _ ?_
              exact retI X0 hx Bd.returns (hb hby d7_78) hr
            · show Q7 Z x1 h0 n0 _ s₁.heap _
              rw [e0]; exact ⟨⟨_, rfl, by omega, by omega, fun _ => by omega⟩, N0, rfl⟩
          · have k3 : ¬ y0.toInt < (4 : Int32).toInt := fun q => c3 (Int32.lt_iff_toInt_lt.mpr q)
            have l3 : (4 : Int32).toInt = 4 := by decide
            have sg7 : ∀ t, Steps p.tables e below (s₁.setTop (mkF m 73 #[.val (.int ((y0.toUInt32 >>> ((2 : Int32) &&& 31).toUInt32).toInt32)), .val (.int (((31 : Int32) + (-16 : Int32)) + (-2 : Int32)))] [])) t → Steps p.tables e below (s₁.setTop (mkF m 61 #[.val (.int y0), .val (.int ((31 : Int32) + (-16 : Int32)))] [])) t := by
              intro t kt
              refine XS.iloadN X0.here hx rfl (hb hby d7_61) rfl ?_
              show Steps p.tables e below (s₁.setTop (mkF m 62 #[.val (.int y0), .val (.int ((31 : Int32) + (-16 : Int32)))] [(.int y0)])) _
              refine XS.iconst X0.here hx rfl (hb hby d7_62) ?_
              show Steps p.tables e below (s₁.setTop (mkF m 63 #[.val (.int y0), .val (.int ((31 : Int32) + (-16 : Int32)))] [(.int (4 : Int32)), (.int y0)])) _
              refine XS.icmpNo X0.here hx rfl (hb hby d7_63) rfl (flt (c3 : ¬ (y0 < (4 : Int32)))).1 ?_
              show Steps p.tables e below (s₁.setTop (mkF m 66 #[.val (.int y0), .val (.int ((31 : Int32) + (-16 : Int32)))] [])) _
              refine XS.iinc X0.here hx rfl (hb hby d7_66) rfl (l' := #[.val (.int y0), .val (.int (((31 : Int32) + (-16 : Int32)) + (-2 : Int32)))]) rfl ?_
              show Steps p.tables e below (s₁.setTop (mkF m 69 #[.val (.int y0), .val (.int (((31 : Int32) + (-16 : Int32)) + (-2 : Int32)))] [])) _
              refine XS.iloadN X0.here hx rfl (hb hby d7_69) rfl ?_
              show Steps p.tables e below (s₁.setTop (mkF m 70 #[.val (.int y0), .val (.int (((31 : Int32) + (-16 : Int32)) + (-2 : Int32)))] [(.int y0)])) _
              refine XS.iconst X0.here hx rfl (hb hby d7_70) ?_
              show Steps p.tables e below (s₁.setTop (mkF m 71 #[.val (.int y0), .val (.int (((31 : Int32) + (-16 : Int32)) + (-2 : Int32)))] [(.int (2 : Int32)), (.int y0)])) _
              refine XS.iushr X0.here hx rfl (hb hby d7_71) rfl ?_
              show Steps p.tables e below (s₁.setTop (mkF m 72 #[.val (.int y0), .val (.int (((31 : Int32) + (-16 : Int32)) + (-2 : Int32)))] [(.int ((y0.toUInt32 >>> ((2 : Int32) &&& 31).toUInt32).toInt32))])) _
              refine XS.istoreN X0.here hx rfl (hb hby d7_72) rfl (l' := #[.val (.int ((y0.toUInt32 >>> ((2 : Int32) &&& 31).toUInt32).toInt32)), .val (.int (((31 : Int32) + (-16 : Int32)) + (-2 : Int32)))]) rfl ?_
              exact kt
            have s3 := c_iushr y0 2 2 (by decide) (by decide)
            have t3 : ((2 ^ 2 : Nat) : Int) = 4 := by decide
            rw [t3] at s3
            obtain ⟨y3, hy3⟩ : ∃ z, z = ((y0.toUInt32 >>> ((2 : Int32) &&& 31).toUInt32).toInt32) := ⟨_, rfl⟩
            rw [← hy3] at s3 sg7
            have own_fin : 1 ≤ (((((31 : Int32) + (-16 : Int32)) + (-2 : Int32)) - ((y3.toUInt32 >>> ((1 : Int32) &&& 31).toUInt32).toInt32))).toInt ∧ (((((31 : Int32) + (-16 : Int32)) + (-2 : Int32)) - ((y3.toUInt32 >>> ((1 : Int32) &&& 31).toUInt32).toInt32))).toInt ≤ 31 := by
              have q := c_iushr y3 1 1 (by decide) (by decide)
              have e2 : ((2 ^ 1 : Nat) : Int) = 2 := by decide
              rw [e2] at q
              have q2 := c_isub (((31 : Int32) + (-16 : Int32)) + (-2 : Int32)) ((y3.toUInt32 >>> ((1 : Int32) &&& 31).toUInt32).toInt32)
              have q3 := rng32 (((((31 : Int32) + (-16 : Int32)) + (-2 : Int32)) - ((y3.toUInt32 >>> ((1 : Int32) &&& 31).toUInt32).toInt32)))
              have en : ((((31 : Int32) + (-16 : Int32)) + (-2 : Int32))).toInt = 13 := by decide
              rw [q, en] at q2
              omega
            have sg8 : ∀ t, Steps p.tables e below (s₁.setTop (mkF m 78 #[.val (.int y3), .val (.int (((31 : Int32) + (-16 : Int32)) + (-2 : Int32)))] [(.int ((((31 : Int32) + (-16 : Int32)) + (-2 : Int32)) - ((y3.toUInt32 >>> ((1 : Int32) &&& 31).toUInt32).toInt32)))])) t → Steps p.tables e below (s₁.setTop (mkF m 73 #[.val (.int y3), .val (.int (((31 : Int32) + (-16 : Int32)) + (-2 : Int32)))] [])) t := by
              intro t kt
              refine XS.iloadN X0.here hx rfl (hb hby d7_73) rfl ?_
              show Steps p.tables e below (s₁.setTop (mkF m 74 #[.val (.int y3), .val (.int (((31 : Int32) + (-16 : Int32)) + (-2 : Int32)))] [(.int (((31 : Int32) + (-16 : Int32)) + (-2 : Int32)))])) _
              refine XS.iloadN X0.here hx rfl (hb hby d7_74) rfl ?_
              show Steps p.tables e below (s₁.setTop (mkF m 75 #[.val (.int y3), .val (.int (((31 : Int32) + (-16 : Int32)) + (-2 : Int32)))] [(.int y3), (.int (((31 : Int32) + (-16 : Int32)) + (-2 : Int32)))])) _
              refine XS.iconst X0.here hx rfl (hb hby d7_75) ?_
              show Steps p.tables e below (s₁.setTop (mkF m 76 #[.val (.int y3), .val (.int (((31 : Int32) + (-16 : Int32)) + (-2 : Int32)))] [(.int (1 : Int32)), (.int y3), (.int (((31 : Int32) + (-16 : Int32)) + (-2 : Int32)))])) _
              refine XS.iushr X0.here hx rfl (hb hby d7_76) rfl ?_
              show Steps p.tables e below (s₁.setTop (mkF m 77 #[.val (.int y3), .val (.int (((31 : Int32) + (-16 : Int32)) + (-2 : Int32)))] [(.int ((y3.toUInt32 >>> ((1 : Int32) &&& 31).toUInt32).toInt32)), (.int (((31 : Int32) + (-16 : Int32)) + (-2 : Int32)))])) _
              refine XS.isub X0.here hx rfl (hb hby d7_77) rfl ?_
              exact kt
            obtain ⟨fs, hr, hrun, hended, hW, hsame⟩ := X0.leave (v := some (.int ((((31 : Int32) + (-16 : Int32)) + (-2 : Int32)) - ((y3.toUInt32 >>> ((1 : Int32) &&& 31).toUInt32).toInt32)))) (fun h => by rw [Bd.returns] at h; cases h)
            refine ⟨_, _, pre0 _ ?_, hrun, hended, _, _, rfl, ?_, ⟨_, rfl⟩, hW, hsame.mono (by decide) (by decide)⟩
            · refine sg1 _ ?_
              refine sg2 _ ?_
              refine sg3 _ ?_
              refine sg4 _ ?_
              refine sg5 _ ?_
              refine sg6 _ ?_
              refine sg7 _ ?_
              refine sg8 _ ?_
              exact retI X0 hx Bd.returns (hb hby d7_78) hr
            · show Q7 Z x1 h0 n0 _ s₁.heap _
              rw [e0]; exact ⟨⟨_, rfl, by omega, by omega, fun _ => by omega⟩, N0, rfl⟩
        · have k2 : ¬ y0.toInt < (16 : Int32).toInt := fun q => c2 (Int32.lt_iff_toInt_lt.mpr q)
          have l2 : (16 : Int32).toInt = 16 := by decide
          have sg6 : ∀ t, Steps p.tables e below (s₁.setTop (mkF m 61 #[.val (.int ((y0.toUInt32 >>> ((4 : Int32) &&& 31).toUInt32).toInt32)), .val (.int (((31 : Int32) + (-16 : Int32)) + (-4 : Int32)))] [])) t → Steps p.tables e below (s₁.setTop (mkF m 48 #[.val (.int y0), .val (.int ((31 : Int32) + (-16 : Int32)))] [])) t := by
            intro t kt
            refine XS.iloadN X0.here hx rfl (hb hby d7_48) rfl ?_
            show Steps p.tables e below (s₁.setTop (mkF m 49 #[.val (.int y0), .val (.int ((31 : Int32) + (-16 : Int32)))] [(.int y0)])) _
            refine XS.bipush X0.here hx rfl (hb hby d7_49) ?_
            show Steps p.tables e below (s₁.setTop (mkF m 51 #[.val (.int y0), .val (.int ((31 : Int32) + (-16 : Int32)))] [(.int (16 : Int32)), (.int y0)])) _
            refine XS.icmpNo X0.here hx rfl (hb hby d7_51) rfl (flt (c2 : ¬ (y0 < (16 : Int32)))).1 ?_
            show Steps p.tables e below (s₁.setTop (mkF m 54 #[.val (.int y0), .val (.int ((31 : Int32) + (-16 : Int32)))] [])) _
            refine XS.iinc X0.here hx rfl (hb hby d7_54) rfl (l' := #[.val (.int y0), .val (.int (((31 : Int32) + (-16 : Int32)) + (-4 : Int32)))]) rfl ?_
            show Steps p.tables e below (s₁.setTop (mkF m 57 #[.val (.int y0), .val (.int (((31 : Int32) + (-16 : Int32)) + (-4 : Int32)))] [])) _
            refine XS.iloadN X0.here hx rfl (hb hby d7_57) rfl ?_
            show Steps p.tables e below (s₁.setTop (mkF m 58 #[.val (.int y0), .val (.int (((31 : Int32) + (-16 : Int32)) + (-4 : Int32)))] [(.int y0)])) _
            refine XS.iconst X0.here hx rfl (hb hby d7_58) ?_
            show Steps p.tables e below (s₁.setTop (mkF m 59 #[.val (.int y0), .val (.int (((31 : Int32) + (-16 : Int32)) + (-4 : Int32)))] [(.int (4 : Int32)), (.int y0)])) _
            refine XS.iushr X0.here hx rfl (hb hby d7_59) rfl ?_
            show Steps p.tables e below (s₁.setTop (mkF m 60 #[.val (.int y0), .val (.int (((31 : Int32) + (-16 : Int32)) + (-4 : Int32)))] [(.int ((y0.toUInt32 >>> ((4 : Int32) &&& 31).toUInt32).toInt32))])) _
            refine XS.istoreN X0.here hx rfl (hb hby d7_60) rfl (l' := #[.val (.int ((y0.toUInt32 >>> ((4 : Int32) &&& 31).toUInt32).toInt32)), .val (.int (((31 : Int32) + (-16 : Int32)) + (-4 : Int32)))]) rfl ?_
            exact kt
          have s2 := c_iushr y0 4 4 (by decide) (by decide)
          have t2 : ((2 ^ 4 : Nat) : Int) = 16 := by decide
          rw [t2] at s2
          obtain ⟨y2, hy2⟩ : ∃ z, z = ((y0.toUInt32 >>> ((4 : Int32) &&& 31).toUInt32).toInt32) := ⟨_, rfl⟩
          rw [← hy2] at s2 sg6
          by_cases c3 : y2 < (4 : Int32)
          · have k3 := Int32.lt_iff_toInt_lt.mp c3
            have l3 : (4 : Int32).toInt = 4 := by decide
            have sg7 : ∀ t, Steps p.tables e below (s₁.setTop (mkF m 73 #[.val (.int y2), .val (.int (((31 : Int32) + (-16 : Int32)) + (-4 : Int32)))] [])) t → Steps p.tables e below (s₁.setTop (mkF m 61 #[.val (.int y2), .val (.int (((31 : Int32) + (-16 : Int32)) + (-4 : Int32)))] [])) t := by
              intro t kt
              refine XS.iloadN X0.here hx rfl (hb hby d7_61) rfl ?_
              show Steps p.tables e below (s₁.setTop (mkF m 62 #[.val (.int y2), .val (.int (((31 : Int32) + (-16 : Int32)) + (-4 : Int32)))] [(.int y2)])) _
              refine XS.iconst X0.here hx rfl (hb hby d7_62) ?_
              show Steps p.tables e below (s₁.setTop (mkF m 63 #[.val (.int y2), .val (.int (((31 : Int32) + (-16 : Int32)) + (-4 : Int32)))] [(.int (4 : Int32)), (.int y2)])) _
              refine XS.icmpYes X0.here hx rfl (pc0 := 63) (pc' := 73) rfl (hb hby d7_63) rfl (tlt (c3 : y2 < (4 : Int32))).1 (by decide) (by decide) ?_
              exact kt
            have own_fin : 1 ≤ (((((31 : Int32) + (-16 : Int32)) + (-4 : Int32)) - ((y2.toUInt32 >>> ((1 : Int32) &&& 31).toUInt32).toInt32))).toInt ∧ (((((31 : Int32) + (-16 : Int32)) + (-4 : Int32)) - ((y2.toUInt32 >>> ((1 : Int32) &&& 31).toUInt32).toInt32))).toInt ≤ 31 := by
              have q := c_iushr y2 1 1 (by decide) (by decide)
              have e2 : ((2 ^ 1 : Nat) : Int) = 2 := by decide
              rw [e2] at q
              have q2 := c_isub (((31 : Int32) + (-16 : Int32)) + (-4 : Int32)) ((y2.toUInt32 >>> ((1 : Int32) &&& 31).toUInt32).toInt32)
              have q3 := rng32 (((((31 : Int32) + (-16 : Int32)) + (-4 : Int32)) - ((y2.toUInt32 >>> ((1 : Int32) &&& 31).toUInt32).toInt32)))
              have en : ((((31 : Int32) + (-16 : Int32)) + (-4 : Int32))).toInt = 11 := by decide
              rw [q, en] at q2
              omega
            have sg8 : ∀ t, Steps p.tables e below (s₁.setTop (mkF m 78 #[.val (.int y2), .val (.int (((31 : Int32) + (-16 : Int32)) + (-4 : Int32)))] [(.int ((((31 : Int32) + (-16 : Int32)) + (-4 : Int32)) - ((y2.toUInt32 >>> ((1 : Int32) &&& 31).toUInt32).toInt32)))])) t → Steps p.tables e below (s₁.setTop (mkF m 73 #[.val (.int y2), .val (.int (((31 : Int32) + (-16 : Int32)) + (-4 : Int32)))] [])) t := by
              intro t kt
              refine XS.iloadN X0.here hx rfl (hb hby d7_73) rfl ?_
              show Steps p.tables e below (s₁.setTop (mkF m 74 #[.val (.int y2), .val (.int (((31 : Int32) + (-16 : Int32)) + (-4 : Int32)))] [(.int (((31 : Int32) + (-16 : Int32)) + (-4 : Int32)))])) _
              refine XS.iloadN X0.here hx rfl (hb hby d7_74) rfl ?_
              show Steps p.tables e below (s₁.setTop (mkF m 75 #[.val (.int y2), .val (.int (((31 : Int32) + (-16 : Int32)) + (-4 : Int32)))] [(.int y2), (.int (((31 : Int32) + (-16 : Int32)) + (-4 : Int32)))])) _
              refine XS.iconst X0.here hx rfl (hb hby d7_75) ?_
              show Steps p.tables e below (s₁.setTop (mkF m 76 #[.val (.int y2), .val (.int (((31 : Int32) + (-16 : Int32)) + (-4 : Int32)))] [(.int (1 : Int32)), (.int y2), (.int (((31 : Int32) + (-16 : Int32)) + (-4 : Int32)))])) _
              refine XS.iushr X0.here hx rfl (hb hby d7_76) rfl ?_
              show Steps p.tables e below (s₁.setTop (mkF m 77 #[.val (.int y2), .val (.int (((31 : Int32) + (-16 : Int32)) + (-4 : Int32)))] [(.int ((y2.toUInt32 >>> ((1 : Int32) &&& 31).toUInt32).toInt32)), (.int (((31 : Int32) + (-16 : Int32)) + (-4 : Int32)))])) _
              refine XS.isub X0.here hx rfl (hb hby d7_77) rfl ?_
              exact kt
            obtain ⟨fs, hr, hrun, hended, hW, hsame⟩ := X0.leave (v := some (.int ((((31 : Int32) + (-16 : Int32)) + (-4 : Int32)) - ((y2.toUInt32 >>> ((1 : Int32) &&& 31).toUInt32).toInt32)))) (fun h => by rw [Bd.returns] at h; cases h)
            refine ⟨_, _, pre0 _ ?_, hrun, hended, _, _, rfl, ?_, ⟨_, rfl⟩, hW, hsame.mono (by decide) (by decide)⟩
            · refine sg1 _ ?_
              refine sg2 _ ?_
              refine sg3 _ ?_
              refine sg4 _ ?_
              refine sg5 _ ?_
              refine sg6 _ ?_
              refine sg7 _ ?_
              refine sg8 _ ?_
              exact retI X0 hx Bd.returns (hb hby d7_78) hr
            · show Q7 Z x1 h0 n0 _ s₁.heap _
              rw [e0]; exact ⟨⟨_, rfl, by omega, by omega, fun _ => by omega⟩, N0, rfl⟩
          · have k3 : ¬ y2.toInt < (4 : Int32).toInt := fun q => c3 (Int32.lt_iff_toInt_lt.mpr q)
            have l3 : (4 : Int32).toInt = 4 := by decide
            have sg7 : ∀ t, Steps p.tables e below (s₁.setTop (mkF m 73 #[.val (.int ((y2.toUInt32 >>> ((2 : Int32) &&& 31).toUInt32).toInt32)), .val (.int ((((31 : Int32) + (-16 : Int32)) + (-4 : Int32)) + (-2 : Int32)))] [])) t → Steps p.tables e below (s₁.setTop (mkF m 61 #[.val (.int y2), .val (.int (((31 : Int32) + (-16 : Int32)) + (-4 : Int32)))] [])) t := by
              intro t kt
              refine XS.iloadN X0.here hx rfl (hb hby d7_61) rfl ?_
              show Steps p.tables e below (s₁.setTop (mkF m 62 #[.val (.int y2), .val (.int (((31 : Int32) + (-16 : Int32)) + (-4 : Int32)))] [(.int y2)])) _
              refine XS.iconst X0.here hx rfl (hb hby d7_62) ?_
              show Steps p.tables e below (s₁.setTop (mkF m 63 #[.val (.int y2), .val (.int (((31 : Int32) + (-16 : Int32)) + (-4 : Int32)))] [(.int (4 : Int32)), (.int y2)])) _
              refine XS.icmpNo X0.here hx rfl (hb hby d7_63) rfl (flt (c3 : ¬ (y2 < (4 : Int32)))).1 ?_
              show Steps p.tables e below (s₁.setTop (mkF m 66 #[.val (.int y2), .val (.int (((31 : Int32) + (-16 : Int32)) + (-4 : Int32)))] [])) _
              refine XS.iinc X0.here hx rfl (hb hby d7_66) rfl (l' := #[.val (.int y2), .val (.int ((((31 : Int32) + (-16 : Int32)) + (-4 : Int32)) + (-2 : Int32)))]) rfl ?_
              show Steps p.tables e below (s₁.setTop (mkF m 69 #[.val (.int y2), .val (.int ((((31 : Int32) + (-16 : Int32)) + (-4 : Int32)) + (-2 : Int32)))] [])) _
              refine XS.iloadN X0.here hx rfl (hb hby d7_69) rfl ?_
              show Steps p.tables e below (s₁.setTop (mkF m 70 #[.val (.int y2), .val (.int ((((31 : Int32) + (-16 : Int32)) + (-4 : Int32)) + (-2 : Int32)))] [(.int y2)])) _
              refine XS.iconst X0.here hx rfl (hb hby d7_70) ?_
              show Steps p.tables e below (s₁.setTop (mkF m 71 #[.val (.int y2), .val (.int ((((31 : Int32) + (-16 : Int32)) + (-4 : Int32)) + (-2 : Int32)))] [(.int (2 : Int32)), (.int y2)])) _
              refine XS.iushr X0.here hx rfl (hb hby d7_71) rfl ?_
              show Steps p.tables e below (s₁.setTop (mkF m 72 #[.val (.int y2), .val (.int ((((31 : Int32) + (-16 : Int32)) + (-4 : Int32)) + (-2 : Int32)))] [(.int ((y2.toUInt32 >>> ((2 : Int32) &&& 31).toUInt32).toInt32))])) _
              refine XS.istoreN X0.here hx rfl (hb hby d7_72) rfl (l' := #[.val (.int ((y2.toUInt32 >>> ((2 : Int32) &&& 31).toUInt32).toInt32)), .val (.int ((((31 : Int32) + (-16 : Int32)) + (-4 : Int32)) + (-2 : Int32)))]) rfl ?_
              exact kt
            have s3 := c_iushr y2 2 2 (by decide) (by decide)
            have t3 : ((2 ^ 2 : Nat) : Int) = 4 := by decide
            rw [t3] at s3
            obtain ⟨y3, hy3⟩ : ∃ z, z = ((y2.toUInt32 >>> ((2 : Int32) &&& 31).toUInt32).toInt32) := ⟨_, rfl⟩
            rw [← hy3] at s3 sg7
            have own_fin : 1 ≤ ((((((31 : Int32) + (-16 : Int32)) + (-4 : Int32)) + (-2 : Int32)) - ((y3.toUInt32 >>> ((1 : Int32) &&& 31).toUInt32).toInt32))).toInt ∧ ((((((31 : Int32) + (-16 : Int32)) + (-4 : Int32)) + (-2 : Int32)) - ((y3.toUInt32 >>> ((1 : Int32) &&& 31).toUInt32).toInt32))).toInt ≤ 31 := by
              have q := c_iushr y3 1 1 (by decide) (by decide)
              have e2 : ((2 ^ 1 : Nat) : Int) = 2 := by decide
              rw [e2] at q
              have q2 := c_isub ((((31 : Int32) + (-16 : Int32)) + (-4 : Int32)) + (-2 : Int32)) ((y3.toUInt32 >>> ((1 : Int32) &&& 31).toUInt32).toInt32)
              have q3 := rng32 ((((((31 : Int32) + (-16 : Int32)) + (-4 : Int32)) + (-2 : Int32)) - ((y3.toUInt32 >>> ((1 : Int32) &&& 31).toUInt32).toInt32)))
              have en : (((((31 : Int32) + (-16 : Int32)) + (-4 : Int32)) + (-2 : Int32))).toInt = 9 := by decide
              rw [q, en] at q2
              omega
            have sg8 : ∀ t, Steps p.tables e below (s₁.setTop (mkF m 78 #[.val (.int y3), .val (.int ((((31 : Int32) + (-16 : Int32)) + (-4 : Int32)) + (-2 : Int32)))] [(.int (((((31 : Int32) + (-16 : Int32)) + (-4 : Int32)) + (-2 : Int32)) - ((y3.toUInt32 >>> ((1 : Int32) &&& 31).toUInt32).toInt32)))])) t → Steps p.tables e below (s₁.setTop (mkF m 73 #[.val (.int y3), .val (.int ((((31 : Int32) + (-16 : Int32)) + (-4 : Int32)) + (-2 : Int32)))] [])) t := by
              intro t kt
              refine XS.iloadN X0.here hx rfl (hb hby d7_73) rfl ?_
              show Steps p.tables e below (s₁.setTop (mkF m 74 #[.val (.int y3), .val (.int ((((31 : Int32) + (-16 : Int32)) + (-4 : Int32)) + (-2 : Int32)))] [(.int ((((31 : Int32) + (-16 : Int32)) + (-4 : Int32)) + (-2 : Int32)))])) _
              refine XS.iloadN X0.here hx rfl (hb hby d7_74) rfl ?_
              show Steps p.tables e below (s₁.setTop (mkF m 75 #[.val (.int y3), .val (.int ((((31 : Int32) + (-16 : Int32)) + (-4 : Int32)) + (-2 : Int32)))] [(.int y3), (.int ((((31 : Int32) + (-16 : Int32)) + (-4 : Int32)) + (-2 : Int32)))])) _
              refine XS.iconst X0.here hx rfl (hb hby d7_75) ?_
              show Steps p.tables e below (s₁.setTop (mkF m 76 #[.val (.int y3), .val (.int ((((31 : Int32) + (-16 : Int32)) + (-4 : Int32)) + (-2 : Int32)))] [(.int (1 : Int32)), (.int y3), (.int ((((31 : Int32) + (-16 : Int32)) + (-4 : Int32)) + (-2 : Int32)))])) _
              refine XS.iushr X0.here hx rfl (hb hby d7_76) rfl ?_
              show Steps p.tables e below (s₁.setTop (mkF m 77 #[.val (.int y3), .val (.int ((((31 : Int32) + (-16 : Int32)) + (-4 : Int32)) + (-2 : Int32)))] [(.int ((y3.toUInt32 >>> ((1 : Int32) &&& 31).toUInt32).toInt32)), (.int ((((31 : Int32) + (-16 : Int32)) + (-4 : Int32)) + (-2 : Int32)))])) _
              refine XS.isub X0.here hx rfl (hb hby d7_77) rfl ?_
              exact kt
            obtain ⟨fs, hr, hrun, hended, hW, hsame⟩ := X0.leave (v := some (.int (((((31 : Int32) + (-16 : Int32)) + (-4 : Int32)) + (-2 : Int32)) - ((y3.toUInt32 >>> ((1 : Int32) &&& 31).toUInt32).toInt32)))) (fun h => by rw [Bd.returns] at h; cases h)
            refine ⟨_, _, pre0 _ ?_, hrun, hended, _, _, rfl, ?_, ⟨_, rfl⟩, hW, hsame.mono (by decide) (by decide)⟩
            · refine sg1 _ ?_
              refine sg2 _ ?_
              refine sg3 _ ?_
              refine sg4 _ ?_
              refine sg5 _ ?_
              refine sg6 _ ?_
              refine sg7 _ ?_
              refine sg8 _ ?_
              exact retI X0 hx Bd.returns (hb hby d7_78) hr
            · show Q7 Z x1 h0 n0 _ s₁.heap _
              rw [e0]; exact ⟨⟨_, rfl, by omega, by omega, fun _ => by omega⟩, N0, rfl⟩
      · have k1 : ¬ y0.toInt < (256 : Int32).toInt := fun q => c1 (Int32.lt_iff_toInt_lt.mpr q)
        have l1 : (256 : Int32).toInt = 256 := by decide
        have sg5 : ∀ t, Steps p.tables e below (s₁.setTop (mkF m 48 #[.val (.int ((y0.toUInt32 >>> ((8 : Int32) &&& 31).toUInt32).toInt32)), .val (.int (((31 : Int32) + (-16 : Int32)) + (-8 : Int32)))] [])) t → Steps p.tables e below (s₁.setTop (mkF m 33 #[.val (.int y0), .val (.int ((31 : Int32) + (-16 : Int32)))] [])) t := by
          intro t kt
          refine XS.iloadN X0.here hx rfl (hb hby d7_33) rfl ?_
          show Steps p.tables e below (s₁.setTop (mkF m 34 #[.val (.int y0), .val (.int ((31 : Int32) + (-16 : Int32)))] [(.int y0)])) _
          refine XS.sipush X0.here hx rfl (hb hby d7_34) ?_
          show Steps p.tables e below (s₁.setTop (mkF m 37 #[.val (.int y0), .val (.int ((31 : Int32) + (-16 : Int32)))] [(.int (256 : Int32)), (.int y0)])) _
          refine XS.icmpNo X0.here hx rfl (hb hby d7_37) rfl (flt (c1 : ¬ (y0 < (256 : Int32)))).1 ?_
          show Steps p.tables e below (s₁.setTop (mkF m 40 #[.val (.int y0), .val (.int ((31 : Int32) + (-16 : Int32)))] [])) _
          refine XS.iinc X0.here hx rfl (hb hby d7_40) rfl (l' := #[.val (.int y0), .val (.int (((31 : Int32) + (-16 : Int32)) + (-8 : Int32)))]) rfl ?_
          show Steps p.tables e below (s₁.setTop (mkF m 43 #[.val (.int y0), .val (.int (((31 : Int32) + (-16 : Int32)) + (-8 : Int32)))] [])) _
          refine XS.iloadN X0.here hx rfl (hb hby d7_43) rfl ?_
          show Steps p.tables e below (s₁.setTop (mkF m 44 #[.val (.int y0), .val (.int (((31 : Int32) + (-16 : Int32)) + (-8 : Int32)))] [(.int y0)])) _
          refine XS.bipush X0.here hx rfl (hb hby d7_44) ?_
          show Steps p.tables e below (s₁.setTop (mkF m 46 #[.val (.int y0), .val (.int (((31 : Int32) + (-16 : Int32)) + (-8 : Int32)))] [(.int (8 : Int32)), (.int y0)])) _
          refine XS.iushr X0.here hx rfl (hb hby d7_46) rfl ?_
          show Steps p.tables e below (s₁.setTop (mkF m 47 #[.val (.int y0), .val (.int (((31 : Int32) + (-16 : Int32)) + (-8 : Int32)))] [(.int ((y0.toUInt32 >>> ((8 : Int32) &&& 31).toUInt32).toInt32))])) _
          refine XS.istoreN X0.here hx rfl (hb hby d7_47) rfl (l' := #[.val (.int ((y0.toUInt32 >>> ((8 : Int32) &&& 31).toUInt32).toInt32)), .val (.int (((31 : Int32) + (-16 : Int32)) + (-8 : Int32)))]) rfl ?_
          exact kt
        have s1 := c_iushr y0 8 8 (by decide) (by decide)
        have t1 : ((2 ^ 8 : Nat) : Int) = 256 := by decide
        rw [t1] at s1
        obtain ⟨y1, hy1⟩ : ∃ z, z = ((y0.toUInt32 >>> ((8 : Int32) &&& 31).toUInt32).toInt32) := ⟨_, rfl⟩
        rw [← hy1] at s1 sg5
        by_cases c2 : y1 < (16 : Int32)
        · have k2 := Int32.lt_iff_toInt_lt.mp c2
          have l2 : (16 : Int32).toInt = 16 := by decide
          have sg6 : ∀ t, Steps p.tables e below (s₁.setTop (mkF m 61 #[.val (.int y1), .val (.int (((31 : Int32) + (-16 : Int32)) + (-8 : Int32)))] [])) t → Steps p.tables e below (s₁.setTop (mkF m 48 #[.val (.int y1), .val (.int (((31 : Int32) + (-16 : Int32)) + (-8 : Int32)))] [])) t := by
            intro t kt
            refine XS.iloadN X0.here hx rfl (hb hby d7_48) rfl ?_
            show Steps p.tables e below (s₁.setTop (mkF m 49 #[.val (.int y1), .val (.int (((31 : Int32) + (-16 : Int32)) + (-8 : Int32)))] [(.int y1)])) _
            refine XS.bipush X0.here hx rfl (hb hby d7_49) ?_
            show Steps p.tables e below (s₁.setTop (mkF m 51 #[.val (.int y1), .val (.int (((31 : Int32) + (-16 : Int32)) + (-8 : Int32)))] [(.int (16 : Int32)), (.int y1)])) _
            refine XS.icmpYes X0.here hx rfl (pc0 := 51) (pc' := 61) rfl (hb hby d7_51) rfl (tlt (c2 : y1 < (16 : Int32))).1 (by decide) (by decide) ?_
            exact kt
          by_cases c3 : y1 < (4 : Int32)
          · have k3 := Int32.lt_iff_toInt_lt.mp c3
            have l3 : (4 : Int32).toInt = 4 := by decide
            have sg7 : ∀ t, Steps p.tables e below (s₁.setTop (mkF m 73 #[.val (.int y1), .val (.int (((31 : Int32) + (-16 : Int32)) + (-8 : Int32)))] [])) t → Steps p.tables e below (s₁.setTop (mkF m 61 #[.val (.int y1), .val (.int (((31 : Int32) + (-16 : Int32)) + (-8 : Int32)))] [])) t := by
              intro t kt
              refine XS.iloadN X0.here hx rfl (hb hby d7_61) rfl ?_
              show Steps p.tables e below (s₁.setTop (mkF m 62 #[.val (.int y1), .val (.int (((31 : Int32) + (-16 : Int32)) + (-8 : Int32)))] [(.int y1)])) _
              refine XS.iconst X0.here hx rfl (hb hby d7_62) ?_
              show Steps p.tables e below (s₁.setTop (mkF m 63 #[.val (.int y1), .val (.int (((31 : Int32) + (-16 : Int32)) + (-8 : Int32)))] [(.int (4 : Int32)), (.int y1)])) _
              refine XS.icmpYes X0.here hx rfl (pc0 := 63) (pc' := 73) rfl (hb hby d7_63) rfl (tlt (c3 : y1 < (4 : Int32))).1 (by decide) (by decide) ?_
              exact kt
            have own_fin : 1 ≤ (((((31 : Int32) + (-16 : Int32)) + (-8 : Int32)) - ((y1.toUInt32 >>> ((1 : Int32) &&& 31).toUInt32).toInt32))).toInt ∧ (((((31 : Int32) + (-16 : Int32)) + (-8 : Int32)) - ((y1.toUInt32 >>> ((1 : Int32) &&& 31).toUInt32).toInt32))).toInt ≤ 31 := by
              have q := c_iushr y1 1 1 (by decide) (by decide)
              have e2 : ((2 ^ 1 : Nat) : Int) = 2 := by decide
              rw [e2] at q
              have q2 := c_isub (((31 : Int32) + (-16 : Int32)) + (-8 : Int32)) ((y1.toUInt32 >>> ((1 : Int32) &&& 31).toUInt32).toInt32)
              have q3 := rng32 (((((31 : Int32) + (-16 : Int32)) + (-8 : Int32)) - ((y1.toUInt32 >>> ((1 : Int32) &&& 31).toUInt32).toInt32)))
              have en : ((((31 : Int32) + (-16 : Int32)) + (-8 : Int32))).toInt = 7 := by decide
              rw [q, en] at q2
              omega
            have sg8 : ∀ t, Steps p.tables e below (s₁.setTop (mkF m 78 #[.val (.int y1), .val (.int (((31 : Int32) + (-16 : Int32)) + (-8 : Int32)))] [(.int ((((31 : Int32) + (-16 : Int32)) + (-8 : Int32)) - ((y1.toUInt32 >>> ((1 : Int32) &&& 31).toUInt32).toInt32)))])) t → Steps p.tables e below (s₁.setTop (mkF m 73 #[.val (.int y1), .val (.int (((31 : Int32) + (-16 : Int32)) + (-8 : Int32)))] [])) t := by
              intro t kt
              refine XS.iloadN X0.here hx rfl (hb hby d7_73) rfl ?_
              show Steps p.tables e below (s₁.setTop (mkF m 74 #[.val (.int y1), .val (.int (((31 : Int32) + (-16 : Int32)) + (-8 : Int32)))] [(.int (((31 : Int32) + (-16 : Int32)) + (-8 : Int32)))])) _
              refine XS.iloadN X0.here hx rfl (hb hby d7_74) rfl ?_
              show Steps p.tables e below (s₁.setTop (mkF m 75 #[.val (.int y1), .val (.int (((31 : Int32) + (-16 : Int32)) + (-8 : Int32)))] [(.int y1), (.int (((31 : Int32) + (-16 : Int32)) + (-8 : Int32)))])) _
              refine XS.iconst X0.here hx rfl (hb hby d7_75) ?_
              show Steps p.tables e below (s₁.setTop (mkF m 76 #[.val (.int y1), .val (.int (((31 : Int32) + (-16 : Int32)) + (-8 : Int32)))] [(.int (1 : Int32)), (.int y1), (.int (((31 : Int32) + (-16 : Int32)) + (-8 : Int32)))])) _
              refine XS.iushr X0.here hx rfl (hb hby d7_76) rfl ?_
              show Steps p.tables e below (s₁.setTop (mkF m 77 #[.val (.int y1), .val (.int (((31 : Int32) + (-16 : Int32)) + (-8 : Int32)))] [(.int ((y1.toUInt32 >>> ((1 : Int32) &&& 31).toUInt32).toInt32)), (.int (((31 : Int32) + (-16 : Int32)) + (-8 : Int32)))])) _
              refine XS.isub X0.here hx rfl (hb hby d7_77) rfl ?_
              exact kt
            obtain ⟨fs, hr, hrun, hended, hW, hsame⟩ := X0.leave (v := some (.int ((((31 : Int32) + (-16 : Int32)) + (-8 : Int32)) - ((y1.toUInt32 >>> ((1 : Int32) &&& 31).toUInt32).toInt32)))) (fun h => by rw [Bd.returns] at h; cases h)
            refine ⟨_, _, pre0 _ ?_, hrun, hended, _, _, rfl, ?_, ⟨_, rfl⟩, hW, hsame.mono (by decide) (by decide)⟩
            · refine sg1 _ ?_
              refine sg2 _ ?_
              refine sg3 _ ?_
              refine sg4 _ ?_
              refine sg5 _ ?_
              refine sg6 _ ?_
              refine sg7 _ ?_
              refine sg8 _ ?_
              exact retI X0 hx Bd.returns (hb hby d7_78) hr
            · show Q7 Z x1 h0 n0 _ s₁.heap _
              rw [e0]; exact ⟨⟨_, rfl, by omega, by omega, fun _ => by omega⟩, N0, rfl⟩
          · have k3 : ¬ y1.toInt < (4 : Int32).toInt := fun q => c3 (Int32.lt_iff_toInt_lt.mpr q)
            have l3 : (4 : Int32).toInt = 4 := by decide
            have sg7 : ∀ t, Steps p.tables e below (s₁.setTop (mkF m 73 #[.val (.int ((y1.toUInt32 >>> ((2 : Int32) &&& 31).toUInt32).toInt32)), .val (.int ((((31 : Int32) + (-16 : Int32)) + (-8 : Int32)) + (-2 : Int32)))] [])) t → Steps p.tables e below (s₁.setTop (mkF m 61 #[.val (.int y1), .val (.int (((31 : Int32) + (-16 : Int32)) + (-8 : Int32)))] [])) t := by
              intro t kt
              refine XS.iloadN X0.here hx rfl (hb hby d7_61) rfl ?_
              show Steps p.tables e below (s₁.setTop (mkF m 62 #[.val (.int y1), .val (.int (((31 : Int32) + (-16 : Int32)) + (-8 : Int32)))] [(.int y1)])) _
              refine XS.iconst X0.here hx rfl (hb hby d7_62) ?_
              show Steps p.tables e below (s₁.setTop (mkF m 63 #[.val (.int y1), .val (.int (((31 : Int32) + (-16 : Int32)) + (-8 : Int32)))] [(.int (4 : Int32)), (.int y1)])) _
              refine XS.icmpNo X0.here hx rfl (hb hby d7_63) rfl (flt (c3 : ¬ (y1 < (4 : Int32)))).1 ?_
              show Steps p.tables e below (s₁.setTop (mkF m 66 #[.val (.int y1), .val (.int (((31 : Int32) + (-16 : Int32)) + (-8 : Int32)))] [])) _
              refine XS.iinc X0.here hx rfl (hb hby d7_66) rfl (l' := #[.val (.int y1), .val (.int ((((31 : Int32) + (-16 : Int32)) + (-8 : Int32)) + (-2 : Int32)))]) rfl ?_
              show Steps p.tables e below (s₁.setTop (mkF m 69 #[.val (.int y1), .val (.int ((((31 : Int32) + (-16 : Int32)) + (-8 : Int32)) + (-2 : Int32)))] [])) _
              refine XS.iloadN X0.here hx rfl (hb hby d7_69) rfl ?_
              show Steps p.tables e below (s₁.setTop (mkF m 70 #[.val (.int y1), .val (.int ((((31 : Int32) + (-16 : Int32)) + (-8 : Int32)) + (-2 : Int32)))] [(.int y1)])) _
              refine XS.iconst X0.here hx rfl (hb hby d7_70) ?_
              show Steps p.tables e below (s₁.setTop (mkF m 71 #[.val (.int y1), .val (.int ((((31 : Int32) + (-16 : Int32)) + (-8 : Int32)) + (-2 : Int32)))] [(.int (2 : Int32)), (.int y1)])) _
              refine XS.iushr X0.here hx rfl (hb hby d7_71) rfl ?_
              show Steps p.tables e below (s₁.setTop (mkF m 72 #[.val (.int y1), .val (.int ((((31 : Int32) + (-16 : Int32)) + (-8 : Int32)) + (-2 : Int32)))] [(.int ((y1.toUInt32 >>> ((2 : Int32) &&& 31).toUInt32).toInt32))])) _
              refine XS.istoreN X0.here hx rfl (hb hby d7_72) rfl (l' := #[.val (.int ((y1.toUInt32 >>> ((2 : Int32) &&& 31).toUInt32).toInt32)), .val (.int ((((31 : Int32) + (-16 : Int32)) + (-8 : Int32)) + (-2 : Int32)))]) rfl ?_
              exact kt
            have s3 := c_iushr y1 2 2 (by decide) (by decide)
            have t3 : ((2 ^ 2 : Nat) : Int) = 4 := by decide
            rw [t3] at s3
            obtain ⟨y3, hy3⟩ : ∃ z, z = ((y1.toUInt32 >>> ((2 : Int32) &&& 31).toUInt32).toInt32) := ⟨_, rfl⟩
            rw [← hy3] at s3 sg7
            have own_fin : 1 ≤ ((((((31 : Int32) + (-16 : Int32)) + (-8 : Int32)) + (-2 : Int32)) - ((y3.toUInt32 >>> ((1 : Int32) &&& 31).toUInt32).toInt32))).toInt ∧ ((((((31 : Int32) + (-16 : Int32)) + (-8 : Int32)) + (-2 : Int32)) - ((y3.toUInt32 >>> ((1 : Int32) &&& 31).toUInt32).toInt32))).toInt ≤ 31 := by
              have q := c_iushr y3 1 1 (by decide) (by decide)
              have e2 : ((2 ^ 1 : Nat) : Int) = 2 := by decide
              rw [e2] at q
              have q2 := c_isub ((((31 : Int32) + (-16 : Int32)) + (-8 : Int32)) + (-2 : Int32)) ((y3.toUInt32 >>> ((1 : Int32) &&& 31).toUInt32).toInt32)
              have q3 := rng32 ((((((31 : Int32) + (-16 : Int32)) + (-8 : Int32)) + (-2 : Int32)) - ((y3.toUInt32 >>> ((1 : Int32) &&& 31).toUInt32).toInt32)))
              have en : (((((31 : Int32) + (-16 : Int32)) + (-8 : Int32)) + (-2 : Int32))).toInt = 5 := by decide
              rw [q, en] at q2
              omega
            have sg8 : ∀ t, Steps p.tables e below (s₁.setTop (mkF m 78 #[.val (.int y3), .val (.int ((((31 : Int32) + (-16 : Int32)) + (-8 : Int32)) + (-2 : Int32)))] [(.int (((((31 : Int32) + (-16 : Int32)) + (-8 : Int32)) + (-2 : Int32)) - ((y3.toUInt32 >>> ((1 : Int32) &&& 31).toUInt32).toInt32)))])) t → Steps p.tables e below (s₁.setTop (mkF m 73 #[.val (.int y3), .val (.int ((((31 : Int32) + (-16 : Int32)) + (-8 : Int32)) + (-2 : Int32)))] [])) t := by
              intro t kt
              refine XS.iloadN X0.here hx rfl (hb hby d7_73) rfl ?_
              show Steps p.tables e below (s₁.setTop (mkF m 74 #[.val (.int y3), .val (.int ((((31 : Int32) + (-16 : Int32)) + (-8 : Int32)) + (-2 : Int32)))] [(.int ((((31 : Int32) + (-16 : Int32)) + (-8 : Int32)) + (-2 : Int32)))])) _
              refine XS.iloadN X0.here hx rfl (hb hby d7_74) rfl ?_
              show Steps p.tables e below (s₁.setTop (mkF m 75 #[.val (.int y3), .val (.int ((((31 : Int32) + (-16 : Int32)) + (-8 : Int32)) + (-2 : Int32)))] [(.int y3), (.int ((((31 : Int32) + (-16 : Int32)) + (-8 : Int32)) + (-2 : Int32)))])) _
              refine XS.iconst X0.here hx rfl (hb hby d7_75) ?_
              show Steps p.tables e below (s₁.setTop (mkF m 76 #[.val (.int y3), .val (.int ((((31 : Int32) + (-16 : Int32)) + (-8 : Int32)) + (-2 : Int32)))] [(.int (1 : Int32)), (.int y3), (.int ((((31 : Int32) + (-16 : Int32)) + (-8 : Int32)) + (-2 : Int32)))])) _
              refine XS.iushr X0.here hx rfl (hb hby d7_76) rfl ?_
              show Steps p.tables e below (s₁.setTop (mkF m 77 #[.val (.int y3), .val (.int ((((31 : Int32) + (-16 : Int32)) + (-8 : Int32)) + (-2 : Int32)))] [(.int ((y3.toUInt32 >>> ((1 : Int32) &&& 31).toUInt32).toInt32)), (.int ((((31 : Int32) + (-16 : Int32)) + (-8 : Int32)) + (-2 : Int32)))])) _
              refine XS.isub X0.here hx rfl (hb hby d7_77) rfl ?_
              exact kt
            obtain ⟨fs, hr, hrun, hended, hW, hsame⟩ := X0.leave (v := some (.int (((((31 : Int32) + (-16 : Int32)) + (-8 : Int32)) + (-2 : Int32)) - ((y3.toUInt32 >>> ((1 : Int32) &&& 31).toUInt32).toInt32)))) (fun h => by rw [Bd.returns] at h; cases h)
            refine ⟨_, _, pre0 _ ?_, hrun, hended, _, _, rfl, ?_, ⟨_, rfl⟩, hW, hsame.mono (by decide) (by decide)⟩
            · refine sg1 _ ?_
              refine sg2 _ ?_
              refine sg3 _ ?_
              refine sg4 _ ?_
              refine sg5 _ ?_
              refine sg6 _ ?_
              refine sg7 _ ?_
              refine sg8 _ ?_
              exact retI X0 hx Bd.returns (hb hby d7_78) hr
            · show Q7 Z x1 h0 n0 _ s₁.heap _
              rw [e0]; exact ⟨⟨_, rfl, by omega, by omega, fun _ => by omega⟩, N0, rfl⟩
        · have k2 : ¬ y1.toInt < (16 : Int32).toInt := fun q => c2 (Int32.lt_iff_toInt_lt.mpr q)
          have l2 : (16 : Int32).toInt = 16 := by decide
          have sg6 : ∀ t, Steps p.tables e below (s₁.setTop (mkF m 61 #[.val (.int ((y1.toUInt32 >>> ((4 : Int32) &&& 31).toUInt32).toInt32)), .val (.int ((((31 : Int32) + (-16 : Int32)) + (-8 : Int32)) + (-4 : Int32)))] [])) t → Steps p.tables e below (s₁.setTop (mkF m 48 #[.val (.int y1), .val (.int (((31 : Int32) + (-16 : Int32)) + (-8 : Int32)))] [])) t := by
            intro t kt
            refine XS.iloadN X0.here hx rfl (hb hby d7_48) rfl ?_
            show Steps p.tables e below (s₁.setTop (mkF m 49 #[.val (.int y1), .val (.int (((31 : Int32) + (-16 : Int32)) + (-8 : Int32)))] [(.int y1)])) _
            refine XS.bipush X0.here hx rfl (hb hby d7_49) ?_
            show Steps p.tables e below (s₁.setTop (mkF m 51 #[.val (.int y1), .val (.int (((31 : Int32) + (-16 : Int32)) + (-8 : Int32)))] [(.int (16 : Int32)), (.int y1)])) _
            refine XS.icmpNo X0.here hx rfl (hb hby d7_51) rfl (flt (c2 : ¬ (y1 < (16 : Int32)))).1 ?_
            show Steps p.tables e below (s₁.setTop (mkF m 54 #[.val (.int y1), .val (.int (((31 : Int32) + (-16 : Int32)) + (-8 : Int32)))] [])) _
            refine XS.iinc X0.here hx rfl (hb hby d7_54) rfl (l' := #[.val (.int y1), .val (.int ((((31 : Int32) + (-16 : Int32)) + (-8 : Int32)) + (-4 : Int32)))]) rfl ?_
            show Steps p.tables e below (s₁.setTop (mkF m 57 #[.val (.int y1), .val (.int ((((31 : Int32) + (-16 : Int32)) + (-8 : Int32)) + (-4 : Int32)))] [])) _
            refine XS.iloadN X0.here hx rfl (hb hby d7_57) rfl ?_
            show Steps p.tables e below (s₁.setTop (mkF m 58 #[.val (.int y1), .val (.int ((((31 : Int32) + (-16 : Int32)) + (-8 : Int32)) + (-4 : Int32)))] [(.int y1)])) _
            refine XS.iconst X0.here hx rfl (hb hby d7_58) ?_
            show Steps p.tables e below (s₁.setTop (mkF m 59 #[.val (.int y1), .val (.int ((((31 : Int32) + (-16 : Int32)) + (-8 : Int32)) + (-4 : Int32)))] [(.int (4 : Int32)), (.int y1)])) _
            refine XS.iushr X0.here hx rfl (hb hby d7_59) rfl ?_
            show Steps p.tables e below (s₁.setTop (mkF m 60 #[.val (.int y1), .val (.int ((((31 : Int32) + (-16 : Int32)) + (-8 : Int32)) + (-4 : Int32)))] [(.int ((y1.toUInt32 >>> ((4 : Int32) &&& 31).toUInt32).toInt32))])) _
            refine XS.istoreN X0.here hx rfl (hb hby d7_60) rfl (l' := #[.val (.int ((y1.toUInt32 >>> ((4 : Int32) &&& 31).toUInt32).toInt32)), .val (.int ((((31 : Int32) + (-16 : Int32)) + (-8 : Int32)) + (-4 : Int32)))]) rfl ?_
            exact kt
          have s2 := c_iushr y1 4 4 (by decide) (by decide)
          have t2 : ((2 ^ 4 : Nat) : Int) = 16 := by decide
          rw [t2] at s2
          obtain ⟨y2, hy2⟩ : ∃ z, z = ((y1.toUInt32 >>> ((4 : Int32) &&& 31).toUInt32).toInt32) := ⟨_, rfl⟩
          rw [← hy2] at s2 sg6
          by_cases c3 : y2 < (4 : Int32)
          · have k3 := Int32.lt_iff_toInt_lt.mp c3
            have l3 : (4 : Int32).toInt = 4 := by decide
            have sg7 : ∀ t, Steps p.tables e below (s₁.setTop (mkF m 73 #[.val (.int y2), .val (.int ((((31 : Int32) + (-16 : Int32)) + (-8 : Int32)) + (-4 : Int32)))] [])) t → Steps p.tables e below (s₁.setTop (mkF m 61 #[.val (.int y2), .val (.int ((((31 : Int32) + (-16 : Int32)) + (-8 : Int32)) + (-4 : Int32)))] [])) t := by
              intro t kt
              refine XS.iloadN X0.here hx rfl (hb hby d7_61) rfl ?_
              show Steps p.tables e below (s₁.setTop (mkF m 62 #[.val (.int y2), .val (.int ((((31 : Int32) + (-16 : Int32)) + (-8 : Int32)) + (-4 : Int32)))] [(.int y2)])) _
              refine XS.iconst X0.here hx rfl (hb hby d7_62) ?_
              show Steps p.tables e below (s₁.setTop (mkF m 63 #[.val (.int y2), .val (.int ((((31 : Int32) + (-16 : Int32)) + (-8 : Int32)) + (-4 : Int32)))] [(.int (4 : Int32)), (.int y2)])) _
              refine XS.icmpYes X0.here hx rfl (pc0 := 63) (pc' := 73) rfl (hb hby d7_63) rfl (tlt (c3 : y2 < (4 : Int32))).1 (by decide) (by decide) ?_
              exact kt
            have own_fin : 1 ≤ ((((((31 : Int32) + (-16 : Int32)) + (-8 : Int32)) + (-4 : Int32)) - ((y2.toUInt32 >>> ((1 : Int32) &&& 31).toUInt32).toInt32))).toInt ∧ ((((((31 : Int32) + (-16 : Int32)) + (-8 : Int32)) + (-4 : Int32)) - ((y2.toUInt32 >>> ((1 : Int32) &&& 31).toUInt32).toInt32))).toInt ≤ 31 := by
              have q := c_iushr y2 1 1 (by decide) (by decide)
              have e2 : ((2 ^ 1 : Nat) : Int) = 2 := by decide
              rw [e2] at q
              have q2 := c_isub ((((31 : Int32) + (-16 : Int32)) + (-8 : Int32)) + (-4 : Int32)) ((y2.toUInt32 >>> ((1 : Int32) &&& 31).toUInt32).toInt32)
              have q3 := rng32 ((((((31 : Int32) + (-16 : Int32)) + (-8 : Int32)) + (-4 : Int32)) - ((y2.toUInt32 >>> ((1 : Int32) &&& 31).toUInt32).toInt32)))
              have en : (((((31 : Int32) + (-16 : Int32)) + (-8 : Int32)) + (-4 : Int32))).toInt = 3 := by decide
              rw [q, en] at q2
              omega
            have sg8 : ∀ t, Steps p.tables e below (s₁.setTop (mkF m 78 #[.val (.int y2), .val (.int ((((31 : Int32) + (-16 : Int32)) + (-8 : Int32)) + (-4 : Int32)))] [(.int (((((31 : Int32) + (-16 : Int32)) + (-8 : Int32)) + (-4 : Int32)) - ((y2.toUInt32 >>> ((1 : Int32) &&& 31).toUInt32).toInt32)))])) t → Steps p.tables e below (s₁.setTop (mkF m 73 #[.val (.int y2), .val (.int ((((31 : Int32) + (-16 : Int32)) + (-8 : Int32)) + (-4 : Int32)))] [])) t := by
              intro t kt
              refine XS.iloadN X0.here hx rfl (hb hby d7_73) rfl ?_
              show Steps p.tables e below (s₁.setTop (mkF m 74 #[.val (.int y2), .val (.int ((((31 : Int32) + (-16 : Int32)) + (-8 : Int32)) + (-4 : Int32)))] [(.int ((((31 : Int32) + (-16 : Int32)) + (-8 : Int32)) + (-4 : Int32)))])) _
              refine XS.iloadN X0.here hx rfl (hb hby d7_74) rfl ?_
              show Steps p.tables e below (s₁.setTop (mkF m 75 #[.val (.int y2), .val (.int ((((31 : Int32) + (-16 : Int32)) + (-8 : Int32)) + (-4 : Int32)))] [(.int y2), (.int ((((31 : Int32) + (-16 : Int32)) + (-8 : Int32)) + (-4 : Int32)))])) _
              refine XS.iconst X0.here hx rfl (hb hby d7_75) ?_
              show Steps p.tables e below (s₁.setTop (mkF m 76 #[.val (.int y2), .val (.int ((((31 : Int32) + (-16 : Int32)) + (-8 : Int32)) + (-4 : Int32)))] [(.int (1 : Int32)), (.int y2), (.int ((((31 : Int32) + (-16 : Int32)) + (-8 : Int32)) + (-4 : Int32)))])) _
              refine XS.iushr X0.here hx rfl (hb hby d7_76) rfl ?_
              show Steps p.tables e below (s₁.setTop (mkF m 77 #[.val (.int y2), .val (.int ((((31 : Int32) + (-16 : Int32)) + (-8 : Int32)) + (-4 : Int32)))] [(.int ((y2.toUInt32 >>> ((1 : Int32) &&& 31).toUInt32).toInt32)), (.int ((((31 : Int32) + (-16 : Int32)) + (-8 : Int32)) + (-4 : Int32)))])) _
              refine XS.isub X0.here hx rfl (hb hby d7_77) rfl ?_
              exact kt
            obtain ⟨fs, hr, hrun, hended, hW, hsame⟩ := X0.leave (v := some (.int (((((31 : Int32) + (-16 : Int32)) + (-8 : Int32)) + (-4 : Int32)) - ((y2.toUInt32 >>> ((1 : Int32) &&& 31).toUInt32).toInt32)))) (fun h => by rw [Bd.returns] at h; cases h)
            refine ⟨_, _, pre0 _ ?_, hrun, hended, _, _, rfl, ?_, ⟨_, rfl⟩, hW, hsame.mono (by decide) (by decide)⟩
            · refine sg1 _ ?_
              refine sg2 _ ?_
              refine sg3 _ ?_
              refine sg4 _ ?_
              refine sg5 _ ?_
              refine sg6 _ ?_
              refine sg7 _ ?_
              refine sg8 _ ?_
              exact retI X0 hx Bd.returns (hb hby d7_78) hr
            · show Q7 Z x1 h0 n0 _ s₁.heap _
              rw [e0]; exact ⟨⟨_, rfl, by omega, by omega, fun _ => by omega⟩, N0, rfl⟩
          · have k3 : ¬ y2.toInt < (4 : Int32).toInt := fun q => c3 (Int32.lt_iff_toInt_lt.mpr q)
            have l3 : (4 : Int32).toInt = 4 := by decide
            have sg7 : ∀ t, Steps p.tables e below (s₁.setTop (mkF m 73 #[.val (.int ((y2.toUInt32 >>> ((2 : Int32) &&& 31).toUInt32).toInt32)), .val (.int (((((31 : Int32) + (-16 : Int32)) + (-8 : Int32)) + (-4 : Int32)) + (-2 : Int32)))] [])) t → Steps p.tables e below (s₁.setTop (mkF m 61 #[.val (.int y2), .val (.int ((((31 : Int32) + (-16 : Int32)) + (-8 : Int32)) + (-4 : Int32)))] [])) t := by
              intro t kt
              refine XS.iloadN X0.here hx rfl (hb hby d7_61) rfl ?_
              show Steps p.tables e below (s₁.setTop (mkF m 62 #[.val (.int y2), .val (.int ((((31 : Int32) + (-16 : Int32)) + (-8 : Int32)) + (-4 : Int32)))] [(.int y2)])) _
              refine XS.iconst X0.here hx rfl (hb hby d7_62) ?_
              show Steps p.tables e below (s₁.setTop (mkF m 63 #[.val (.int y2), .val (.int ((((31 : Int32) + (-16 : Int32)) + (-8 : Int32)) + (-4 : Int32)))] [(.int (4 : Int32)), (.int y2)])) _
              refine XS.icmpNo X0.here hx rfl (hb hby d7_63) rfl (flt (c3 : ¬ (y2 < (4 : Int32)))).1 ?_
              show Steps p.tables e below (s₁.setTop (mkF m 66 #[.val (.int y2), .val (.int ((((31 : Int32) + (-16 : Int32)) + (-8 : Int32)) + (-4 : Int32)))] [])) _
              refine XS.iinc X0.here hx rfl (hb hby d7_66) rfl (l' := #[.val (.int y2), .val (.int (((((31 : Int32) + (-16 : Int32)) + (-8 : Int32)) + (-4 : Int32)) + (-2 : Int32)))]) rfl ?_
              show Steps p.tables e below (s₁.setTop (mkF m 69 #[.val (.int y2), .val (.int (((((31 : Int32) + (-16 : Int32)) + (-8 : Int32)) + (-4 : Int32)) + (-2 : Int32)))] [])) _
              refine XS.iloadN X0.here hx rfl (hb hby d7_69) rfl ?_
              show Steps p.tables e below (s₁.setTop (mkF m 70 #[.val (.int y2), .val (.int (((((31 : Int32) + (-16 : Int32)) + (-8 : Int32)) + (-4 : Int32)) + (-2 : Int32)))] [(.int y2)])) _
              refine XS.iconst X0.here hx rfl (hb hby d7_70) ?_
              show Steps p.tables e below (s₁.setTop (mkF m 71 #[.val (.int y2), .val (.int (((((31 : Int32) + (-16 : Int32)) + (-8 : Int32)) + (-4 : Int32)) + (-2 : Int32)))] [(.int (2 : Int32)), (.int y2)])) _
              refine XS.iushr X0.here hx rfl (hb hby d7_71) rfl ?_
              show Steps p.tables e below (s₁.setTop (mkF m 72 #[.val (.int y2), .val (.int (((((31 : Int32) + (-16 : Int32)) + (-8 : Int32)) + (-4 : Int32)) + (-2 : Int32)))] [(.int ((y2.toUInt32 >>> ((2 : Int32) &&& 31).toUInt32).toInt32))])) _
              refine XS.istoreN X0.here hx rfl (hb hby d7_72) rfl (l' := #[.val (.int ((y2.toUInt32 >>> ((2 : Int32) &&& 31).toUInt32).toInt32)), .val (.int (((((31 : Int32) + (-16 : Int32)) + (-8 : Int32)) + (-4 : Int32)) + (-2 : Int32)))]) rfl ?_
              exact kt
            have s3 := c_iushr y2 2 2 (by decide) (by decide)
            have t3 : ((2 ^ 2 : Nat) : Int) = 4 := by decide
            rw [t3] at s3
            obtain ⟨y3, hy3⟩ : ∃ z, z = ((y2.toUInt32 >>> ((2 : Int32) &&& 31).toUInt32).toInt32) := ⟨_, rfl⟩
            rw [← hy3] at s3 sg7
            have own_fin : 1 ≤ (((((((31 : Int32) + (-16 : Int32)) + (-8 : Int32)) + (-4 : Int32)) + (-2 : Int32)) - ((y3.toUInt32 >>> ((1 : Int32) &&& 31).toUInt32).toInt32))).toInt ∧ (((((((31 : Int32) + (-16 : Int32)) + (-8 : Int32)) + (-4 : Int32)) + (-2 : Int32)) - ((y3.toUInt32 >>> ((1 : Int32) &&& 31).toUInt32).toInt32))).toInt ≤ 31 := by
              have q := c_iushr y3 1 1 (by decide) (by decide)
              have e2 : ((2 ^ 1 : Nat) : Int) = 2 := by decide
              rw [e2] at q
              have q2 := c_isub (((((31 : Int32) + (-16 : Int32)) + (-8 : Int32)) + (-4 : Int32)) + (-2 : Int32)) ((y3.toUInt32 >>> ((1 : Int32) &&& 31).toUInt32).toInt32)
              have q3 := rng32 (((((((31 : Int32) + (-16 : Int32)) + (-8 : Int32)) + (-4 : Int32)) + (-2 : Int32)) - ((y3.toUInt32 >>> ((1 : Int32) &&& 31).toUInt32).toInt32)))
              have en : ((((((31 : Int32) + (-16 : Int32)) + (-8 : Int32)) + (-4 : Int32)) + (-2 : Int32))).toInt = 1 := by decide
              rw [q, en] at q2
              omega
            have sg8 : ∀ t, Steps p.tables e below (s₁.setTop (mkF m 78 #[.val (.int y3), .val (.int (((((31 : Int32) + (-16 : Int32)) + (-8 : Int32)) + (-4 : Int32)) + (-2 : Int32)))] [(.int ((((((31 : Int32) + (-16 : Int32)) + (-8 : Int32)) + (-4 : Int32)) + (-2 : Int32)) - ((y3.toUInt32 >>> ((1 : Int32) &&& 31).toUInt32).toInt32)))])) t → Steps p.tables e below (s₁.setTop (mkF m 73 #[.val (.int y3), .val (.int (((((31 : Int32) + (-16 : Int32)) + (-8 : Int32)) + (-4 : Int32)) + (-2 : Int32)))] [])) t := by
              intro t kt
              refine XS.iloadN X0.here hx rfl (hb hby d7_73) rfl ?_
              show Steps p.tables e below (s₁.setTop (mkF m 74 #[.val (.int y3), .val (.int (((((31 : Int32) + (-16 : Int32)) + (-8 : Int32)) + (-4 : Int32)) + (-2 : Int32)))] [(.int (((((31 : Int32) + (-16 : Int32)) + (-8 : Int32)) + (-4 : Int32)) + (-2 : Int32)))])) _
              refine XS.iloadN X0.here hx rfl (hb hby d7_74) rfl ?_
              show Steps p.tables e below (s₁.setTop (mkF m 75 #[.val (.int y3), .val (.int (((((31 : Int32) + (-16 : Int32)) + (-8 : Int32)) + (-4 : Int32)) + (-2 : Int32)))] [(.int y3), (.int (((((31 : Int32) + (-16 : Int32)) + (-8 : Int32)) + (-4 : Int32)) + (-2 : Int32)))])) _
              refine XS.iconst X0.here hx rfl (hb hby d7_75) ?_
              show Steps p.tables e below (s₁.setTop (mkF m 76 #[.val (.int y3), .val (.int (((((31 : Int32) + (-16 : Int32)) + (-8 : Int32)) + (-4 : Int32)) + (-2 : Int32)))] [(.int (1 : Int32)), (.int y3), (.int (((((31 : Int32) + (-16 : Int32)) + (-8 : Int32)) + (-4 : Int32)) + (-2 : Int32)))])) _
              refine XS.iushr X0.here hx rfl (hb hby d7_76) rfl ?_
              show Steps p.tables e below (s₁.setTop (mkF m 77 #[.val (.int y3), .val (.int (((((31 : Int32) + (-16 : Int32)) + (-8 : Int32)) + (-4 : Int32)) + (-2 : Int32)))] [(.int ((y3.toUInt32 >>> ((1 : Int32) &&& 31).toUInt32).toInt32)), (.int (((((31 : Int32) + (-16 : Int32)) + (-8 : Int32)) + (-4 : Int32)) + (-2 : Int32)))])) _
              refine XS.isub X0.here hx rfl (hb hby d7_77) rfl ?_
              exact kt
            obtain ⟨fs, hr, hrun, hended, hW, hsame⟩ := X0.leave (v := some (.int ((((((31 : Int32) + (-16 : Int32)) + (-8 : Int32)) + (-4 : Int32)) + (-2 : Int32)) - ((y3.toUInt32 >>> ((1 : Int32) &&& 31).toUInt32).toInt32)))) (fun h => by rw [Bd.returns] at h; cases h)
            refine ⟨_, _, pre0 _ ?_, hrun, hended, _, _, rfl, ?_, ⟨_, rfl⟩, hW, hsame.mono (by decide) (by decide)⟩
            · refine sg1 _ ?_
              refine sg2 _ ?_
              refine sg3 _ ?_
              refine sg4 _ ?_
              refine sg5 _ ?_
              refine sg6 _ ?_
              refine sg7 _ ?_
              refine sg8 _ ?_
              exact retI X0 hx Bd.returns (hb hby d7_78) hr
            · show Q7 Z x1 h0 n0 _ s₁.heap _
              rw [e0]; exact ⟨⟨_, rfl, by omega, by omega, fun _ => by omega⟩, N0, rfl⟩
  · have sg2 : ∀ t, Steps p.tables e below (s₁.setTop (mkF m 5 #[.val (.int x1), .unset] [(.int x1)])) t → Steps p.tables e below (s₁.setTop (mkF m 1 #[.val (.int x1), .unset] [(.int x1)])) t := by
      intro t kt
      refine XS.ifNo X0.here hx rfl (hb hby d7_1) rfl ((if0 _ _).trans (flt (c1 : ¬ ((0 : Int32) < x1))).2.2.1) ?_
      show Steps p.tables e below (s₁.setTop (mkF m 4 #[.val (.int x1), .unset] [])) _
      refine XS.iloadN X0.here hx rfl (hb hby d7_4) rfl ?_
      exact kt
    by_cases c5 : x1 = 0
    · have sg3 : ∀ t, Steps p.tables e below (s₁.setTop (mkF m 14 #[.val (.int x1), .unset] [(.int (32 : Int32))])) t → Steps p.tables e below (s₁.setTop (mkF m 5 #[.val (.int x1), .unset] [(.int x1)])) t := by
        intro t kt
        refine XS.ifNo X0.here hx rfl (hb hby d7_5) rfl ((if0 _ _).trans (teq (c5 : x1 = (0 : Int32))).2) ?_
        show Steps p.tables e below (s₁.setTop (mkF m 8 #[.val (.int x1), .unset] [])) _
        refine XS.bipush X0.here hx rfl (hb hby d7_8) ?_
        show Steps p.tables e below (s₁.setTop (mkF m 10 #[.val (.int x1), .unset] [(.int (32 : Int32))])) _
        refine XS.goto X0.here hx rfl (pc0 := 10) (pc' := 14) rfl (hb hby d7_10) (by decide) (by decide) ?_
        exact kt
      obtain ⟨fs, hr, hrun, hended, hW, hsame⟩ := X0.leave (v := some (.int (32 : Int32))) (fun h => by rw [Bd.returns] at h; cases h)
      refine ⟨_, _, pre0 _ ?_, hrun, hended, _, _, rfl, ?_, ⟨_, rfl⟩, hW, hsame.mono (by decide) (by decide)⟩
      · refine sg1 _ ?_
        refine sg2 _ ?_
        refine sg3 _ ?_
        exact retI X0 hx Bd.returns (hb hby d7_14) hr
      · show Q7 Z x1 h0 n0 _ s₁.heap _
        rw [e0]; exact ⟨⟨_, rfl, by decide, by decide, fun _ => by decide⟩, N0, rfl⟩
    · have sg3 : ∀ t, Steps p.tables e below (s₁.setTop (mkF m 14 #[.val (.int x1), .unset] [(.int (0 : Int32))])) t → Steps p.tables e below (s₁.setTop (mkF m 5 #[.val (.int x1), .unset] [(.int x1)])) t := by
        intro t kt
        refine XS.ifYes X0.here hx rfl (pc0 := 5) (pc' := 13) rfl (hb hby d7_5) rfl ((if0 _ _).trans (feq (c5 : ¬ (x1 = (0 : Int32)))).2) (by decide) (by decide) ?_
        show Steps p.tables e below (s₁.setTop (mkF m 13 #[.val (.int x1), .unset] [])) _
        refine XS.iconst X0.here hx rfl (hb hby d7_13) ?_
        exact kt
      obtain ⟨fs, hr, hrun, hended, hW, hsame⟩ := X0.leave (v := some (.int (0 : Int32))) (fun h => by rw [Bd.returns] at h; cases h)
      refine ⟨_, _, pre0 _ ?_, hrun, hended, _, _, rfl, ?_, ⟨_, rfl⟩, hW, hsame.mono (by decide) (by decide)⟩
      · refine sg1 _ ?_
        refine sg2 _ ?_
        refine sg3 _ ?_
        exact retI X0 hx Bd.returns (hb hby d7_14) hr
      · show Q7 Z x1 h0 n0 _ s₁.heap _
        rw [e0]; exact ⟨⟨_, rfl, by decide, by decide, fun q => absurd (own_le q c1) c5⟩, N0, rfl⟩
theorem d6_0 : decode jdk_35_method_48_code 0 = .ok (.lload_n 0, 1) := by decide +kernel
theorem d6_1 : decode jdk_35_method_48_code 1 = .ok (.bipush 32, 2) := by decide +kernel
theorem d6_3 : decode jdk_35_method_48_code 3 = .ok (.lushr, 1) := by decide +kernel
theorem d6_4 : decode jdk_35_method_48_code 4 = .ok (.l2i, 1) := by decide +kernel
theorem d6_5 : decode jdk_35_method_48_code 5 = .ok (.istore_n 2, 1) := by decide +kernel
theorem d6_6 : decode jdk_35_method_48_code 6 = .ok (.iload_n 2, 1) := by decide +kernel
theorem d6_7 : decode jdk_35_method_48_code 7 = .ok (.ifCond .ne 14, 3) := by decide +kernel
theorem d6_10 : decode jdk_35_method_48_code 10 = .ok (.bipush 32, 2) := by decide +kernel
theorem d6_12 : decode jdk_35_method_48_code 12 = .ok (.lload_n 0, 1) := by decide +kernel
theorem d6_13 : decode jdk_35_method_48_code 13 = .ok (.l2i, 1) := by decide +kernel
theorem d6_14 : decode jdk_35_method_48_code 14 = .ok (.invokestatic 308, 3) := by decide +kernel
theorem d6_17 : decode jdk_35_method_48_code 17 = .ok (.iadd, 1) := by decide +kernel
theorem d6_18 : decode jdk_35_method_48_code 18 = .ok (.goto 7, 3) := by decide +kernel
theorem d6_21 : decode jdk_35_method_48_code 21 = .ok (.iload_n 2, 1) := by decide +kernel
theorem d6_22 : decode jdk_35_method_48_code 22 = .ok (.invokestatic 308, 3) := by decide +kernel
theorem d6_25 : decode jdk_35_method_48_code 25 = .ok (.ireturn, 1) := by decide +kernel
theorem pn_6 : plainName "java/lang/Long" = true := by first | (simp [plainName, overriddenIn]; done) | decide +kernel
theorem ef_6 (m : MethodId) (x0 : Int64) : entryFrame m #[(.long x0)] 3 = mkF m 0 #[.val (.long x0), .second, .unset] [] := by first | (simp [entryFrame, mkF, argsToLocals, Value.category]; done) | rfl
theorem pd_0 : parseMethodDescriptor "(I)I" = some ⟨[.int], some .int⟩ := by decide +kernel
def Q6 (Z : State) (x1 : Int64) (h0 : Heap) (n0 : Nat) (v : Option Value) (h : Heap) (L : List Loc) : Prop := (∃ r, v = some (.int r) ∧ 1 ≤ r.toInt ∧ r.toInt ≤ 64) ∧ Fr n0 L ∧ h = h0
set_option maxRecDepth 65536 in
set_option maxHeartbeats 40000000 in
theorem rm6 (l : Launch) (Z : State) (a0 : Array Value) (hw : ∀ d ∈ tables_1, d.before a0 Z = true) (ws : List Jvm.Cond) (x1 : Int64) (h0 : Heap) (n0 : Nat) (Z0 : n0 ≤ h0.size) (hx0 : 0 ≤ x1.toInt) :
    MetFree l (⟨"java/lang/Long", "numberOfLeadingZeros", "(J)I"⟩ : MethodName) (head1 (Jvm.Cond.code (⟨"java/lang/Long", "numberOfLeadingZeros", "(J)I"⟩ : MethodName) jdk_35_method_48_code 3 (some .int) :: ws) ({ frames := 1, cells := 0, slots := 0, locals := 14 } : Room)) (fun a U => a = #[(.long x1)] ∧ Z.Warmed39 U.vm ∧ U.heap = h0) (fun _ _ _ _ _ => True) (fun _ U o U' => ∃ v L, o = .returned v ∧ Q6 Z x1 h0 n0 v U'.heap L ∧ FrameEnd U o U' L ({ frames := 1, cells := 0, slots := 0, locals := 14 } : Room).cells ({ frames := 1, cells := 0, slots := 0, locals := 14 } : Room).slots) := by
  refine MetFree.of_bodySF (plainFor_of_name pn_6) hisR ?_
  intro p e s m args below meth c s₁ Bd hml0 hP hK
  obtain ⟨rfl, hZ, hh⟩ := hP
  have hx := Bd.exec
  have hby := Bd.bytes
  have hml : c.maxLocals = 3 := hml0
  have hown : s.vm.findClass "java/lang/Long" = some m.cls := findClass_of_methodNamed Bd.named
  have hnm := (name_of_methodNamed Bd.named Bd.method).1
  have X0 : Stand p l e ({ frames := 1, cells := 0, slots := 0, locals := 14 } : Room) s m #[(.long x1)] below meth c s₁ [] 0 0 := Stand.of_body Bd
  have e0 : s₁.heap = h0 := by rw [← hh, Bd.state]; rfl
  have N0 := Fr.nil n0
  have pre0 : ∀ t, Steps p.tables e below (s₁.setTop (mkF m 0 #[.val (.long x1), .second, .unset] [])) t → Steps p.tables e below (s₁.setTop (entryFrame m #[(.long x1)] 3)) t := fun t kq0 => castTop (ef_6 m x1) kq0
  have sg1 : ∀ t, Steps p.tables e below (s₁.setTop (mkF m 7 #[.val (.long x1), .second, .val (.int (((x1.toUInt64 >>> ((32 : Int32) &&& 0x3f).toInt64.toUInt64).toInt64).toInt32))] [(.int (((x1.toUInt64 >>> ((32 : Int32) &&& 0x3f).toInt64.toUInt64).toInt64).toInt32))])) t → Steps p.tables e below (s₁.setTop (mkF m 0 #[.val (.long x1), .second, .unset] [])) t := by
    intro t kt
    refine XS.lloadN X0.here hx rfl (hb hby d6_0) rfl ?_
    show Steps p.tables e below (s₁.setTop (mkF m 1 #[.val (.long x1), .second, .unset] [(.long x1)])) _
    refine XS.bipush X0.here hx rfl (hb hby d6_1) ?_
    show Steps p.tables e below (s₁.setTop (mkF m 3 #[.val (.long x1), .second, .unset] [(.int (32 : Int32)), (.long x1)])) _
    refine XS.lushr X0.here hx rfl (hb hby d6_3) rfl ?_
    show Steps p.tables e below (s₁.setTop (mkF m 4 #[.val (.long x1), .second, .unset] [(.long ((x1.toUInt64 >>> ((32 : Int32) &&& 0x3f).toInt64.toUInt64).toInt64))])) _
    refine XS.l2i X0.here hx rfl (hb hby d6_4) rfl ?_
    show Steps p.tables e below (s₁.setTop (mkF m 5 #[.val (.long x1), .second, .unset] [(.int (((x1.toUInt64 >>> ((32 : Int32) &&& 0x3f).toInt64.toUInt64).toInt64).toInt32))])) _
    refine XS.istoreN X0.here hx rfl (hb hby d6_5) rfl (l' := #[.val (.long x1), .second, .val (.int (((x1.toUInt64 >>> ((32 : Int32) &&& 0x3f).toInt64.toUInt64).toInt64).toInt32))]) rfl ?_
    show Steps p.tables e below (s₁.setTop (mkF m 6 #[.val (.long x1), .second, .val (.int (((x1.toUInt64 >>> ((32 : Int32) &&& 0x3f).toInt64.toUInt64).toInt64).toInt32))] [])) _
    refine XS.iloadN X0.here hx rfl (hb hby d6_6) rfl ?_
    exact kt
  have hsh := c_lushr x1 32 32 (by decide) (by decide)
  have e32 : ((2 ^ 32 : Nat) : Int) = 4294967296 := by decide
  rw [e32] at hsh
  have hr := rng64 x1
  have hsm : ((((x1.toUInt64 >>> ((32 : Int32) &&& 0x3f).toInt64.toUInt64).toInt64).toInt32)).toInt = x1.toInt / 4294967296 := by
    have q := c_l2i ((x1.toUInt64 >>> ((32 : Int32) &&& 0x3f).toInt64.toUInt64).toInt64)
    have q2 := rng32 ((((x1.toUInt64 >>> ((32 : Int32) &&& 0x3f).toInt64.toUInt64).toInt64).toInt32))
    omega
  by_cases c7 : (((x1.toUInt64 >>> ((32 : Int32) &&& 0x3f).toInt64.toUInt64).toInt64).toInt32) = 0
  · have sg2 : ∀ t, Steps p.tables e below (s₁.setTop (mkF m 14 #[.val (.long x1), .second, .val (.int (((x1.toUInt64 >>> ((32 : Int32) &&& 0x3f).toInt64.toUInt64).toInt64).toInt32))] [(.int (x1.toInt32)), (.int (32 : Int32))])) t → Steps p.tables e below (s₁.setTop (mkF m 7 #[.val (.long x1), .second, .val (.int (((x1.toUInt64 >>> ((32 : Int32) &&& 0x3f).toInt64.toUInt64).toInt64).toInt32))] [(.int (((x1.toUInt64 >>> ((32 : Int32) &&& 0x3f).toInt64.toUInt64).toInt64).toInt32))])) t := by
      intro t kt
      refine XS.ifNo X0.here hx rfl (hb hby d6_7) rfl ((if0 _ _).trans (teq (c7 : (((x1.toUInt64 >>> ((32 : Int32) &&& 0x3f).toInt64.toUInt64).toInt64).toInt32) = (0 : Int32))).2) ?_
      show Steps p.tables e below (s₁.setTop (mkF m 10 #[.val (.long x1), .second, .val (.int (((x1.toUInt64 >>> ((32 : Int32) &&& 0x3f).toInt64.toUInt64).toInt64).toInt32))] [])) _
      refine XS.bipush X0.here hx rfl (hb hby d6_10) ?_
      show Steps p.tables e below (s₁.setTop (mkF m 12 #[.val (.long x1), .second, .val (.int (((x1.toUInt64 >>> ((32 : Int32) &&& 0x3f).toInt64.toUInt64).toInt64).toInt32))] [(.int (32 : Int32))])) _
      refine XS.lloadN X0.here hx rfl (hb hby d6_12) rfl ?_
      show Steps p.tables e below (s₁.setTop (mkF m 13 #[.val (.long x1), .second, .val (.int (((x1.toUInt64 >>> ((32 : Int32) &&& 0x3f).toInt64.toUInt64).toInt64).toInt32))] [(.long x1), (.int (32 : Int32))])) _
      refine XS.l2i X0.here hx rfl (hb hby d6_13) rfl ?_
      exact kt
    obtain ⟨_, _, ⟨T3, L3, k3, n3⟩, -, X3, ⟨Lc3, hQ3, l3, y3, z3⟩, st3⟩ := Jvm.LawKit.callS X0 hx (y := (⟨"java/lang/Integer", "numberOfLeadingZeros", "(I)I"⟩ : MethodName)) hown (mvT hZ (hw _ (List.mem_of_getElem? (i := 39) rfl))) (mvT hZ (hw _ (List.mem_of_getElem? (i := 40) rfl))) (mvT hZ (hw _ (List.mem_of_getElem? (i := 41) rfl))) (mvT hZ (hw _ (List.mem_of_getElem? (i := 42) rfl))) (by decide) (backOf (W := 1) (rm7 l Z a0 hw [] (x1.toInt32) h0 n0 Z0 ) hZ (hw _ (List.mem_of_getElem? (i := 42) rfl)) (hw _ (List.mem_of_getElem? (i := 41) rfl)) (by decide) (by decide)) (g := (mkF m 14 #[.val (.long x1), .second, .val (.int (((x1.toUInt64 >>> ((32 : Int32) &&& 0x3f).toInt64.toUInt64).toInt64).toInt32))] [(.int (x1.toInt32)), (.int (32 : Int32))])) rfl (by rw [hml]; rfl) (argsL := [(.int (x1.toInt32))]) (rest := [(.int (32 : Int32))]) (lenOf pd_0 rfl) rfl (by show 2 * 0 + _ ≤ _; exact Nat.le_of_eq rfl) (hb hby d6_14) (fun _ _ => ⟨rfl, e0, (by decide : 0 + 0 ≤ _), (by decide : 0 + 0 ≤ _)⟩)
    dsimp only [Pt.U, Pt.locs, Pt.cells, Pt.slots] at X3 l3 y3 z3 st3 hQ3
    subst l3 y3 z3
    obtain ⟨⟨r1, rfl, l1, u1, -⟩, Nq3, eq3⟩ := hQ3
    have N3 := Fr.app N0 Nq3
    have sg4 : ∀ t, Steps p.tables e below (T3.setTop (mkF m 25 #[.val (.long x1), .second, .val (.int (((x1.toUInt64 >>> ((32 : Int32) &&& 0x3f).toInt64.toUInt64).toInt64).toInt32))] [(.int ((32 : Int32) + r1))])) t → Steps p.tables e below (T3.setTop (mkF m 17 #[.val (.long x1), .second, .val (.int (((x1.toUInt64 >>> ((32 : Int32) &&& 0x3f).toInt64.toUInt64).toInt64).toInt32))] [(.int r1), (.int (32 : Int32))])) t := by
      intro t kt
      refine XS.iadd X3.here hx rfl (hb hby d6_17) rfl ?_
      show Steps p.tables e below (T3.setTop (mkF m 18 #[.val (.long x1), .second, .val (.int (((x1.toUInt64 >>> ((32 : Int32) &&& 0x3f).toInt64.toUInt64).toInt64).toInt32))] [(.int ((32 : Int32) + r1))])) _
      refine XS.goto X3.here hx rfl (pc0 := 18) (pc' := 25) rfl (hb hby d6_18) (by decide) (by decide) ?_
      exact kt
    have hadd := c_iadd 32 r1
    have hrg := rng32 ((32 : Int32) + r1)
    have z32 : (32 : Int32).toInt = 32 := by decide
    obtain ⟨fs, hr, hrun, hended, hW, hsame⟩ := X3.leave (v := some (.int ((32 : Int32) + r1))) (fun h => by rw [Bd.returns] at h; cases h)
    refine ⟨_, _, pre0 _ ?_, hrun, hended, _, _, rfl, ?_, ⟨_, rfl⟩, hW, hsame.mono (by decide) (by decide)⟩
    · refine sg1 _ ?_
      refine sg2 _ ?_
      refine st3 _ ?_
      refine sg4 _ ?_
      exact retI X3 hx Bd.returns (hb hby d6_25) hr
    · show Q6 Z x1 h0 n0 _ T3.heap _
      rw [eq3]; exact ⟨⟨_, rfl, by omega, by omega⟩, N3, rfl⟩
  · have sg2 : ∀ t, Steps p.tables e below (s₁.setTop (mkF m 22 #[.val (.long x1), .second, .val (.int (((x1.toUInt64 >>> ((32 : Int32) &&& 0x3f).toInt64.toUInt64).toInt64).toInt32))] [(.int (((x1.toUInt64 >>> ((32 : Int32) &&& 0x3f).toInt64.toUInt64).toInt64).toInt32))])) t → Steps p.tables e below (s₁.setTop (mkF m 7 #[.val (.long x1), .second, .val (.int (((x1.toUInt64 >>> ((32 : Int32) &&& 0x3f).toInt64.toUInt64).toInt64).toInt32))] [(.int (((x1.toUInt64 >>> ((32 : Int32) &&& 0x3f).toInt64.toUInt64).toInt64).toInt32))])) t := by
      intro t kt
      refine XS.ifYes X0.here hx rfl (pc0 := 7) (pc' := 21) rfl (hb hby d6_7) rfl ((if0 _ _).trans (feq (c7 : ¬ ((((x1.toUInt64 >>> ((32 : Int32) &&& 0x3f).toInt64.toUInt64).toInt64).toInt32) = (0 : Int32)))).2) (by decide) (by decide) ?_
      show Steps p.tables e below (s₁.setTop (mkF m 21 #[.val (.long x1), .second, .val (.int (((x1.toUInt64 >>> ((32 : Int32) &&& 0x3f).toInt64.toUInt64).toInt64).toInt32))] [])) _
      refine XS.iloadN X0.here hx rfl (hb hby d6_21) rfl ?_
      exact kt
    obtain ⟨_, _, ⟨T3, L3, k3, n3⟩, -, X3, ⟨Lc3, hQ3, l3, y3, z3⟩, st3⟩ := Jvm.LawKit.callS X0 hx (y := (⟨"java/lang/Integer", "numberOfLeadingZeros", "(I)I"⟩ : MethodName)) hown (mvT hZ (hw _ (List.mem_of_getElem? (i := 39) rfl))) (mvT hZ (hw _ (List.mem_of_getElem? (i := 40) rfl))) (mvT hZ (hw _ (List.mem_of_getElem? (i := 41) rfl))) (mvT hZ (hw _ (List.mem_of_getElem? (i := 42) rfl))) (by decide) (backOf (W := 0) (rm7 l Z a0 hw [] (((x1.toUInt64 >>> ((32 : Int32) &&& 0x3f).toInt64.toUInt64).toInt64).toInt32) h0 n0 Z0 ) hZ (hw _ (List.mem_of_getElem? (i := 42) rfl)) (hw _ (List.mem_of_getElem? (i := 41) rfl)) (by decide) (by decide)) (g := (mkF m 22 #[.val (.long x1), .second, .val (.int (((x1.toUInt64 >>> ((32 : Int32) &&& 0x3f).toInt64.toUInt64).toInt64).toInt32))] [(.int (((x1.toUInt64 >>> ((32 : Int32) &&& 0x3f).toInt64.toUInt64).toInt64).toInt32))])) rfl (by rw [hml]; rfl) (argsL := [(.int (((x1.toUInt64 >>> ((32 : Int32) &&& 0x3f).toInt64.toUInt64).toInt64).toInt32))]) (rest := []) (lenOf pd_0 rfl) rfl (by show 2 * 0 + _ ≤ _; exact Nat.le_of_eq rfl) (hb hby d6_22) (fun _ _ => ⟨rfl, e0, (by decide : 0 + 0 ≤ _), (by decide : 0 + 0 ≤ _)⟩)
    dsimp only [Pt.U, Pt.locs, Pt.cells, Pt.slots] at X3 l3 y3 z3 st3 hQ3
    subst l3 y3 z3
    obtain ⟨⟨r1, rfl, l1, u1, v1⟩, Nq3, eq3⟩ := hQ3
    have N3 := Fr.app N0 Nq3
    have v2 := v1 (by omega)
    obtain ⟨fs, hr, hrun, hended, hW, hsame⟩ := X3.leave (v := some (.int r1)) (fun h => by rw [Bd.returns] at h; cases h)
    refine ⟨_, _, pre0 _ ?_, hrun, hended, _, _, rfl, ?_, ⟨_, rfl⟩, hW, hsame.mono (by decide) (by decide)⟩
    · refine sg1 _ ?_
      refine sg2 _ ?_
      refine st3 _ ?_
      exact retI X3 hx Bd.returns (hb hby d6_25) hr
    · show Q6 Z x1 h0 n0 _ T3.heap _
      rw [eq3]; exact ⟨⟨_, rfl, v2, by omega⟩, N3, rfl⟩
theorem d5_0 : decode prog_1_method_7_code 0 = .ok (.iconst 0, 1) := by decide +kernel
theorem d5_1 : decode prog_1_method_7_code 1 = .ok (.bipush 57, 2) := by decide +kernel
theorem d5_3 : decode prog_1_method_7_code 3 = .ok (.lload_n 0, 1) := by decide +kernel
theorem d5_4 : decode prog_1_method_7_code 4 = .ok (.invokestatic 61, 3) := by decide +kernel
theorem d5_7 : decode prog_1_method_7_code 7 = .ok (.isub, 1) := by decide +kernel
theorem d5_8 : decode prog_1_method_7_code 8 = .ok (.invokestatic 64, 3) := by decide +kernel
theorem d5_11 : decode prog_1_method_7_code 11 = .ok (.ireturn, 1) := by decide +kernel
theorem pn_5 : plainName "com/example/cormorant/cormorant/Histogram" = true := by first | (simp [plainName, overriddenIn]; done) | decide +kernel
theorem ef_5 (m : MethodId) (x0 : Int64) : entryFrame m #[(.long x0)] 2 = mkF m 0 #[.val (.long x0), .second] [] := by first | (simp [entryFrame, mkF, argsToLocals, Value.category]; done) | rfl
theorem pd_1 : parseMethodDescriptor "(J)I" = some ⟨[.long], some .int⟩ := by decide +kernel
theorem pd_2 : parseMethodDescriptor "(II)I" = some ⟨[.int, .int], some .int⟩ := by decide +kernel
def Q5 (Z : State) (x1 : Int64) (h0 : Heap) (n0 : Nat) (v : Option Value) (h : Heap) (L : List Loc) : Prop := (∃ r, v = some (.int r) ∧ 0 ≤ r.toInt ∧ r.toInt ≤ 56) ∧ Fr n0 L ∧ h = h0
set_option maxRecDepth 65536 in
set_option maxHeartbeats 40000000 in
theorem rm5 (l : Launch) (Z : State) (a0 : Array Value) (hw : ∀ d ∈ tables_1, d.before a0 Z = true) (ws : List Jvm.Cond) (x1 : Int64) (h0 : Heap) (n0 : Nat) (Z0 : n0 ≤ h0.size) (hx0 : 0 ≤ x1.toInt) :
    MetFree l (⟨"com/example/cormorant/cormorant/Histogram", "blockOf", "(J)I"⟩ : MethodName) (head1 (Jvm.Cond.code (⟨"com/example/cormorant/cormorant/Histogram", "blockOf", "(J)I"⟩ : MethodName) prog_1_method_7_code 2 (some .int) :: ws) ({ frames := 2, cells := 0, slots := 0, locals := 30 } : Room)) (fun a U => a = #[(.long x1)] ∧ Z.Warmed39 U.vm ∧ U.heap = h0) (fun _ _ _ _ _ => True) (fun _ U o U' => ∃ v L, o = .returned v ∧ Q5 Z x1 h0 n0 v U'.heap L ∧ FrameEnd U o U' L ({ frames := 2, cells := 0, slots := 0, locals := 30 } : Room).cells ({ frames := 2, cells := 0, slots := 0, locals := 30 } : Room).slots) := by
  refine MetFree.of_bodySF (plainFor_of_name pn_5) hisR ?_
  intro p e s m args below meth c s₁ Bd hml0 hP hK
  obtain ⟨rfl, hZ, hh⟩ := hP
  have hx := Bd.exec
  have hby := Bd.bytes
  have hml : c.maxLocals = 2 := hml0
  have hown : s.vm.findClass "com/example/cormorant/cormorant/Histogram" = some m.cls := findClass_of_methodNamed Bd.named
  have hnm := (name_of_methodNamed Bd.named Bd.method).1
  have X0 : Stand p l e ({ frames := 2, cells := 0, slots := 0, locals := 30 } : Room) s m #[(.long x1)] below meth c s₁ [] 0 0 := Stand.of_body Bd
  have e0 : s₁.heap = h0 := by rw [← hh, Bd.state]; rfl
  have N0 := Fr.nil n0
  have pre0 : ∀ t, Steps p.tables e below (s₁.setTop (mkF m 0 #[.val (.long x1), .second] [])) t → Steps p.tables e below (s₁.setTop (entryFrame m #[(.long x1)] 2)) t := fun t kq0 => castTop (ef_5 m x1) kq0
  have sg1 : ∀ t, Steps p.tables e below (s₁.setTop (mkF m 4 #[.val (.long x1), .second] [(.long x1), (.int (57 : Int32)), (.int (0 : Int32))])) t → Steps p.tables e below (s₁.setTop (mkF m 0 #[.val (.long x1), .second] [])) t := by
    intro t kt
    refine XS.iconst X0.here hx rfl (hb hby d5_0) ?_
    show Steps p.tables e below (s₁.setTop (mkF m 1 #[.val (.long x1), .second] [(.int (0 : Int32))])) _
    refine XS.bipush X0.here hx rfl (hb hby d5_1) ?_
    show Steps p.tables e below (s₁.setTop (mkF m 3 #[.val (.long x1), .second] [(.int (57 : Int32)), (.int (0 : Int32))])) _
    refine XS.lloadN X0.here hx rfl (hb hby d5_3) rfl ?_
    exact kt
  obtain ⟨_, _, ⟨T2, L2, k2, n2⟩, -, X2, ⟨Lc2, hQ2, l2, y2, z2⟩, st2⟩ := Jvm.LawKit.callS X0 hx (y := (⟨"java/lang/Long", "numberOfLeadingZeros", "(J)I"⟩ : MethodName)) hown (mvT hZ (hw _ (List.mem_of_getElem? (i := 35) rfl))) (mvT hZ (hw _ (List.mem_of_getElem? (i := 36) rfl))) (mvT hZ (hw _ (List.mem_of_getElem? (i := 37) rfl))) (mvT hZ (hw _ (List.mem_of_getElem? (i := 38) rfl))) (by decide) (backOf (W := 2) (rm6 l Z a0 hw [] x1 h0 n0 Z0 hx0) hZ (hw _ (List.mem_of_getElem? (i := 38) rfl)) (hw _ (List.mem_of_getElem? (i := 37) rfl)) (by decide) (by decide)) (g := (mkF m 4 #[.val (.long x1), .second] [(.long x1), (.int (57 : Int32)), (.int (0 : Int32))])) rfl (by rw [hml]; rfl) (argsL := [(.long x1)]) (rest := [(.int (57 : Int32)), (.int (0 : Int32))]) (lenOf pd_1 rfl) rfl (by show 2 * 0 + _ ≤ _; exact Nat.le_of_eq rfl) (hb hby d5_4) (fun _ _ => ⟨rfl, e0, (by decide : 0 + 0 ≤ _), (by decide : 0 + 0 ≤ _)⟩)
  dsimp only [Pt.U, Pt.locs, Pt.cells, Pt.slots] at X2 l2 y2 z2 st2 hQ2
  subst l2 y2 z2
  obtain ⟨⟨r1, rfl, l1, u1⟩, Nq2, eq2⟩ := hQ2
  have N2 := Fr.app N0 Nq2
  have sg3 : ∀ t, Steps p.tables e below (T2.setTop (mkF m 8 #[.val (.long x1), .second] [(.int ((57 : Int32) - r1)), (.int (0 : Int32))])) t → Steps p.tables e below (T2.setTop (mkF m 7 #[.val (.long x1), .second] [(.int r1), (.int (57 : Int32)), (.int (0 : Int32))])) t := by
    intro t kt
    refine XS.isub X2.here hx rfl (hb hby d5_7) rfl ?_
    exact kt
  obtain ⟨_, _, ⟨T4, L4, k4, n4⟩, -, X4, ⟨Lc4, hQ4, l4, y4, z4⟩, st4⟩ := Jvm.LawKit.callS X2 hx (y := (⟨"java/lang/Math", "max", "(II)I"⟩ : MethodName)) hown (mvT hZ (hw _ (List.mem_of_getElem? (i := 44) rfl))) (mvT hZ (hw _ (List.mem_of_getElem? (i := 45) rfl))) (mvT hZ (hw _ (List.mem_of_getElem? (i := 30) rfl))) (mvT hZ (hw _ (List.mem_of_getElem? (i := 46) rfl))) (by decide) (backOf (W := 0) (rm8 l Z a0 hw [] (0 : Int32) ((57 : Int32) - r1) h0 n0 Z0 ) hZ (hw _ (List.mem_of_getElem? (i := 46) rfl)) (hw _ (List.mem_of_getElem? (i := 30) rfl)) (by decide) (by decide)) (g := (mkF m 8 #[.val (.long x1), .second] [(.int ((57 : Int32) - r1)), (.int (0 : Int32))])) rfl (by rw [hml]; rfl) (argsL := [(.int (0 : Int32)), (.int ((57 : Int32) - r1))]) (rest := []) (lenOf pd_2 rfl) rfl (by show 2 * 0 + _ ≤ _; exact Nat.le_of_eq rfl) (hb hby d5_8) (fun _ _ => ⟨rfl, eq2, (by decide : 0 + 0 ≤ _), (by decide : 0 + 0 ≤ _)⟩)
  dsimp only [Pt.U, Pt.locs, Pt.cells, Pt.slots] at X4 l4 y4 z4 st4 hQ4
  subst l4 y4 z4
  obtain ⟨rfl, Nq4, eq4⟩ := hQ4
  have N4 := Fr.app N2 Nq4
  have hbb : 0 ≤ (own_mi (0 : Int32) ((57 : Int32) - r1)).toInt ∧ (own_mi (0 : Int32) ((57 : Int32) - r1)).toInt ≤ 56 := by
    have q := c_isub 57 r1
    have q2 := rng32 ((57 : Int32) - r1)
    have z : (57 : Int32).toInt = 57 := by decide
    have z0 : (0 : Int32).toInt = 0 := by decide
    unfold own_mi
    split <;> rename_i h <;> rw [Int32.lt_iff_toInt_lt] at h <;> constructor <;> omega
  obtain ⟨fs, hr, hrun, hended, hW, hsame⟩ := X4.leave (v := some (.int (own_mi (0 : Int32) ((57 : Int32) - r1)))) (fun h => by rw [Bd.returns] at h; cases h)
  refine ⟨_, _, pre0 _ ?_, hrun, hended, _, _, rfl, ?_, ⟨_, rfl⟩, hW, hsame.mono (by decide) (by decide)⟩
  · refine sg1 _ ?_
    refine st2 _ ?_
    refine sg3 _ ?_
    refine st4 _ ?_
    exact retI X4 hx Bd.returns (hb hby d5_11) hr
  · show Q5 Z x1 h0 n0 _ T4.heap _
    rw [eq4]; exact ⟨⟨_, rfl, hbb.1, hbb.2⟩, N4, rfl⟩
theorem d9_0 : decode prog_1_method_8_code 0 = .ok (.iconst 0, 1) := by decide +kernel
theorem d9_1 : decode prog_1_method_8_code 1 = .ok (.iload_n 0, 1) := by decide +kernel
theorem d9_2 : decode prog_1_method_8_code 2 = .ok (.iconst 1, 1) := by decide +kernel
theorem d9_3 : decode prog_1_method_8_code 3 = .ok (.isub, 1) := by decide +kernel
theorem d9_4 : decode prog_1_method_8_code 4 = .ok (.invokestatic 64, 3) := by decide +kernel
theorem d9_7 : decode prog_1_method_8_code 7 = .ok (.ireturn, 1) := by decide +kernel
theorem pn_9 : plainName "com/example/cormorant/cormorant/Histogram" = true := by first | (simp [plainName, overriddenIn]; done) | decide +kernel
theorem ef_9 (m : MethodId) (x0 : Int32) : entryFrame m #[(.int x0)] 1 = mkF m 0 #[.val (.int x0)] [] := by first | (simp [entryFrame, mkF, argsToLocals, Value.category]; done) | rfl
def Q9 (Z : State) (x1 : Int32) (h0 : Heap) (n0 : Nat) (v : Option Value) (h : Heap) (L : List Loc) : Prop := v = some (.int (own_mi (0 : Int32) (x1 - (1 : Int32)))) ∧ Fr n0 L ∧ h = h0
set_option maxRecDepth 65536 in
set_option maxHeartbeats 40000000 in
theorem rm9 (l : Launch) (Z : State) (a0 : Array Value) (hw : ∀ d ∈ tables_1, d.before a0 Z = true) (ws : List Jvm.Cond) (x1 : Int32) (h0 : Heap) (n0 : Nat) (Z0 : n0 ≤ h0.size)  :
    MetFree l (⟨"com/example/cormorant/cormorant/Histogram", "shiftOf", "(I)I"⟩ : MethodName) (head1 (Jvm.Cond.code (⟨"com/example/cormorant/cormorant/Histogram", "shiftOf", "(I)I"⟩ : MethodName) prog_1_method_8_code 1 (some .int) :: ws) ({ frames := 1, cells := 0, slots := 0, locals := 13 } : Room)) (fun a U => a = #[(.int x1)] ∧ Z.Warmed39 U.vm ∧ U.heap = h0) (fun _ _ _ _ _ => True) (fun _ U o U' => ∃ v L, o = .returned v ∧ Q9 Z x1 h0 n0 v U'.heap L ∧ FrameEnd U o U' L ({ frames := 1, cells := 0, slots := 0, locals := 13 } : Room).cells ({ frames := 1, cells := 0, slots := 0, locals := 13 } : Room).slots) := by
  refine MetFree.of_bodySF (plainFor_of_name pn_9) hisR ?_
  intro p e s m args below meth c s₁ Bd hml0 hP hK
  obtain ⟨rfl, hZ, hh⟩ := hP
  have hx := Bd.exec
  have hby := Bd.bytes
  have hml : c.maxLocals = 1 := hml0
  have hown : s.vm.findClass "com/example/cormorant/cormorant/Histogram" = some m.cls := findClass_of_methodNamed Bd.named
  have hnm := (name_of_methodNamed Bd.named Bd.method).1
  have X0 : Stand p l e ({ frames := 1, cells := 0, slots := 0, locals := 13 } : Room) s m #[(.int x1)] below meth c s₁ [] 0 0 := Stand.of_body Bd
  have e0 : s₁.heap = h0 := by rw [← hh, Bd.state]; rfl
  have N0 := Fr.nil n0
  have pre0 : ∀ t, Steps p.tables e below (s₁.setTop (mkF m 0 #[.val (.int x1)] [])) t → Steps p.tables e below (s₁.setTop (entryFrame m #[(.int x1)] 1)) t := fun t kq0 => castTop (ef_9 m x1) kq0
  have sg1 : ∀ t, Steps p.tables e below (s₁.setTop (mkF m 4 #[.val (.int x1)] [(.int (x1 - (1 : Int32))), (.int (0 : Int32))])) t → Steps p.tables e below (s₁.setTop (mkF m 0 #[.val (.int x1)] [])) t := by
    intro t kt
    refine XS.iconst X0.here hx rfl (hb hby d9_0) ?_
    show Steps p.tables e below (s₁.setTop (mkF m 1 #[.val (.int x1)] [(.int (0 : Int32))])) _
    refine XS.iloadN X0.here hx rfl (hb hby d9_1) rfl ?_
    show Steps p.tables e below (s₁.setTop (mkF m 2 #[.val (.int x1)] [(.int x1), (.int (0 : Int32))])) _
    refine XS.iconst X0.here hx rfl (hb hby d9_2) ?_
    show Steps p.tables e below (s₁.setTop (mkF m 3 #[.val (.int x1)] [(.int (1 : Int32)), (.int x1), (.int (0 : Int32))])) _
    refine XS.isub X0.here hx rfl (hb hby d9_3) rfl ?_
    exact kt
  obtain ⟨_, _, ⟨T2, L2, k2, n2⟩, -, X2, ⟨Lc2, hQ2, l2, y2, z2⟩, st2⟩ := Jvm.LawKit.callS X0 hx (y := (⟨"java/lang/Math", "max", "(II)I"⟩ : MethodName)) hown (mvT hZ (hw _ (List.mem_of_getElem? (i := 44) rfl))) (mvT hZ (hw _ (List.mem_of_getElem? (i := 45) rfl))) (mvT hZ (hw _ (List.mem_of_getElem? (i := 30) rfl))) (mvT hZ (hw _ (List.mem_of_getElem? (i := 46) rfl))) (by decide) (backOf (W := 0) (rm8 l Z a0 hw [] (0 : Int32) (x1 - (1 : Int32)) h0 n0 Z0 ) hZ (hw _ (List.mem_of_getElem? (i := 46) rfl)) (hw _ (List.mem_of_getElem? (i := 30) rfl)) (by decide) (by decide)) (g := (mkF m 4 #[.val (.int x1)] [(.int (x1 - (1 : Int32))), (.int (0 : Int32))])) rfl (by rw [hml]; rfl) (argsL := [(.int (0 : Int32)), (.int (x1 - (1 : Int32)))]) (rest := []) (lenOf pd_2 rfl) rfl (by show 2 * 0 + _ ≤ _; exact Nat.le_of_eq rfl) (hb hby d9_4) (fun _ _ => ⟨rfl, e0, (by decide : 0 + 0 ≤ _), (by decide : 0 + 0 ≤ _)⟩)
  dsimp only [Pt.U, Pt.locs, Pt.cells, Pt.slots] at X2 l2 y2 z2 st2 hQ2
  subst l2 y2 z2
  obtain ⟨rfl, Nq2, eq2⟩ := hQ2
  have N2 := Fr.app N0 Nq2
  obtain ⟨fs, hr, hrun, hended, hW, hsame⟩ := X2.leave (v := some (.int (own_mi (0 : Int32) (x1 - (1 : Int32))))) (fun h => by rw [Bd.returns] at h; cases h)
  refine ⟨_, _, pre0 _ ?_, hrun, hended, _, _, rfl, ?_, ⟨_, rfl⟩, hW, hsame.mono (by decide) (by decide)⟩
  · refine sg1 _ ?_
    refine st2 _ ?_
    exact retI X2 hx Bd.returns (hb hby d9_7) hr
  · show Q9 Z x1 h0 n0 _ T2.heap _
    rw [eq2]; exact ⟨rfl, N2, rfl⟩

theorem own_m63 : Mag64 1087 (4890909195324358656 : UInt64) := by unfold Mag64; decide
def own_mn (sw sm ct : Int64) : UInt64 := FP.ddiv (FP.dadd (FP.dmul (FP.l2d sw) (4890909195324358656 : UInt64)) (FP.l2d sm)) (FP.l2d ct)
theorem own_n1 (sw : Int64) : Mag64 1153 (FP.dmul (FP.l2d sw) (4890909195324358656 : UInt64)) := (dmul_mag (l2d_mag sw) own_m63 (by decide) (by decide)).mono (by decide)
theorem own_n2 (sw sm : Int64) : Mag64 1155 (FP.dadd (FP.dmul (FP.l2d sw) (4890909195324358656 : UInt64)) (FP.l2d sm)) := (dadd_mag (own_n1 sw) ((l2d_mag sm).mono (by decide)) (by decide)).mono (by decide)
theorem own_n3 (sw sm : Int64) {ct : Int64} (h : ct ≠ 0) : Mag64 1156 (own_mn sw sm ct) := (Jvm.RoadKit.ddiv_mag (own_n2 sw sm) (l2d_big h) (by decide) (by decide)).mono (by decide)
theorem own_k1 (sw : Int64) : NoNaN64 (FP.dmul (FP.l2d sw) (4890909195324358656 : UInt64)) := ((own_n1 sw).fin (by decide)).noNaN
theorem own_k2 (sw sm : Int64) : NoNaN64 (FP.dadd (FP.dmul (FP.l2d sw) (4890909195324358656 : UInt64)) (FP.l2d sm)) := ((own_n2 sw sm).fin (by decide)).noNaN
theorem own_k3 (sw sm : Int64) {ct : Int64} (h : ct ≠ 0) : NoNaN64 (own_mn sw sm ct) := ((own_n3 sw sm h).fin (by decide)).noNaN
theorem d10_0 : decode prog_1_method_4_code 0 = .ok (.aload_n 0, 1) := by decide +kernel
theorem d10_1 : decode prog_1_method_4_code 1 = .ok (.getfield 24, 3) := by decide +kernel
theorem d10_4 : decode prog_1_method_4_code 4 = .ok (.l2d, 1) := by decide +kernel
theorem d10_5 : decode prog_1_method_4_code 5 = .ok (.ldc2_w 48, 3) := by decide +kernel
theorem d10_8 : decode prog_1_method_4_code 8 = .ok (.dmul, 1) := by decide +kernel
theorem d10_9 : decode prog_1_method_4_code 9 = .ok (.aload_n 0, 1) := by decide +kernel
theorem d10_10 : decode prog_1_method_4_code 10 = .ok (.getfield 20, 3) := by decide +kernel
theorem d10_13 : decode prog_1_method_4_code 13 = .ok (.l2d, 1) := by decide +kernel
theorem d10_14 : decode prog_1_method_4_code 14 = .ok (.dadd, 1) := by decide +kernel
theorem d10_15 : decode prog_1_method_4_code 15 = .ok (.aload_n 0, 1) := by decide +kernel
theorem d10_16 : decode prog_1_method_4_code 16 = .ok (.getfield 45, 3) := by decide +kernel
theorem d10_19 : decode prog_1_method_4_code 19 = .ok (.l2d, 1) := by decide +kernel
theorem d10_20 : decode prog_1_method_4_code 20 = .ok (.ddiv, 1) := by decide +kernel
theorem d10_21 : decode prog_1_method_4_code 21 = .ok (.dreturn, 1) := by decide +kernel
theorem pn_10 : plainName "com/example/cormorant/cormorant/Histogram" = true := by first | (simp [plainName, overriddenIn]; done) | decide +kernel
theorem ef_10 (m : MethodId) (x0 : Addr) : entryFrame m #[(.ref x0)] 1 = mkF m 0 #[.val (.ref x0)] [] := by first | (simp [entryFrame, mkF, argsToLocals, Value.category]; done) | rfl
def Q10 (Z : State) (a1 : Addr) (sw sm ct : Int64) (h0 : Heap) (n0 : Nat) (v : Option Value) (h : Heap) (L : List Loc) : Prop := v = some (.double (own_mn sw sm ct)) ∧ Fr n0 L ∧ h = h0
set_option maxRecDepth 65536 in
set_option maxHeartbeats 40000000 in
theorem rm10 (l : Launch) (Z : State) (a0 : Array Value) (hw : ∀ d ∈ tables_1, d.before a0 Z = true) (ws : List Jvm.Cond) (a1 : Addr) (sw sm ct : Int64) (h0 : Heap) (n0 : Nat) (Z0 : n0 ≤ h0.size) (Fw : Fld Z h0 a1 "com/example/cormorant/cormorant/Histogram" "sumWraps" "J" (.long sw)) (Fs : Fld Z h0 a1 "com/example/cormorant/cormorant/Histogram" "sum" "J" (.long sm)) (Fc : Fld Z h0 a1 "com/example/cormorant/cormorant/Histogram" "count" "J" (.long ct)) (hct : ct ≠ 0) :
    MetFree l (⟨"com/example/cormorant/cormorant/Histogram", "mean", "()D"⟩ : MethodName) (head1 (Jvm.Cond.code (⟨"com/example/cormorant/cormorant/Histogram", "mean", "()D"⟩ : MethodName) prog_1_method_4_code 1 (some .double) :: ws) ({ frames := 0, cells := 0, slots := 0, locals := 0 } : Room)) (fun a U => a = #[(.ref a1)] ∧ Z.Warmed39 U.vm ∧ U.heap = h0) (fun _ _ _ _ _ => True) (fun _ U o U' => ∃ v L, o = .returned v ∧ Q10 Z a1 sw sm ct h0 n0 v U'.heap L ∧ FrameEnd U o U' L ({ frames := 0, cells := 0, slots := 0, locals := 0 } : Room).cells ({ frames := 0, cells := 0, slots := 0, locals := 0 } : Room).slots) := by
  refine MetFree.of_bodySF (plainFor_of_name pn_10) hisR ?_
  intro p e s m args below meth c s₁ Bd hml0 hP hK
  obtain ⟨rfl, hZ, hh⟩ := hP
  have hx := Bd.exec
  have hby := Bd.bytes
  have hml : c.maxLocals = 1 := hml0
  have hown : s.vm.findClass "com/example/cormorant/cormorant/Histogram" = some m.cls := findClass_of_methodNamed Bd.named
  have hnm := (name_of_methodNamed Bd.named Bd.method).1
  have X0 : Stand p l e ({ frames := 0, cells := 0, slots := 0, locals := 0 } : Room) s m #[(.ref a1)] below meth c s₁ [] 0 0 := Stand.of_body Bd
  have e0 : s₁.heap = h0 := by rw [← hh, Bd.state]; rfl
  have N0 := Fr.nil n0
  have pre0 : ∀ t, Steps p.tables e below (s₁.setTop (mkF m 0 #[.val (.ref a1)] [])) t → Steps p.tables e below (s₁.setTop (entryFrame m #[(.ref a1)] 1)) t := fun t kq0 => castTop (ef_10 m a1) kq0
  have sg1 : ∀ t, Steps p.tables e below (s₁.setTop (mkF m 1 #[.val (.ref a1)] [(.ref a1)])) t → Steps p.tables e below (s₁.setTop (mkF m 0 #[.val (.ref a1)] [])) t := by
    intro t kt
    refine XS.aloadN X0.here hx rfl (hb hby d10_0) rfl rfl ?_
    exact kt
  obtain ⟨T2, X2, e2, st2⟩ := getF X0 hx hZ hown (host := "") (Or.inl (hw _ (List.mem_of_getElem? (i := 24) rfl))) Via.refl e0 Fw (g := (mkF m 1 #[.val (.ref a1)] [(.ref a1)])) rfl rfl (hb hby d10_1)
  have sg3 : ∀ t, Steps p.tables e below (T2.setTop (mkF m 10 #[.val (.ref a1)] [(.ref a1), (.double (FP.dmul (FP.l2d sw) (4890909195324358656 : UInt64)))])) t → Steps p.tables e below (T2.setTop (mkF m 4 #[.val (.ref a1)] [(.long sw)])) t := by
    intro t kt
    refine XS.l2dS X2.here hx rfl (hb hby d10_4) rfl (v := (FP.l2d sw)) rfl ?_
    show Steps p.tables e below (T2.setTop (mkF m 5 #[.val (.ref a1)] [(.double (FP.l2d sw))])) _
    refine X2.ldc2DoubleC hx hown (mvT hZ (hw _ (List.mem_of_getElem? (i := 63) rfl))) (g := (mkF m 5 #[.val (.ref a1)] [(.double (FP.l2d sw))])) rfl (hb hby d10_5) _ ?_
    show Steps p.tables e below (T2.setTop (mkF m 8 #[.val (.ref a1)] [(.double (4890909195324358656 : UInt64)), (.double (FP.l2d sw))])) _
    refine XS.dmulS X2.here hx rfl (hb hby d10_8) rfl (own_k1 sw) (v := (FP.dmul (FP.l2d sw) (4890909195324358656 : UInt64))) rfl ?_
    show Steps p.tables e below (T2.setTop (mkF m 9 #[.val (.ref a1)] [(.double (FP.dmul (FP.l2d sw) (4890909195324358656 : UInt64)))])) _
    refine XS.aloadN X2.here hx rfl (hb hby d10_9) rfl rfl ?_
    exact kt
  obtain ⟨T4, X4, e4, st4⟩ := getF X2 hx hZ hown (host := "") (Or.inl (hw _ (List.mem_of_getElem? (i := 22) rfl))) Via.refl e2 Fs (g := (mkF m 10 #[.val (.ref a1)] [(.ref a1), (.double (FP.dmul (FP.l2d sw) (4890909195324358656 : UInt64)))])) rfl rfl (hb hby d10_10)
  have sg5 : ∀ t, Steps p.tables e below (T4.setTop (mkF m 16 #[.val (.ref a1)] [(.ref a1), (.double (FP.dadd (FP.dmul (FP.l2d sw) (4890909195324358656 : UInt64)) (FP.l2d sm)))])) t → Steps p.tables e below (T4.setTop (mkF m 13 #[.val (.ref a1)] [(.long sm), (.double (FP.dmul (FP.l2d sw) (4890909195324358656 : UInt64)))])) t := by
    intro t kt
    refine XS.l2dS X4.here hx rfl (hb hby d10_13) rfl (v := (FP.l2d sm)) rfl ?_
    show Steps p.tables e below (T4.setTop (mkF m 14 #[.val (.ref a1)] [(.double (FP.l2d sm)), (.double (FP.dmul (FP.l2d sw) (4890909195324358656 : UInt64)))])) _
    refine XS.daddS X4.here hx rfl (hb hby d10_14) rfl (own_k2 sw sm) (v := (FP.dadd (FP.dmul (FP.l2d sw) (4890909195324358656 : UInt64)) (FP.l2d sm))) rfl ?_
    show Steps p.tables e below (T4.setTop (mkF m 15 #[.val (.ref a1)] [(.double (FP.dadd (FP.dmul (FP.l2d sw) (4890909195324358656 : UInt64)) (FP.l2d sm)))])) _
    refine XS.aloadN X4.here hx rfl (hb hby d10_15) rfl rfl ?_
    exact kt
  obtain ⟨T6, X6, e6, st6⟩ := getF X4 hx hZ hown (host := "") (Or.inl (hw _ (List.mem_of_getElem? (i := 52) rfl))) Via.refl e4 Fc (g := (mkF m 16 #[.val (.ref a1)] [(.ref a1), (.double (FP.dadd (FP.dmul (FP.l2d sw) (4890909195324358656 : UInt64)) (FP.l2d sm)))])) rfl rfl (hb hby d10_16)
  have sg7 : ∀ t, Steps p.tables e below (T6.setTop (mkF m 21 #[.val (.ref a1)] [(.double (FP.ddiv (FP.dadd (FP.dmul (FP.l2d sw) (4890909195324358656 : UInt64)) (FP.l2d sm)) (FP.l2d ct)))])) t → Steps p.tables e below (T6.setTop (mkF m 19 #[.val (.ref a1)] [(.long ct), (.double (FP.dadd (FP.dmul (FP.l2d sw) (4890909195324358656 : UInt64)) (FP.l2d sm)))])) t := by
    intro t kt
    refine XS.l2dS X6.here hx rfl (hb hby d10_19) rfl (v := (FP.l2d ct)) rfl ?_
    show Steps p.tables e below (T6.setTop (mkF m 20 #[.val (.ref a1)] [(.double (FP.l2d ct)), (.double (FP.dadd (FP.dmul (FP.l2d sw) (4890909195324358656 : UInt64)) (FP.l2d sm)))])) _
    refine XS.ddivS X6.here hx rfl (hb hby d10_20) rfl (own_k3 sw sm hct) (v := (FP.ddiv (FP.dadd (FP.dmul (FP.l2d sw) (4890909195324358656 : UInt64)) (FP.l2d sm)) (FP.l2d ct))) rfl ?_
    exact kt
  obtain ⟨fs, hr, hrun, hended, hW, hsame⟩ := X6.leave (v := some (.double (FP.ddiv (FP.dadd (FP.dmul (FP.l2d sw) (4890909195324358656 : UInt64)) (FP.l2d sm)) (FP.l2d ct)))) (fun h => by rw [Bd.returns] at h; cases h)
  refine ⟨_, _, pre0 _ ?_, hrun, hended, _, _, rfl, ?_, ⟨_, rfl⟩, hW, hsame.mono (by decide) (by decide)⟩
  · refine sg1 _ ?_
    refine st2 _ ?_
    refine sg3 _ ?_
    refine st4 _ ?_
    refine sg5 _ ?_
    refine st6 _ ?_
    refine sg7 _ ?_
    exact retD X6 hx Bd.returns (hb hby d10_21) hr
  · show Q10 Z a1 sw sm ct h0 n0 _ T6.heap _
    rw [e6]; exact ⟨rfl, N0, rfl⟩

def own_longs (c : Cell) : Prop := ∀ j, j < c.slots.size → ∃ x, c.slots[j]? = some (.long x)
def own_row (Z : State) (h : Heap) (n0 : Nat) (v : Value) : Prop := v = .null ∨ ∃ (y : Addr) (cy : Cell), v = .ref y ∧ n0 ≤ y ∧ Arr Z h y cy .long ∧ cy.slots.size = 128 ∧ own_longs cy
def own_nan (Z : State) (h : Heap) (ar : Addr) (i0 i1 i2 : Int64) : Prop := ∃ clA : Cell, Arr Z h ar clA .long ∧ clA.slots.size = 3 ∧ clA.slots[0]? = some (.long i0) ∧ clA.slots[1]? = some (.long i1) ∧ clA.slots[2]? = some (.long i2)
def own_bks (Z : State) (h : Heap) (n0 : Nat) (B : Addr) : Prop := ∃ clB : Cell, Arr Z h B clB (.array .long) ∧ clB.slots.size = 57 ∧ OvrA Z clB.cls .long "[J" ∧ (∀ j, j < 57 → ∃ v, clB.slots[j]? = some v ∧ own_row Z h n0 v)
def own_cnt (Z : State) (h : Heap) (D : Addr) : Prop := ∃ clC : Cell, Arr Z h D clC .long ∧ clC.slots.size = 57 ∧ own_longs clC
def own_arrs (Z : State) (h : Heap) (n0 : Nat) (ar B D : Addr) (i0 i1 i2 : Int64) : Prop := own_nan Z h ar i0 i1 i2 ∧ own_bks Z h n0 B ∧ own_cnt Z h D ∧ n0 ≤ B ∧ n0 ≤ D
def own_obj (Z : State) (h : Heap) (a1 B D : Addr) (sm sw mx ct : Int64) : Prop := Exa Z h a1 "com/example/cormorant/cormorant/Histogram" ∧ Fld Z h a1 "com/example/cormorant/cormorant/Histogram" "buckets" "[[J" (.ref B) ∧ Fld Z h a1 "com/example/cormorant/cormorant/Histogram" "blockCounts" "[J" (.ref D) ∧ Fld Z h a1 "com/example/cormorant/cormorant/Histogram" "sum" "J" (.long sm) ∧ Fld Z h a1 "com/example/cormorant/cormorant/Histogram" "sumWraps" "J" (.long sw) ∧ Fld Z h a1 "com/example/cormorant/cormorant/Histogram" "max" "J" (.long mx) ∧ Fld Z h a1 "com/example/cormorant/cormorant/Histogram" "count" "J" (.long ct)
section Inv
variable {Z : State} {h h' : Heap} {n0 : Nat} {ar B D z a1 : Addr} {i0 i1 i2 sm sw mx ct : Int64}
theorem own_ne {a b : Addr} {ca cb : Cell} {ta tb : FieldType} (A : Arr Z h a ca ta) (A' : Arr Z h b cb tb) (hs : ca.slots.size ≠ cb.slots.size) : a ≠ b := by
  rintro rfl
  cases A.1.symm.trans A'.1
  exact hs rfl
theorem own_neT {a b : Addr} {ca cb : Cell} (A : Arr Z h a ca (.array .long)) (A' : Arr Z h b cb .long) : a ≠ b := by
  rintro rfl
  cases A.1.symm.trans A'.1
  obtain ⟨-, k, h1, comp, h2⟩ := A.2.1
  obtain ⟨-, k', h1', comp', h2'⟩ := A'.2.1
  cases h1.symm.trans h1'
  rw [h2] at h2'
  cases h2'
theorem own_longs_set {c : Cell} (H : own_longs c) (sl : Nat) (x : Int64) : own_longs (c.setSlot sl (.long x)) := by
  intro j hj
  rw [sz_set] at hj
  by_cases q : sl = j
  · subst q
    exact ⟨x, by simp [Cell.setSlot, hj]⟩
  · obtain ⟨y, hy⟩ := H j hj
    exact ⟨y, by simp only [Cell.setSlot]; rw [Array.getElem?_setIfInBounds_ne q]; exact hy⟩
theorem own_row_ext (E : Ext h h') {v : Value} (H : own_row Z h n0 v) : own_row Z h' n0 v := by
  rcases H with rfl | ⟨y, cy, rfl, g, A, r⟩
  · exact Or.inl rfl
  · exact Or.inr ⟨y, cy, rfl, g, A.ext E, r⟩
theorem own_row_long {sl : Nat} {x : Int64} (W : Wr h h' z sl (.long x)) {v : Value} (H : own_row Z h n0 v) : own_row Z h' n0 v := by
  rcases H with rfl | ⟨y, cy, rfl, g, A, s, r⟩
  · exact Or.inl rfl
  · by_cases q : y = z
    · subst q
      exact Or.inr ⟨y, _, rfl, g, A.same W, by rw [sz_set]; exact s, own_longs_set r _ _⟩
    · exact Or.inr ⟨y, cy, rfl, g, A.other W q, s, r⟩
theorem own_row_far {sl : Nat} {w : Value} (W : Wr h h' z sl w) {v : Value} (H : own_row Z h n0 v) (hn : ∀ (y : Addr) (cy : Cell), Arr Z h y cy .long → cy.slots.size = 128 → y ≠ z) : own_row Z h' n0 v := by
  rcases H with rfl | ⟨y, cy, rfl, g, A, s, r⟩
  · exact Or.inl rfl
  · exact Or.inr ⟨y, cy, rfl, g, A.other W (hn y cy A s), s, r⟩
theorem own_nan_ext (E : Ext h h') (H : own_nan Z h ar i0 i1 i2) : own_nan Z h' ar i0 i1 i2 := by
  obtain ⟨c, A, r⟩ := H; exact ⟨c, A.ext E, r⟩
theorem own_nan_far {sl : Nat} {w : Value} (W : Wr h h' z sl w) (q : ar ≠ z) (H : own_nan Z h ar i0 i1 i2) : own_nan Z h' ar i0 i1 i2 := by
  obtain ⟨c, A, r⟩ := H; exact ⟨c, A.other W q, r⟩
theorem own_bks_ext (E : Ext h h') (H : own_bks Z h n0 B) : own_bks Z h' n0 B := by
  obtain ⟨c, A, s, o, r⟩ := H
  exact ⟨c, A.ext E, s, o, fun j hj => by obtain ⟨v, h1, h2⟩ := r j hj; exact ⟨v, h1, own_row_ext E h2⟩⟩
theorem own_cnt_ext (E : Ext h h') (H : own_cnt Z h D) : own_cnt Z h' D := by
  obtain ⟨c, A, r⟩ := H; exact ⟨c, A.ext E, r⟩
theorem own_cnt_far {sl : Nat} {w : Value} (W : Wr h h' z sl w) (q : D ≠ z) (H : own_cnt Z h D) : own_cnt Z h' D := by
  obtain ⟨c, A, r⟩ := H; exact ⟨c, A.other W q, r⟩
theorem own_arrs_ext (E : Ext h h') (H : own_arrs Z h n0 ar B D i0 i1 i2) : own_arrs Z h' n0 ar B D i0 i1 i2 := ⟨own_nan_ext E H.1, own_bks_ext E H.2.1, own_cnt_ext E H.2.2.1, H.2.2.2⟩
/-- a long is written into a row -/
theorem own_arrs_row {sl : Nat} {x : Int64} {cz : Cell} (W : Wr h h' z sl (.long x)) (A : Arr Z h z cz .long) (s : cz.slots.size = 128) (H : own_arrs Z h n0 ar B D i0 i1 i2) : own_arrs Z h' n0 ar B D i0 i1 i2 := by
  obtain ⟨H1, ⟨cB, B1, B2, B3, B4⟩, H3, H4⟩ := H
  have q1 : ar ≠ z := by obtain ⟨c, A', s', -⟩ := H1; exact own_ne A' A (by omega)
  have q2 : B ≠ z := own_ne B1 A (by omega)
  have q3 : D ≠ z := by obtain ⟨c, A', s', -⟩ := H3; exact own_ne A' A (by omega)
  exact ⟨own_nan_far W q1 H1, ⟨cB, B1.other W q2, B2, B3, fun j hj => by obtain ⟨v, h1, h2⟩ := B4 j hj; exact ⟨v, h1, own_row_long W h2⟩⟩, own_cnt_far W q3 H3, H4⟩
/-- a long is written into the counts -/
theorem own_arrs_cnt {sl : Nat} {x : Int64} (W : Wr h h' D sl (.long x)) (H : own_arrs Z h n0 ar B D i0 i1 i2) : own_arrs Z h' n0 ar B D i0 i1 i2 := by
  obtain ⟨H1, ⟨cB, B1, B2, B3, B4⟩, ⟨cC, C1, C2, C3⟩, H4⟩ := H
  have q1 : ar ≠ D := by obtain ⟨c, A', s', -⟩ := H1; exact own_ne A' C1 (by omega)
  exact ⟨own_nan_far W q1 H1, ⟨cB, B1.other W (own_neT B1 C1), B2, B3, fun j hj => by obtain ⟨v, h1, h2⟩ := B4 j hj; exact ⟨v, h1, own_row_long W h2⟩⟩, ⟨_, C1.same W, by rw [sz_set]; exact C2, own_longs_set C3 _ _⟩, H4⟩
/-- a row is written into the buckets -/
theorem own_arrs_bks {sl : Nat} {y : Addr} (W : Wr h h' B sl (.ref y)) (r : own_row Z h n0 (.ref y)) (H : own_arrs Z h n0 ar B D i0 i1 i2) : own_arrs Z h' n0 ar B D i0 i1 i2 := by
  obtain ⟨H1, ⟨cB, B1, B2, B3, B4⟩, ⟨cC, C1, C2, C3⟩, H4⟩ := H
  have q1 : ar ≠ B := by obtain ⟨c, A', s', -⟩ := H1; exact own_ne A' B1 (by omega)
  have far : ∀ (y : Addr) (cy : Cell), Arr Z h y cy .long → cy.slots.size = 128 → y ≠ B := fun y cy A s => own_ne A B1 (by omega)
  refine ⟨own_nan_far W q1 H1, ⟨_, B1.same W, by rw [sz_set]; exact B2, B3, fun j hj => ?_⟩, ⟨cC, C1.other W (Ne.symm (own_neT B1 C1)), C2, C3⟩, H4⟩
  by_cases q : sl = j
  · subst q
    exact ⟨.ref y, by simp [Cell.setSlot, B2, hj], own_row_far W r far⟩
  · obtain ⟨v, h1, h2⟩ := B4 j hj
    exact ⟨v, by simp only [Cell.setSlot]; rw [Array.getElem?_setIfInBounds_ne q]; exact h1, own_row_far W h2 far⟩
/-- a field of the histogram is written -/
theorem own_arrs_obj {sl : Nat} {w : Value} {a0 : Array Value} {k : Nat} (W : Wr h h' a1 sl w) (X : Exa Z h a1 "com/example/cormorant/cormorant/Histogram") (wi : (Jvm.Cond.instantiable "com/example/cormorant/cormorant/Histogram" k).before a0 Z = true) (H : own_arrs Z h n0 ar B D i0 i1 i2) : own_arrs Z h' n0 ar B D i0 i1 i2 := by
  obtain ⟨H1, ⟨cB, B1, B2, B3, B4⟩, ⟨cC, C1, C2, C3⟩, H4⟩ := H
  have q1 : ar ≠ a1 := by obtain ⟨c, A', -⟩ := H1; exact Ne.symm (ne_arr X wi A')
  exact ⟨own_nan_far W q1 H1, ⟨cB, B1.other W (Ne.symm (ne_arr X wi B1)), B2, B3, fun j hj => by obtain ⟨v, h1, h2⟩ := B4 j hj; exact ⟨v, h1, own_row_far W h2 fun y cy A _ => Ne.symm (ne_arr X wi A)⟩⟩, ⟨cC, C1.other W (Ne.symm (ne_arr X wi C1)), C2, C3⟩, H4⟩
theorem own_obj_ext (E : Ext h h') (H : own_obj Z h a1 B D sm sw mx ct) : own_obj Z h' a1 B D sm sw mx ct := by
  obtain ⟨h1, h2, h3, h4, h5, h6, h7⟩ := H
  exact ⟨h1.ext E, h2.ext E, h3.ext E, h4.ext E, h5.ext E, h6.ext E, h7.ext E⟩
theorem own_obj_far {sl : Nat} {w : Value} {cz : Cell} {ty : FieldType} {a0 : Array Value} {k : Nat} (W : Wr h h' z sl w) (A : Arr Z h z cz ty) (wi : (Jvm.Cond.instantiable "com/example/cormorant/cormorant/Histogram" k).before a0 Z = true) (H : own_obj Z h a1 B D sm sw mx ct) : own_obj Z h' a1 B D sm sw mx ct := by
  obtain ⟨h1, h2, h3, h4, h5, h6, h7⟩ := H
  have q : a1 ≠ z := ne_arr h1 wi A
  exact ⟨h1.wr W, h2.other W (Or.inl q), h3.other W (Or.inl q), h4.other W (Or.inl q), h5.other W (Or.inl q), h6.other W (Or.inl q), h7.other W (Or.inl q)⟩
theorem own_inb {b : Int32} {c : Cell} {N : Nat} (h0 : 0 ≤ b.toInt) (h1 : b.toInt < N) (s : c.slots.size = N) : ¬ (b < 0 ∨ c.slots.size ≤ b.toNatClampNeg) ∧ b.toNatClampNeg < N := by
  have e : (0 : Int32).toInt = 0 := by decide
  rw [Int32.lt_iff_toInt_lt, s]
  simp only [Int32.toNatClampNeg]
  omega
theorem own_new_longs (k : ClassId) : own_longs (newA k .long (128 : Int32)) := by
  intro j hj
  rw [sz_new] at hj
  refine ⟨0, ?_⟩
  have e : (128 : Int32).toNatClampNeg = 128 := by decide
  rw [e] at hj
  simp [newA, e, hj, defaultValue]
theorem own_new_longs57 (k : ClassId) : own_longs (newA k .long (57 : Int32)) := by
  intro j hj
  rw [sz_new] at hj
  refine ⟨0, ?_⟩
  have e : (57 : Int32).toNatClampNeg = 57 := by decide
  rw [e] at hj
  simp [newA, e, hj, defaultValue]
end Inv
def own_nano (i0 i1 i2 : Int64) : Nat → Int64
  | 0 => i0
  | 1 => i1
  | _ => i2
theorem own_nan_at {Z : State} {h : Heap} {ar : Addr} {i0 i1 i2 : Int64} (H : own_nan Z h ar i0 i1 i2) {i : Nat} (hi : i < 3) : ∃ clA : Cell, Arr Z h ar clA .long ∧ clA.slots.size = 3 ∧ clA.slots[i]? = some (.long (own_nano i0 i1 i2 i)) := by
  obtain ⟨c, A, s, p0, p1, p2⟩ := H
  refine ⟨c, A, s, ?_⟩
  match i, hi with
  | 0, _ => exact p0
  | 1, _ => exact p1
  | 2, _ => exact p2
theorem d3_0 : decode prog_1_method_2_code 0 = .ok (.aload_n 0, 1) := by decide +kernel
theorem d3_1 : decode prog_1_method_2_code 1 = .ok (.getfield 20, 3) := by decide +kernel
theorem d3_4 : decode prog_1_method_2_code 4 = .ok (.lstore 4, 2) := by decide +kernel
theorem d3_6 : decode prog_1_method_2_code 6 = .ok (.aload_n 0, 1) := by decide +kernel
theorem d3_7 : decode prog_1_method_2_code 7 = .ok (.getfield 24, 3) := by decide +kernel
theorem d3_10 : decode prog_1_method_2_code 10 = .ok (.lstore 6, 2) := by decide +kernel
theorem d3_12 : decode prog_1_method_2_code 12 = .ok (.aload_n 0, 1) := by decide +kernel
theorem d3_13 : decode prog_1_method_2_code 13 = .ok (.getfield 27, 3) := by decide +kernel
theorem d3_16 : decode prog_1_method_2_code 16 = .ok (.lstore 8, 2) := by decide +kernel
theorem d3_18 : decode prog_1_method_2_code 18 = .ok (.iload_n 2, 1) := by decide +kernel
theorem d3_19 : decode prog_1_method_2_code 19 = .ok (.istore 10, 2) := by decide +kernel
theorem d3_21 : decode prog_1_method_2_code 21 = .ok (.iload 10, 2) := by decide +kernel
theorem d3_23 : decode prog_1_method_2_code 23 = .ok (.iload_n 3, 1) := by decide +kernel
theorem d3_24 : decode prog_1_method_2_code 24 = .ok (.if_icmp .ge 123, 3) := by decide +kernel
theorem d3_27 : decode prog_1_method_2_code 27 = .ok (.lconst 0, 1) := by decide +kernel
theorem d3_28 : decode prog_1_method_2_code 28 = .ok (.aload_n 1, 1) := by decide +kernel
theorem d3_29 : decode prog_1_method_2_code 29 = .ok (.iload 10, 2) := by decide +kernel
theorem d3_31 : decode prog_1_method_2_code 31 = .ok (.laload, 1) := by decide +kernel
theorem d3_32 : decode prog_1_method_2_code 32 = .ok (.invokestatic 30, 3) := by decide +kernel
theorem d3_35 : decode prog_1_method_2_code 35 = .ok (.lstore 11, 2) := by decide +kernel
theorem d3_37 : decode prog_1_method_2_code 37 = .ok (.lload 11, 2) := by decide +kernel
theorem d3_39 : decode prog_1_method_2_code 39 = .ok (.invokestatic 35, 3) := by decide +kernel
theorem d3_42 : decode prog_1_method_2_code 42 = .ok (.istore 13, 2) := by decide +kernel
theorem d3_44 : decode prog_1_method_2_code 44 = .ok (.aload_n 0, 1) := by decide +kernel
theorem d3_45 : decode prog_1_method_2_code 45 = .ok (.getfield 13, 3) := by decide +kernel
theorem d3_48 : decode prog_1_method_2_code 48 = .ok (.iload 13, 2) := by decide +kernel
theorem d3_50 : decode prog_1_method_2_code 50 = .ok (.aaload, 1) := by decide +kernel
theorem d3_51 : decode prog_1_method_2_code 51 = .ok (.astore 14, 2) := by decide +kernel
theorem d3_53 : decode prog_1_method_2_code 53 = .ok (.aload 14, 2) := by decide +kernel
theorem d3_55 : decode prog_1_method_2_code 55 = .ok (.ifnonnull 19, 3) := by decide +kernel
theorem d3_58 : decode prog_1_method_2_code 58 = .ok (.sipush 128, 3) := by decide +kernel
theorem d3_61 : decode prog_1_method_2_code 61 = .ok (.newarray .long, 2) := by decide +kernel
theorem d3_63 : decode prog_1_method_2_code 63 = .ok (.astore 14, 2) := by decide +kernel
theorem d3_65 : decode prog_1_method_2_code 65 = .ok (.aload_n 0, 1) := by decide +kernel
theorem d3_66 : decode prog_1_method_2_code 66 = .ok (.getfield 13, 3) := by decide +kernel
theorem d3_69 : decode prog_1_method_2_code 69 = .ok (.iload 13, 2) := by decide +kernel
theorem d3_71 : decode prog_1_method_2_code 71 = .ok (.aload 14, 2) := by decide +kernel
theorem d3_73 : decode prog_1_method_2_code 73 = .ok (.aastore, 1) := by decide +kernel
theorem d3_74 : decode prog_1_method_2_code 74 = .ok (.aload 14, 2) := by decide +kernel
theorem d3_76 : decode prog_1_method_2_code 76 = .ok (.lload 11, 2) := by decide +kernel
theorem d3_78 : decode prog_1_method_2_code 78 = .ok (.iload 13, 2) := by decide +kernel
theorem d3_80 : decode prog_1_method_2_code 80 = .ok (.invokestatic 39, 3) := by decide +kernel
theorem d3_83 : decode prog_1_method_2_code 83 = .ok (.lushr, 1) := by decide +kernel
theorem d3_84 : decode prog_1_method_2_code 84 = .ok (.l2i, 1) := by decide +kernel
theorem d3_85 : decode prog_1_method_2_code 85 = .ok (.bipush 127, 2) := by decide +kernel
theorem d3_87 : decode prog_1_method_2_code 87 = .ok (.iand, 1) := by decide +kernel
theorem d3_88 : decode prog_1_method_2_code 88 = .ok (.dup2, 1) := by decide +kernel
theorem d3_89 : decode prog_1_method_2_code 89 = .ok (.laload, 1) := by decide +kernel
theorem d3_90 : decode prog_1_method_2_code 90 = .ok (.lconst 1, 1) := by decide +kernel
theorem d3_91 : decode prog_1_method_2_code 91 = .ok (.ladd, 1) := by decide +kernel
theorem d3_92 : decode prog_1_method_2_code 92 = .ok (.lastore, 1) := by decide +kernel
theorem d3_93 : decode prog_1_method_2_code 93 = .ok (.aload_n 0, 1) := by decide +kernel
theorem d3_94 : decode prog_1_method_2_code 94 = .ok (.getfield 17, 3) := by decide +kernel
theorem d3_97 : decode prog_1_method_2_code 97 = .ok (.iload 13, 2) := by decide +kernel
theorem d3_99 : decode prog_1_method_2_code 99 = .ok (.dup2, 1) := by decide +kernel
theorem d3_100 : decode prog_1_method_2_code 100 = .ok (.laload, 1) := by decide +kernel
theorem d3_101 : decode prog_1_method_2_code 101 = .ok (.lconst 1, 1) := by decide +kernel
theorem d3_102 : decode prog_1_method_2_code 102 = .ok (.ladd, 1) := by decide +kernel
theorem d3_103 : decode prog_1_method_2_code 103 = .ok (.lastore, 1) := by decide +kernel
theorem d3_104 : decode prog_1_method_2_code 104 = .ok (.lload 4, 2) := by decide +kernel
theorem d3_106 : decode prog_1_method_2_code 106 = .ok (.lload 11, 2) := by decide +kernel
theorem d3_108 : decode prog_1_method_2_code 108 = .ok (.ladd, 1) := by decide +kernel
theorem d3_109 : decode prog_1_method_2_code 109 = .ok (.lstore 15, 2) := by decide +kernel
theorem d3_111 : decode prog_1_method_2_code 111 = .ok (.lload 15, 2) := by decide +kernel
theorem d3_113 : decode prog_1_method_2_code 113 = .ok (.lconst 0, 1) := by decide +kernel
theorem d3_114 : decode prog_1_method_2_code 114 = .ok (.lcmp, 1) := by decide +kernel
theorem d3_115 : decode prog_1_method_2_code 115 = .ok (.ifCond .ge 9, 3) := by decide +kernel
theorem d3_118 : decode prog_1_method_2_code 118 = .ok (.lload 6, 2) := by decide +kernel
theorem d3_120 : decode prog_1_method_2_code 120 = .ok (.lconst 1, 1) := by decide +kernel
theorem d3_121 : decode prog_1_method_2_code 121 = .ok (.ladd, 1) := by decide +kernel
theorem d3_122 : decode prog_1_method_2_code 122 = .ok (.lstore 6, 2) := by decide +kernel
theorem d3_124 : decode prog_1_method_2_code 124 = .ok (.lload 15, 2) := by decide +kernel
theorem d3_126 : decode prog_1_method_2_code 126 = .ok (.ldc2_w 43, 3) := by decide +kernel
theorem d3_129 : decode prog_1_method_2_code 129 = .ok (.land, 1) := by decide +kernel
theorem d3_130 : decode prog_1_method_2_code 130 = .ok (.lstore 4, 2) := by decide +kernel
theorem d3_132 : decode prog_1_method_2_code 132 = .ok (.lload 8, 2) := by decide +kernel
theorem d3_134 : decode prog_1_method_2_code 134 = .ok (.lload 11, 2) := by decide +kernel
theorem d3_136 : decode prog_1_method_2_code 136 = .ok (.invokestatic 30, 3) := by decide +kernel
theorem d3_139 : decode prog_1_method_2_code 139 = .ok (.lstore 8, 2) := by decide +kernel
theorem d3_141 : decode prog_1_method_2_code 141 = .ok (.iinc 10 1, 3) := by decide +kernel
theorem d3_144 : decode prog_1_method_2_code 144 = .ok (.goto (-123), 3) := by decide +kernel
theorem d3_147 : decode prog_1_method_2_code 147 = .ok (.aload_n 0, 1) := by decide +kernel
theorem d3_148 : decode prog_1_method_2_code 148 = .ok (.dup, 1) := by decide +kernel
theorem d3_149 : decode prog_1_method_2_code 149 = .ok (.getfield 45, 3) := by decide +kernel
theorem d3_152 : decode prog_1_method_2_code 152 = .ok (.iload_n 3, 1) := by decide +kernel
theorem d3_153 : decode prog_1_method_2_code 153 = .ok (.iload_n 2, 1) := by decide +kernel
theorem d3_154 : decode prog_1_method_2_code 154 = .ok (.isub, 1) := by decide +kernel
theorem d3_155 : decode prog_1_method_2_code 155 = .ok (.i2l, 1) := by decide +kernel
theorem d3_156 : decode prog_1_method_2_code 156 = .ok (.ladd, 1) := by decide +kernel
theorem d3_157 : decode prog_1_method_2_code 157 = .ok (.putfield 45, 3) := by decide +kernel
theorem d3_160 : decode prog_1_method_2_code 160 = .ok (.aload_n 0, 1) := by decide +kernel
theorem d3_161 : decode prog_1_method_2_code 161 = .ok (.lload 4, 2) := by decide +kernel
theorem d3_163 : decode prog_1_method_2_code 163 = .ok (.putfield 20, 3) := by decide +kernel
theorem d3_166 : decode prog_1_method_2_code 166 = .ok (.aload_n 0, 1) := by decide +kernel
theorem d3_167 : decode prog_1_method_2_code 167 = .ok (.lload 6, 2) := by decide +kernel
theorem d3_169 : decode prog_1_method_2_code 169 = .ok (.putfield 24, 3) := by decide +kernel
theorem d3_172 : decode prog_1_method_2_code 172 = .ok (.aload_n 0, 1) := by decide +kernel
theorem d3_173 : decode prog_1_method_2_code 173 = .ok (.lload 8, 2) := by decide +kernel
theorem d3_175 : decode prog_1_method_2_code 175 = .ok (.putfield 27, 3) := by decide +kernel
theorem d3_178 : decode prog_1_method_2_code 178 = .ok (.return_, 1) := by decide +kernel
theorem pn_3 : plainName "com/example/cormorant/cormorant/Histogram" = true := by first | (simp [plainName, overriddenIn]; done) | decide +kernel
theorem ef_3 (m : MethodId) (x0 : Addr) (x1 : Addr) (x2 : Int32) (x3 : Int32) : entryFrame m #[(.ref x0), (.ref x1), (.int x2), (.int x3)] 17 = mkF m 0 #[.val (.ref x0), .val (.ref x1), .val (.int x2), .val (.int x3), .unset, .unset, .unset, .unset, .unset, .unset, .unset, .unset, .unset, .unset, .unset, .unset, .unset] [] := by first | (simp [entryFrame, mkF, argsToLocals, Value.category]; done) | rfl
theorem pd_3 : parseMethodDescriptor "(JJ)J" = some ⟨[.long, .long], some .long⟩ := by decide +kernel
set_option maxRecDepth 65536 in
set_option maxHeartbeats 40000000 in
theorem own_tA {p : Program} {l : Launch} {e : Env} {s : State} {m : MethodId} {args : Array Value} {below : List Frame} {meth : Method} {c : Code} {T0 : State} {locs : List Loc} {cells slots : Nat} {Z : State} {h0 : Heap} {a0 : Array Value} {n0 : Nat} (X0 : Stand p l e ({ frames := 3, cells := 3, slots := 384, locals := 43 } : Room) s m args below meth c T0 locs cells slots) (hx : p.tables.exec = Jvm.exec) (hZ : Z.Warmed39 s.vm) (hw : ∀ d ∈ tables_1, d.before a0 Z = true) (hby : c.code = prog_1_method_2_code) (hml : c.maxLocals = 17) (hown : s.vm.findClass "com/example/cormorant/cormorant/Histogram" = some m.cls) (e0 : T0.heap = h0) (Z0 : n0 ≤ h0.size) (N0 : Fr n0 locs) (hc1 : cells + 1 ≤ ({ frames := 3, cells := 3, slots := 384, locals := 43 } : Room).cells) (hs1 : slots + 128 ≤ ({ frames := 3, cells := 3, slots := 384, locals := 43 } : Room).slots) (a1 ar B D : Addr) (i0 i1 i2 sm sw mx ct : Int64) (fr to : Int32) (i : Nat) (su wr ma : Int64) (s11 s12 s13 s14 s15 s16 : Slot) (IA : own_arrs Z h0 n0 ar B D i0 i1 i2) (IO : own_obj Z h0 a1 B D sm sw mx ct) (g1 : n0 ≤ a1) (hi : i < 3) (hlt : Int32.ofNat i < to) (hsl : ((s11 = .unset ∧ s12 = .unset ∧ s13 = .unset ∧ s14 = .unset) ∨ ∃ d11 d13 d14, s11 = .val (.long d11) ∧ s12 = .second ∧ s13 = .val (.int d13) ∧ s14 = .val (.ref d14))) :
    ∃ T' h' locs' b y, Stand p l e ({ frames := 3, cells := 3, slots := 384, locals := 43 } : Room) s m args below meth c T' locs' (cells + 1) (slots + 128) ∧ T'.heap = h' ∧ Fr n0 locs' ∧ h0.size ≤ h'.size ∧ own_arrs Z h' n0 ar B D i0 i1 i2 ∧ own_obj Z h' a1 B D sm sw mx ct ∧ (n0 ≤ y ∧ ∃ cy : Cell, Arr Z h' y cy .long ∧ cy.slots.size = 128 ∧ own_longs cy) ∧ 0 ≤ b.toInt ∧ b.toInt ≤ 56 ∧ ∀ t, Steps p.tables e below (T'.setTop (mkF m 74 #[.val (.ref a1), .val (.ref ar), .val (.int fr), .val (.int to), .val (.long su), .second, .val (.long wr), .second, .val (.long ma), .second, .val (.int (Int32.ofNat i)), .val (.long (own_mx (0 : Int64) (own_nano i0 i1 i2 i))), .second, .val (.int b), .val (.ref y), s15, s16] [])) t → Steps p.tables e below (T0.setTop (mkF m 21 #[.val (.ref a1), .val (.ref ar), .val (.int fr), .val (.int to), .val (.long su), .second, .val (.long wr), .second, .val (.long ma), .second, .val (.int (Int32.ofNat i)), s11, s12, s13, s14, s15, s16] [])) t := by
  have hc0 : cells + 0 ≤ ({ frames := 3, cells := 3, slots := 384, locals := 43 } : Room).cells := by omega
  have hs0 : slots + 0 ≤ ({ frames := 3, cells := 3, slots := 384, locals := 43 } : Room).slots := by omega
  obtain ⟨clA, A1, A2, A3⟩ := own_nan_at IA.1 hi
  obtain ⟨-, ⟨clB, B1, B2, B3, B4⟩, -, gB, gD⟩ := id IA
  obtain ⟨O1, O2, -⟩ := id IO
  have hni : (Int32.ofNat i).toNatClampNeg = i := n32 (by omega)
  have hiI : (Int32.ofNat i).toInt = i := Int32.toInt_ofNat_of_lt (by omega)
  have hinA : ¬ (Int32.ofNat i < 0 ∨ clA.slots.size ≤ (Int32.ofNat i).toNatClampNeg) := (own_inb (N := 3) (by omega) (by omega) A2).1
  have hatA : clA.slots[(Int32.ofNat i).toNatClampNeg]? = some (.long (own_nano i0 i1 i2 i)) := by rw [hni]; exact A3
  rcases hsl with ⟨rfl, rfl, rfl, rfl⟩ | ⟨d11, d13, d14, rfl, rfl, rfl, rfl⟩
  · have wsg1 : ∀ t, Steps p.tables e below (T0.setTop (mkF m 32 #[.val (.ref a1), .val (.ref ar), .val (.int fr), .val (.int to), .val (.long su), .second, .val (.long wr), .second, .val (.long ma), .second, .val (.int (Int32.ofNat i)), .unset, .unset, .unset, .unset, s15, s16] [(.long (own_nano i0 i1 i2 i)), (.long (0 : Int64))])) t → Steps p.tables e below (T0.setTop (mkF m 21 #[.val (.ref a1), .val (.ref ar), .val (.int fr), .val (.int to), .val (.long su), .second, .val (.long wr), .second, .val (.long ma), .second, .val (.int (Int32.ofNat i)), .unset, .unset, .unset, .unset, s15, s16] [])) t := by
      intro t kt
      refine XS.iload X0.here hx rfl (hb hby d3_21) rfl ?_
      show Steps p.tables e below (T0.setTop (mkF m 23 #[.val (.ref a1), .val (.ref ar), .val (.int fr), .val (.int to), .val (.long su), .second, .val (.long wr), .second, .val (.long ma), .second, .val (.int (Int32.ofNat i)), .unset, .unset, .unset, .unset, s15, s16] [(.int (Int32.ofNat i))])) _
      refine XS.iloadN X0.here hx rfl (hb hby d3_23) rfl ?_
      show Steps p.tables e below (T0.setTop (mkF m 24 #[.val (.ref a1), .val (.ref ar), .val (.int fr), .val (.int to), .val (.long su), .second, .val (.long wr), .second, .val (.long ma), .second, .val (.int (Int32.ofNat i)), .unset, .unset, .unset, .unset, s15, s16] [(.int to), (.int (Int32.ofNat i))])) _
      refine XS.icmpNo X0.here hx rfl (hb hby d3_24) rfl (tlt (hlt : (Int32.ofNat i) < to)).2.1 ?_
      show Steps p.tables e below (T0.setTop (mkF m 27 #[.val (.ref a1), .val (.ref ar), .val (.int fr), .val (.int to), .val (.long su), .second, .val (.long wr), .second, .val (.long ma), .second, .val (.int (Int32.ofNat i)), .unset, .unset, .unset, .unset, s15, s16] [])) _
      refine XS.lconst X0.here hx rfl (hb hby d3_27) ?_
      show Steps p.tables e below (T0.setTop (mkF m 28 #[.val (.ref a1), .val (.ref ar), .val (.int fr), .val (.int to), .val (.long su), .second, .val (.long wr), .second, .val (.long ma), .second, .val (.int (Int32.ofNat i)), .unset, .unset, .unset, .unset, s15, s16] [(.long (0 : Int64))])) _
      refine XS.aloadN X0.here hx rfl (hb hby d3_28) rfl rfl ?_
      show Steps p.tables e below (T0.setTop (mkF m 29 #[.val (.ref a1), .val (.ref ar), .val (.int fr), .val (.int to), .val (.long su), .second, .val (.long wr), .second, .val (.long ma), .second, .val (.int (Int32.ofNat i)), .unset, .unset, .unset, .unset, s15, s16] [(.ref ar), (.long (0 : Int64))])) _
      refine XS.iload X0.here hx rfl (hb hby d3_29) rfl ?_
      show Steps p.tables e below (T0.setTop (mkF m 31 #[.val (.ref a1), .val (.ref ar), .val (.int fr), .val (.int to), .val (.long su), .second, .val (.long wr), .second, .val (.long ma), .second, .val (.int (Int32.ofNat i)), .unset, .unset, .unset, .unset, s15, s16] [(.int (Int32.ofNat i)), (.ref ar), (.long (0 : Int64))])) _
      refine X0.laload hx (j := (Int32.ofNat i)) (v := (.long (own_nano i0 i1 i2 i))) (by rw [e0]; exact A1.1) (State.isArrayOf_alike hZ.alike A1.2.1) A1.2.2 hinA hatA (g := (mkF m 31 #[.val (.ref a1), .val (.ref ar), .val (.int fr), .val (.int to), .val (.long su), .second, .val (.long wr), .second, .val (.long ma), .second, .val (.int (Int32.ofNat i)), .unset, .unset, .unset, .unset, s15, s16] [(.int (Int32.ofNat i)), (.ref ar), (.long (0 : Int64))])) rfl rfl (hb hby d3_31) _ ?_
      exact kt
    obtain ⟨_, _, ⟨Tw2, Lw2, kw2, nw2⟩, -, Xw2, ⟨Lcw2, hQw2, lw2, yw2, zw2⟩, stw2⟩ := Jvm.LawKit.callS X0 hx (y := (⟨"java/lang/Math", "max", "(JJ)J"⟩ : MethodName)) hown (mvT hZ (hw _ (List.mem_of_getElem? (i := 28) rfl))) (mvT hZ (hw _ (List.mem_of_getElem? (i := 29) rfl))) (mvT hZ (hw _ (List.mem_of_getElem? (i := 30) rfl))) (mvT hZ (hw _ (List.mem_of_getElem? (i := 31) rfl))) (by decide) (backOf (W := 0) (rm4 l Z a0 hw [] (0 : Int64) (own_nano i0 i1 i2 i) h0 n0 Z0 ) hZ (hw _ (List.mem_of_getElem? (i := 31) rfl)) (hw _ (List.mem_of_getElem? (i := 30) rfl)) (by decide) (by decide)) (g := (mkF m 32 #[.val (.ref a1), .val (.ref ar), .val (.int fr), .val (.int to), .val (.long su), .second, .val (.long wr), .second, .val (.long ma), .second, .val (.int (Int32.ofNat i)), .unset, .unset, .unset, .unset, s15, s16] [(.long (own_nano i0 i1 i2 i)), (.long (0 : Int64))])) rfl (by rw [hml]; rfl) (argsL := [(.long (0 : Int64)), (.long (own_nano i0 i1 i2 i))]) (rest := []) (lenOf pd_3 rfl) rfl (by show 2 * 0 + _ ≤ _; exact Nat.le_of_eq rfl) (hb hby d3_32) (fun _ _ => ⟨rfl, e0, hc0, hs0⟩)
    dsimp only [Pt.U, Pt.locs, Pt.cells, Pt.slots] at Xw2 lw2 yw2 zw2 stw2 hQw2
    subst lw2 yw2 zw2
    obtain ⟨rfl, Nqw2, eqw2⟩ := hQw2
    have Nw2 := Fr.app N0 Nqw2
    have wsg3 : ∀ t, Steps p.tables e below (Tw2.setTop (mkF m 39 #[.val (.ref a1), .val (.ref ar), .val (.int fr), .val (.int to), .val (.long su), .second, .val (.long wr), .second, .val (.long ma), .second, .val (.int (Int32.ofNat i)), .val (.long (own_mx (0 : Int64) (own_nano i0 i1 i2 i))), .second, .unset, .unset, s15, s16] [(.long (own_mx (0 : Int64) (own_nano i0 i1 i2 i)))])) t → Steps p.tables e below (Tw2.setTop (mkF m 35 #[.val (.ref a1), .val (.ref ar), .val (.int fr), .val (.int to), .val (.long su), .second, .val (.long wr), .second, .val (.long ma), .second, .val (.int (Int32.ofNat i)), .unset, .unset, .unset, .unset, s15, s16] [(.long (own_mx (0 : Int64) (own_nano i0 i1 i2 i)))])) t := by
      intro t kt
      refine XS.lstore Xw2.here hx rfl (hb hby d3_35) rfl (l' := #[.val (.ref a1), .val (.ref ar), .val (.int fr), .val (.int to), .val (.long su), .second, .val (.long wr), .second, .val (.long ma), .second, .val (.int (Int32.ofNat i)), .val (.long (own_mx (0 : Int64) (own_nano i0 i1 i2 i))), .second, .unset, .unset, s15, s16]) rfl ?_
      show Steps p.tables e below (Tw2.setTop (mkF m 37 #[.val (.ref a1), .val (.ref ar), .val (.int fr), .val (.int to), .val (.long su), .second, .val (.long wr), .second, .val (.long ma), .second, .val (.int (Int32.ofNat i)), .val (.long (own_mx (0 : Int64) (own_nano i0 i1 i2 i))), .second, .unset, .unset, s15, s16] [])) _
      refine XS.lload Xw2.here hx rfl (hb hby d3_37) rfl ?_
      exact kt
    obtain ⟨_, _, ⟨Tw4, Lw4, kw4, nw4⟩, -, Xw4, ⟨Lcw4, hQw4, lw4, yw4, zw4⟩, stw4⟩ := Jvm.LawKit.callS Xw2 hx (y := (⟨"com/example/cormorant/cormorant/Histogram", "blockOf", "(J)I"⟩ : MethodName)) hown (mvT hZ (hw _ (List.mem_of_getElem? (i := 32) rfl))) (mvT hZ (hw _ (List.mem_of_getElem? (i := 33) rfl))) (mvT hZ (hw _ (List.mem_of_getElem? (i := 4) rfl))) (mvT hZ (hw _ (List.mem_of_getElem? (i := 34) rfl))) (by decide) (backOf (W := 0) (rm5 l Z a0 hw [] (own_mx (0 : Int64) (own_nano i0 i1 i2 i)) h0 n0 Z0 (own_m0 _).1) hZ (hw _ (List.mem_of_getElem? (i := 34) rfl)) (hw _ (List.mem_of_getElem? (i := 4) rfl)) (by decide) (by decide)) (g := (mkF m 39 #[.val (.ref a1), .val (.ref ar), .val (.int fr), .val (.int to), .val (.long su), .second, .val (.long wr), .second, .val (.long ma), .second, .val (.int (Int32.ofNat i)), .val (.long (own_mx (0 : Int64) (own_nano i0 i1 i2 i))), .second, .unset, .unset, s15, s16] [(.long (own_mx (0 : Int64) (own_nano i0 i1 i2 i)))])) rfl (by rw [hml]; rfl) (argsL := [(.long (own_mx (0 : Int64) (own_nano i0 i1 i2 i)))]) (rest := []) (lenOf pd_1 rfl) rfl (by show 2 * 0 + _ ≤ _; exact Nat.le_of_eq rfl) (hb hby d3_39) (fun _ _ => ⟨rfl, eqw2, hc0, hs0⟩)
    dsimp only [Pt.U, Pt.locs, Pt.cells, Pt.slots] at Xw4 lw4 yw4 zw4 stw4 hQw4
    subst lw4 yw4 zw4
    obtain ⟨⟨b, rfl, b0, b1⟩, Nqw4, eqw4⟩ := hQw4
    have Nw4 := Fr.app Nw2 Nqw4
    have wsg5 : ∀ t, Steps p.tables e below (Tw4.setTop (mkF m 45 #[.val (.ref a1), .val (.ref ar), .val (.int fr), .val (.int to), .val (.long su), .second, .val (.long wr), .second, .val (.long ma), .second, .val (.int (Int32.ofNat i)), .val (.long (own_mx (0 : Int64) (own_nano i0 i1 i2 i))), .second, .val (.int b), .unset, s15, s16] [(.ref a1)])) t → Steps p.tables e below (Tw4.setTop (mkF m 42 #[.val (.ref a1), .val (.ref ar), .val (.int fr), .val (.int to), .val (.long su), .second, .val (.long wr), .second, .val (.long ma), .second, .val (.int (Int32.ofNat i)), .val (.long (own_mx (0 : Int64) (own_nano i0 i1 i2 i))), .second, .unset, .unset, s15, s16] [(.int b)])) t := by
      intro t kt
      refine XS.istore Xw4.here hx rfl (hb hby d3_42) rfl (l' := #[.val (.ref a1), .val (.ref ar), .val (.int fr), .val (.int to), .val (.long su), .second, .val (.long wr), .second, .val (.long ma), .second, .val (.int (Int32.ofNat i)), .val (.long (own_mx (0 : Int64) (own_nano i0 i1 i2 i))), .second, .val (.int b), .unset, s15, s16]) rfl ?_
      show Steps p.tables e below (Tw4.setTop (mkF m 44 #[.val (.ref a1), .val (.ref ar), .val (.int fr), .val (.int to), .val (.long su), .second, .val (.long wr), .second, .val (.long ma), .second, .val (.int (Int32.ofNat i)), .val (.long (own_mx (0 : Int64) (own_nano i0 i1 i2 i))), .second, .val (.int b), .unset, s15, s16] [])) _
      refine XS.aloadN Xw4.here hx rfl (hb hby d3_44) rfl rfl ?_
      exact kt
    obtain ⟨Tw6, Xw6, ew6, stw6⟩ := getF Xw4 hx hZ hown (host := "") (Or.inl (hw _ (List.mem_of_getElem? (i := 13) rfl))) Via.refl eqw4 O2 (g := (mkF m 45 #[.val (.ref a1), .val (.ref ar), .val (.int fr), .val (.int to), .val (.long su), .second, .val (.long wr), .second, .val (.long ma), .second, .val (.int (Int32.ofNat i)), .val (.long (own_mx (0 : Int64) (own_nano i0 i1 i2 i))), .second, .val (.int b), .unset, s15, s16] [(.ref a1)])) rfl rfl (hb hby d3_45)
    obtain ⟨hinB, hbn⟩ := own_inb (N := 57) b0 (by omega) B2
    obtain ⟨vB, hvB, rB⟩ := B4 _ hbn
    rcases rB with rfl | ⟨y, cy, rfl, gy, Y1, Y2, Y3⟩
    · have wsg7 : ∀ t, Steps p.tables e below (Tw6.setTop (mkF m 61 #[.val (.ref a1), .val (.ref ar), .val (.int fr), .val (.int to), .val (.long su), .second, .val (.long wr), .second, .val (.long ma), .second, .val (.int (Int32.ofNat i)), .val (.long (own_mx (0 : Int64) (own_nano i0 i1 i2 i))), .second, .val (.int b), .val .null, s15, s16] [(.int (128 : Int32))])) t → Steps p.tables e below (Tw6.setTop (mkF m 48 #[.val (.ref a1), .val (.ref ar), .val (.int fr), .val (.int to), .val (.long su), .second, .val (.long wr), .second, .val (.long ma), .second, .val (.int (Int32.ofNat i)), .val (.long (own_mx (0 : Int64) (own_nano i0 i1 i2 i))), .second, .val (.int b), .unset, s15, s16] [(.ref B)])) t := by
        intro t kt
        refine XS.iload Xw6.here hx rfl (hb hby d3_48) rfl ?_
        show Steps p.tables e below (Tw6.setTop (mkF m 50 #[.val (.ref a1), .val (.ref ar), .val (.int fr), .val (.int to), .val (.long su), .second, .val (.long wr), .second, .val (.long ma), .second, .val (.int (Int32.ofNat i)), .val (.long (own_mx (0 : Int64) (own_nano i0 i1 i2 i))), .second, .val (.int b), .unset, s15, s16] [(.int b), (.ref B)])) _
        refine Xw6.aaload hx (j := b) (v := .null) (by rw [ew6]; exact B1.1) (State.isArrayOf_alike hZ.alike B1.2.1) rfl B1.2.2 hinB hvB (g := (mkF m 50 #[.val (.ref a1), .val (.ref ar), .val (.int fr), .val (.int to), .val (.long su), .second, .val (.long wr), .second, .val (.long ma), .second, .val (.int (Int32.ofNat i)), .val (.long (own_mx (0 : Int64) (own_nano i0 i1 i2 i))), .second, .val (.int b), .unset, s15, s16] [(.int b), (.ref B)])) rfl rfl (hb hby d3_50) _ ?_
        show Steps p.tables e below (Tw6.setTop (mkF m 51 #[.val (.ref a1), .val (.ref ar), .val (.int fr), .val (.int to), .val (.long su), .second, .val (.long wr), .second, .val (.long ma), .second, .val (.int (Int32.ofNat i)), .val (.long (own_mx (0 : Int64) (own_nano i0 i1 i2 i))), .second, .val (.int b), .unset, s15, s16] [.null])) _
        refine XS.astore Xw6.here hx rfl (hb hby d3_51) rfl rfl (l' := #[.val (.ref a1), .val (.ref ar), .val (.int fr), .val (.int to), .val (.long su), .second, .val (.long wr), .second, .val (.long ma), .second, .val (.int (Int32.ofNat i)), .val (.long (own_mx (0 : Int64) (own_nano i0 i1 i2 i))), .second, .val (.int b), .val .null, s15, s16]) rfl ?_
        show Steps p.tables e below (Tw6.setTop (mkF m 53 #[.val (.ref a1), .val (.ref ar), .val (.int fr), .val (.int to), .val (.long su), .second, .val (.long wr), .second, .val (.long ma), .second, .val (.int (Int32.ofNat i)), .val (.long (own_mx (0 : Int64) (own_nano i0 i1 i2 i))), .second, .val (.int b), .val .null, s15, s16] [])) _
        refine XS.aload Xw6.here hx rfl (hb hby d3_53) rfl rfl ?_
        show Steps p.tables e below (Tw6.setTop (mkF m 55 #[.val (.ref a1), .val (.ref ar), .val (.int fr), .val (.int to), .val (.long su), .second, .val (.long wr), .second, .val (.long ma), .second, .val (.int (Int32.ofNat i)), .val (.long (own_mx (0 : Int64) (own_nano i0 i1 i2 i))), .second, .val (.int b), .val .null, s15, s16] [.null])) _
        refine XS.ifnonnullNo Xw6.here hx rfl (hb hby d3_55) rfl ?_
        show Steps p.tables e below (Tw6.setTop (mkF m 58 #[.val (.ref a1), .val (.ref ar), .val (.int fr), .val (.int to), .val (.long su), .second, .val (.long wr), .second, .val (.long ma), .second, .val (.int (Int32.ofNat i)), .val (.long (own_mx (0 : Int64) (own_nano i0 i1 i2 i))), .second, .val (.int b), .val .null, s15, s16] [])) _
        refine XS.sipush Xw6.here hx rfl (hb hby d3_58) ?_
        exact kt
      obtain ⟨Tw8, hw8, kw8, Xw8, ew8, Ew8, Aw8, Jw8, stw8⟩ := newPE Xw6 hx hZ (hw _ (List.mem_of_getElem? (i := 1) rfl)) ew6 (g := (mkF m 61 #[.val (.ref a1), .val (.ref ar), .val (.int fr), .val (.int to), .val (.long su), .second, .val (.long wr), .second, .val (.long ma), .second, .val (.int (Int32.ofNat i)), .val (.long (own_mx (0 : Int64) (own_nano i0 i1 i2 i))), .second, .val (.int b), .val .null, s15, s16] [(.int (128 : Int32))])) rfl (hb hby d3_61) rfl (by decide) (cap := 128) (by decide) (by decide) hc1 hs1 (ad := "[J") (by decide)
      obtain ⟨y, gq⟩ : ∃ z, z = h0.size := ⟨_, rfl⟩
      rw [← gq] at Aw8 Jw8 stw8
      have gy : n0 ≤ y := by omega
      have IA1 := own_arrs_ext Ew8 IA
      have IO1 := own_obj_ext Ew8 IO
      have rw1 : own_row Z hw8 n0 (.ref y) := Or.inr ⟨y, _, rfl, gy, Aw8, by rw [sz_new]; decide, own_new_longs _⟩
      have wsg9 : ∀ t, Steps p.tables e below (Tw8.setTop (mkF m 66 #[.val (.ref a1), .val (.ref ar), .val (.int fr), .val (.int to), .val (.long su), .second, .val (.long wr), .second, .val (.long ma), .second, .val (.int (Int32.ofNat i)), .val (.long (own_mx (0 : Int64) (own_nano i0 i1 i2 i))), .second, .val (.int b), .val (.ref y), s15, s16] [(.ref a1)])) t → Steps p.tables e below (Tw8.setTop (mkF m 63 #[.val (.ref a1), .val (.ref ar), .val (.int fr), .val (.int to), .val (.long su), .second, .val (.long wr), .second, .val (.long ma), .second, .val (.int (Int32.ofNat i)), .val (.long (own_mx (0 : Int64) (own_nano i0 i1 i2 i))), .second, .val (.int b), .val .null, s15, s16] [(.ref y)])) t := by
        intro t kt
        refine XS.astore Xw8.here hx rfl (hb hby d3_63) rfl rfl (l' := #[.val (.ref a1), .val (.ref ar), .val (.int fr), .val (.int to), .val (.long su), .second, .val (.long wr), .second, .val (.long ma), .second, .val (.int (Int32.ofNat i)), .val (.long (own_mx (0 : Int64) (own_nano i0 i1 i2 i))), .second, .val (.int b), .val (.ref y), s15, s16]) rfl ?_
        show Steps p.tables e below (Tw8.setTop (mkF m 65 #[.val (.ref a1), .val (.ref ar), .val (.int fr), .val (.int to), .val (.long su), .second, .val (.long wr), .second, .val (.long ma), .second, .val (.int (Int32.ofNat i)), .val (.long (own_mx (0 : Int64) (own_nano i0 i1 i2 i))), .second, .val (.int b), .val (.ref y), s15, s16] [])) _
        refine XS.aloadN Xw8.here hx rfl (hb hby d3_65) rfl rfl ?_
        exact kt
      obtain ⟨Tw10, Xw10, ew10, stw10⟩ := getF Xw8 hx hZ hown (host := "") (Or.inl (hw _ (List.mem_of_getElem? (i := 13) rfl))) Via.refl ew8 IO1.2.1 (g := (mkF m 66 #[.val (.ref a1), .val (.ref ar), .val (.int fr), .val (.int to), .val (.long su), .second, .val (.long wr), .second, .val (.long ma), .second, .val (.int (Int32.ofNat i)), .val (.long (own_mx (0 : Int64) (own_nano i0 i1 i2 i))), .second, .val (.int b), .val (.ref y), s15, s16] [(.ref a1)])) rfl rfl (hb hby d3_66)
      have wsg11 : ∀ t, Steps p.tables e below (Tw10.setTop (mkF m 73 #[.val (.ref a1), .val (.ref ar), .val (.int fr), .val (.int to), .val (.long su), .second, .val (.long wr), .second, .val (.long ma), .second, .val (.int (Int32.ofNat i)), .val (.long (own_mx (0 : Int64) (own_nano i0 i1 i2 i))), .second, .val (.int b), .val (.ref y), s15, s16] [(.ref y), (.int b), (.ref B)])) t → Steps p.tables e below (Tw10.setTop (mkF m 69 #[.val (.ref a1), .val (.ref ar), .val (.int fr), .val (.int to), .val (.long su), .second, .val (.long wr), .second, .val (.long ma), .second, .val (.int (Int32.ofNat i)), .val (.long (own_mx (0 : Int64) (own_nano i0 i1 i2 i))), .second, .val (.int b), .val (.ref y), s15, s16] [(.ref B)])) t := by
        intro t kt
        refine XS.iload Xw10.here hx rfl (hb hby d3_69) rfl ?_
        show Steps p.tables e below (Tw10.setTop (mkF m 71 #[.val (.ref a1), .val (.ref ar), .val (.int fr), .val (.int to), .val (.long su), .second, .val (.long wr), .second, .val (.long ma), .second, .val (.int (Int32.ofNat i)), .val (.long (own_mx (0 : Int64) (own_nano i0 i1 i2 i))), .second, .val (.int b), .val (.ref y), s15, s16] [(.int b), (.ref B)])) _
        refine XS.aload Xw10.here hx rfl (hb hby d3_71) rfl rfl ?_
        exact kt
      obtain ⟨Tw12, hw12, Xw12, ew12, Ww12, stw12⟩ := stR Xw10 hx hZ ew10 (B1.ext Ew8) (j := b) hinB rfl (Sto.ofVA (B1.ext Ew8) rfl B3 (Ins.self Jw8)) (g := (mkF m 73 #[.val (.ref a1), .val (.ref ar), .val (.int fr), .val (.int to), .val (.long su), .second, .val (.long wr), .second, .val (.long ma), .second, .val (.int (Int32.ofNat i)), .val (.long (own_mx (0 : Int64) (own_nano i0 i1 i2 i))), .second, .val (.int b), .val (.ref y), s15, s16] [(.ref y), (.int b), (.ref B)])) rfl rfl (hb hby d3_73)
      have Nw12 := Fr.snoc Xw12 Nw4 gB
      have IA2 := own_arrs_bks Ww12 rw1 IA1
      have IO2 := own_obj_far Ww12 (B1.ext Ew8) (hw _ (List.mem_of_getElem? (i := 3) rfl)) IO1
      have Ay : Arr Z hw12 y _ .long := Aw8.other Ww12 (own_ne Aw8 (B1.ext Ew8) (by rw [sz_new, B2]; decide))
      refine ⟨Tw12, hw12, _, b, y, Xw12, ew12, Nw12, ?_, IA2, IO2, ⟨gy, _, Ay, by rw [sz_new]; decide, own_new_longs _⟩, b0, b1, fun t kt => ?_⟩
      · rw [Ww12.size]; exact Ew8.1
      · refine wsg1 _ ?_
        refine stw2 _ ?_
        refine wsg3 _ ?_
        refine stw4 _ ?_
        refine wsg5 _ ?_
        refine stw6 _ ?_
        refine wsg7 _ ?_
        refine stw8 _ ?_
        refine wsg9 _ ?_
        refine stw10 _ ?_
        refine wsg11 _ ?_
        refine stw12 _ ?_
        exact kt
    · have wsg7 : ∀ t, Steps p.tables e below (Tw6.setTop (mkF m 74 #[.val (.ref a1), .val (.ref ar), .val (.int fr), .val (.int to), .val (.long su), .second, .val (.long wr), .second, .val (.long ma), .second, .val (.int (Int32.ofNat i)), .val (.long (own_mx (0 : Int64) (own_nano i0 i1 i2 i))), .second, .val (.int b), .val (.ref y), s15, s16] [])) t → Steps p.tables e below (Tw6.setTop (mkF m 48 #[.val (.ref a1), .val (.ref ar), .val (.int fr), .val (.int to), .val (.long su), .second, .val (.long wr), .second, .val (.long ma), .second, .val (.int (Int32.ofNat i)), .val (.long (own_mx (0 : Int64) (own_nano i0 i1 i2 i))), .second, .val (.int b), .unset, s15, s16] [(.ref B)])) t := by
        intro t kt
        refine XS.iload Xw6.here hx rfl (hb hby d3_48) rfl ?_
        show Steps p.tables e below (Tw6.setTop (mkF m 50 #[.val (.ref a1), .val (.ref ar), .val (.int fr), .val (.int to), .val (.long su), .second, .val (.long wr), .second, .val (.long ma), .second, .val (.int (Int32.ofNat i)), .val (.long (own_mx (0 : Int64) (own_nano i0 i1 i2 i))), .second, .val (.int b), .unset, s15, s16] [(.int b), (.ref B)])) _
        refine Xw6.aaload hx (j := b) (v := (.ref y)) (by rw [ew6]; exact B1.1) (State.isArrayOf_alike hZ.alike B1.2.1) rfl B1.2.2 hinB hvB (g := (mkF m 50 #[.val (.ref a1), .val (.ref ar), .val (.int fr), .val (.int to), .val (.long su), .second, .val (.long wr), .second, .val (.long ma), .second, .val (.int (Int32.ofNat i)), .val (.long (own_mx (0 : Int64) (own_nano i0 i1 i2 i))), .second, .val (.int b), .unset, s15, s16] [(.int b), (.ref B)])) rfl rfl (hb hby d3_50) _ ?_
        show Steps p.tables e below (Tw6.setTop (mkF m 51 #[.val (.ref a1), .val (.ref ar), .val (.int fr), .val (.int to), .val (.long su), .second, .val (.long wr), .second, .val (.long ma), .second, .val (.int (Int32.ofNat i)), .val (.long (own_mx (0 : Int64) (own_nano i0 i1 i2 i))), .second, .val (.int b), .unset, s15, s16] [(.ref y)])) _
        refine XS.astore Xw6.here hx rfl (hb hby d3_51) rfl rfl (l' := #[.val (.ref a1), .val (.ref ar), .val (.int fr), .val (.int to), .val (.long su), .second, .val (.long wr), .second, .val (.long ma), .second, .val (.int (Int32.ofNat i)), .val (.long (own_mx (0 : Int64) (own_nano i0 i1 i2 i))), .second, .val (.int b), .val (.ref y), s15, s16]) rfl ?_
        show Steps p.tables e below (Tw6.setTop (mkF m 53 #[.val (.ref a1), .val (.ref ar), .val (.int fr), .val (.int to), .val (.long su), .second, .val (.long wr), .second, .val (.long ma), .second, .val (.int (Int32.ofNat i)), .val (.long (own_mx (0 : Int64) (own_nano i0 i1 i2 i))), .second, .val (.int b), .val (.ref y), s15, s16] [])) _
        refine XS.aload Xw6.here hx rfl (hb hby d3_53) rfl rfl ?_
        show Steps p.tables e below (Tw6.setTop (mkF m 55 #[.val (.ref a1), .val (.ref ar), .val (.int fr), .val (.int to), .val (.long su), .second, .val (.long wr), .second, .val (.long ma), .second, .val (.int (Int32.ofNat i)), .val (.long (own_mx (0 : Int64) (own_nano i0 i1 i2 i))), .second, .val (.int b), .val (.ref y), s15, s16] [(.ref y)])) _
        refine XS.ifnonnullYes Xw6.here hx rfl (pc0 := 55) (pc' := 74) rfl (hb hby d3_55) rfl (by decide) (by decide) ?_
        exact kt
      refine ⟨Tw6, h0, _, b, y, Xw6.more (by omega) (by omega), ew6, Nw4, Nat.le_refl _, IA, IO, ⟨gy, cy, Y1, Y2, Y3⟩, b0, b1, fun t kt => ?_⟩
      refine wsg1 _ ?_
      refine stw2 _ ?_
      refine wsg3 _ ?_
      refine stw4 _ ?_
      refine wsg5 _ ?_
      refine stw6 _ ?_
      refine wsg7 _ ?_
      exact kt
  · have wsg1 : ∀ t, Steps p.tables e below (T0.setTop (mkF m 32 #[.val (.ref a1), .val (.ref ar), .val (.int fr), .val (.int to), .val (.long su), .second, .val (.long wr), .second, .val (.long ma), .second, .val (.int (Int32.ofNat i)), .val (.long d11), .second, .val (.int d13), .val (.ref d14), s15, s16] [(.long (own_nano i0 i1 i2 i)), (.long (0 : Int64))])) t → Steps p.tables e below (T0.setTop (mkF m 21 #[.val (.ref a1), .val (.ref ar), .val (.int fr), .val (.int to), .val (.long su), .second, .val (.long wr), .second, .val (.long ma), .second, .val (.int (Int32.ofNat i)), .val (.long d11), .second, .val (.int d13), .val (.ref d14), s15, s16] [])) t := by
      intro t kt
      refine XS.iload X0.here hx rfl (hb hby d3_21) rfl ?_
      show Steps p.tables e below (T0.setTop (mkF m 23 #[.val (.ref a1), .val (.ref ar), .val (.int fr), .val (.int to), .val (.long su), .second, .val (.long wr), .second, .val (.long ma), .second, .val (.int (Int32.ofNat i)), .val (.long d11), .second, .val (.int d13), .val (.ref d14), s15, s16] [(.int (Int32.ofNat i))])) _
      refine XS.iloadN X0.here hx rfl (hb hby d3_23) rfl ?_
      show Steps p.tables e below (T0.setTop (mkF m 24 #[.val (.ref a1), .val (.ref ar), .val (.int fr), .val (.int to), .val (.long su), .second, .val (.long wr), .second, .val (.long ma), .second, .val (.int (Int32.ofNat i)), .val (.long d11), .second, .val (.int d13), .val (.ref d14), s15, s16] [(.int to), (.int (Int32.ofNat i))])) _
      refine XS.icmpNo X0.here hx rfl (hb hby d3_24) rfl (tlt (hlt : (Int32.ofNat i) < to)).2.1 ?_
      show Steps p.tables e below (T0.setTop (mkF m 27 #[.val (.ref a1), .val (.ref ar), .val (.int fr), .val (.int to), .val (.long su), .second, .val (.long wr), .second, .val (.long ma), .second, .val (.int (Int32.ofNat i)), .val (.long d11), .second, .val (.int d13), .val (.ref d14), s15, s16] [])) _
      refine XS.lconst X0.here hx rfl (hb hby d3_27) ?_
      show Steps p.tables e below (T0.setTop (mkF m 28 #[.val (.ref a1), .val (.ref ar), .val (.int fr), .val (.int to), .val (.long su), .second, .val (.long wr), .second, .val (.long ma), .second, .val (.int (Int32.ofNat i)), .val (.long d11), .second, .val (.int d13), .val (.ref d14), s15, s16] [(.long (0 : Int64))])) _
      refine XS.aloadN X0.here hx rfl (hb hby d3_28) rfl rfl ?_
      show Steps p.tables e below (T0.setTop (mkF m 29 #[.val (.ref a1), .val (.ref ar), .val (.int fr), .val (.int to), .val (.long su), .second, .val (.long wr), .second, .val (.long ma), .second, .val (.int (Int32.ofNat i)), .val (.long d11), .second, .val (.int d13), .val (.ref d14), s15, s16] [(.ref ar), (.long (0 : Int64))])) _
      refine XS.iload X0.here hx rfl (hb hby d3_29) rfl ?_
      show Steps p.tables e below (T0.setTop (mkF m 31 #[.val (.ref a1), .val (.ref ar), .val (.int fr), .val (.int to), .val (.long su), .second, .val (.long wr), .second, .val (.long ma), .second, .val (.int (Int32.ofNat i)), .val (.long d11), .second, .val (.int d13), .val (.ref d14), s15, s16] [(.int (Int32.ofNat i)), (.ref ar), (.long (0 : Int64))])) _
      refine X0.laload hx (j := (Int32.ofNat i)) (v := (.long (own_nano i0 i1 i2 i))) (by rw [e0]; exact A1.1) (State.isArrayOf_alike hZ.alike A1.2.1) A1.2.2 hinA hatA (g := (mkF m 31 #[.val (.ref a1), .val (.ref ar), .val (.int fr), .val (.int to), .val (.long su), .second, .val (.long wr), .second, .val (.long ma), .second, .val (.int (Int32.ofNat i)), .val (.long d11), .second, .val (.int d13), .val (.ref d14), s15, s16] [(.int (Int32.ofNat i)), (.ref ar), (.long (0 : Int64))])) rfl rfl (hb hby d3_31) _ ?_
      exact kt
    obtain ⟨_, _, ⟨Tw2, Lw2, kw2, nw2⟩, -, Xw2, ⟨Lcw2, hQw2, lw2, yw2, zw2⟩, stw2⟩ := Jvm.LawKit.callS X0 hx (y := (⟨"java/lang/Math", "max", "(JJ)J"⟩ : MethodName)) hown (mvT hZ (hw _ (List.mem_of_getElem? (i := 28) rfl))) (mvT hZ (hw _ (List.mem_of_getElem? (i := 29) rfl))) (mvT hZ (hw _ (List.mem_of_getElem? (i := 30) rfl))) (mvT hZ (hw _ (List.mem_of_getElem? (i := 31) rfl))) (by decide) (backOf (W := 0) (rm4 l Z a0 hw [] (0 : Int64) (own_nano i0 i1 i2 i) h0 n0 Z0 ) hZ (hw _ (List.mem_of_getElem? (i := 31) rfl)) (hw _ (List.mem_of_getElem? (i := 30) rfl)) (by decide) (by decide)) (g := (mkF m 32 #[.val (.ref a1), .val (.ref ar), .val (.int fr), .val (.int to), .val (.long su), .second, .val (.long wr), .second, .val (.long ma), .second, .val (.int (Int32.ofNat i)), .val (.long d11), .second, .val (.int d13), .val (.ref d14), s15, s16] [(.long (own_nano i0 i1 i2 i)), (.long (0 : Int64))])) rfl (by rw [hml]; rfl) (argsL := [(.long (0 : Int64)), (.long (own_nano i0 i1 i2 i))]) (rest := []) (lenOf pd_3 rfl) rfl (by show 2 * 0 + _ ≤ _; exact Nat.le_of_eq rfl) (hb hby d3_32) (fun _ _ => ⟨rfl, e0, hc0, hs0⟩)
    dsimp only [Pt.U, Pt.locs, Pt.cells, Pt.slots] at Xw2 lw2 yw2 zw2 stw2 hQw2
    subst lw2 yw2 zw2
    obtain ⟨rfl, Nqw2, eqw2⟩ := hQw2
    have Nw2 := Fr.app N0 Nqw2
    have wsg3 : ∀ t, Steps p.tables e below (Tw2.setTop (mkF m 39 #[.val (.ref a1), .val (.ref ar), .val (.int fr), .val (.int to), .val (.long su), .second, .val (.long wr), .second, .val (.long ma), .second, .val (.int (Int32.ofNat i)), .val (.long (own_mx (0 : Int64) (own_nano i0 i1 i2 i))), .second, .val (.int d13), .val (.ref d14), s15, s16] [(.long (own_mx (0 : Int64) (own_nano i0 i1 i2 i)))])) t → Steps p.tables e below (Tw2.setTop (mkF m 35 #[.val (.ref a1), .val (.ref ar), .val (.int fr), .val (.int to), .val (.long su), .second, .val (.long wr), .second, .val (.long ma), .second, .val (.int (Int32.ofNat i)), .val (.long d11), .second, .val (.int d13), .val (.ref d14), s15, s16] [(.long (own_mx (0 : Int64) (own_nano i0 i1 i2 i)))])) t := by
      intro t kt
      refine XS.lstore Xw2.here hx rfl (hb hby d3_35) rfl (l' := #[.val (.ref a1), .val (.ref ar), .val (.int fr), .val (.int to), .val (.long su), .second, .val (.long wr), .second, .val (.long ma), .second, .val (.int (Int32.ofNat i)), .val (.long (own_mx (0 : Int64) (own_nano i0 i1 i2 i))), .second, .val (.int d13), .val (.ref d14), s15, s16]) rfl ?_
      show Steps p.tables e below (Tw2.setTop (mkF m 37 #[.val (.ref a1), .val (.ref ar), .val (.int fr), .val (.int to), .val (.long su), .second, .val (.long wr), .second, .val (.long ma), .second, .val (.int (Int32.ofNat i)), .val (.long (own_mx (0 : Int64) (own_nano i0 i1 i2 i))), .second, .val (.int d13), .val (.ref d14), s15, s16] [])) _
      refine XS.lload Xw2.here hx rfl (hb hby d3_37) rfl ?_
      exact kt
    obtain ⟨_, _, ⟨Tw4, Lw4, kw4, nw4⟩, -, Xw4, ⟨Lcw4, hQw4, lw4, yw4, zw4⟩, stw4⟩ := Jvm.LawKit.callS Xw2 hx (y := (⟨"com/example/cormorant/cormorant/Histogram", "blockOf", "(J)I"⟩ : MethodName)) hown (mvT hZ (hw _ (List.mem_of_getElem? (i := 32) rfl))) (mvT hZ (hw _ (List.mem_of_getElem? (i := 33) rfl))) (mvT hZ (hw _ (List.mem_of_getElem? (i := 4) rfl))) (mvT hZ (hw _ (List.mem_of_getElem? (i := 34) rfl))) (by decide) (backOf (W := 0) (rm5 l Z a0 hw [] (own_mx (0 : Int64) (own_nano i0 i1 i2 i)) h0 n0 Z0 (own_m0 _).1) hZ (hw _ (List.mem_of_getElem? (i := 34) rfl)) (hw _ (List.mem_of_getElem? (i := 4) rfl)) (by decide) (by decide)) (g := (mkF m 39 #[.val (.ref a1), .val (.ref ar), .val (.int fr), .val (.int to), .val (.long su), .second, .val (.long wr), .second, .val (.long ma), .second, .val (.int (Int32.ofNat i)), .val (.long (own_mx (0 : Int64) (own_nano i0 i1 i2 i))), .second, .val (.int d13), .val (.ref d14), s15, s16] [(.long (own_mx (0 : Int64) (own_nano i0 i1 i2 i)))])) rfl (by rw [hml]; rfl) (argsL := [(.long (own_mx (0 : Int64) (own_nano i0 i1 i2 i)))]) (rest := []) (lenOf pd_1 rfl) rfl (by show 2 * 0 + _ ≤ _; exact Nat.le_of_eq rfl) (hb hby d3_39) (fun _ _ => ⟨rfl, eqw2, hc0, hs0⟩)
    dsimp only [Pt.U, Pt.locs, Pt.cells, Pt.slots] at Xw4 lw4 yw4 zw4 stw4 hQw4
    subst lw4 yw4 zw4
    obtain ⟨⟨b, rfl, b0, b1⟩, Nqw4, eqw4⟩ := hQw4
    have Nw4 := Fr.app Nw2 Nqw4
    have wsg5 : ∀ t, Steps p.tables e below (Tw4.setTop (mkF m 45 #[.val (.ref a1), .val (.ref ar), .val (.int fr), .val (.int to), .val (.long su), .second, .val (.long wr), .second, .val (.long ma), .second, .val (.int (Int32.ofNat i)), .val (.long (own_mx (0 : Int64) (own_nano i0 i1 i2 i))), .second, .val (.int b), .val (.ref d14), s15, s16] [(.ref a1)])) t → Steps p.tables e below (Tw4.setTop (mkF m 42 #[.val (.ref a1), .val (.ref ar), .val (.int fr), .val (.int to), .val (.long su), .second, .val (.long wr), .second, .val (.long ma), .second, .val (.int (Int32.ofNat i)), .val (.long (own_mx (0 : Int64) (own_nano i0 i1 i2 i))), .second, .val (.int d13), .val (.ref d14), s15, s16] [(.int b)])) t := by
      intro t kt
      refine XS.istore Xw4.here hx rfl (hb hby d3_42) rfl (l' := #[.val (.ref a1), .val (.ref ar), .val (.int fr), .val (.int to), .val (.long su), .second, .val (.long wr), .second, .val (.long ma), .second, .val (.int (Int32.ofNat i)), .val (.long (own_mx (0 : Int64) (own_nano i0 i1 i2 i))), .second, .val (.int b), .val (.ref d14), s15, s16]) rfl ?_
      show Steps p.tables e below (Tw4.setTop (mkF m 44 #[.val (.ref a1), .val (.ref ar), .val (.int fr), .val (.int to), .val (.long su), .second, .val (.long wr), .second, .val (.long ma), .second, .val (.int (Int32.ofNat i)), .val (.long (own_mx (0 : Int64) (own_nano i0 i1 i2 i))), .second, .val (.int b), .val (.ref d14), s15, s16] [])) _
      refine XS.aloadN Xw4.here hx rfl (hb hby d3_44) rfl rfl ?_
      exact kt
    obtain ⟨Tw6, Xw6, ew6, stw6⟩ := getF Xw4 hx hZ hown (host := "") (Or.inl (hw _ (List.mem_of_getElem? (i := 13) rfl))) Via.refl eqw4 O2 (g := (mkF m 45 #[.val (.ref a1), .val (.ref ar), .val (.int fr), .val (.int to), .val (.long su), .second, .val (.long wr), .second, .val (.long ma), .second, .val (.int (Int32.ofNat i)), .val (.long (own_mx (0 : Int64) (own_nano i0 i1 i2 i))), .second, .val (.int b), .val (.ref d14), s15, s16] [(.ref a1)])) rfl rfl (hb hby d3_45)
    obtain ⟨hinB, hbn⟩ := own_inb (N := 57) b0 (by omega) B2
    obtain ⟨vB, hvB, rB⟩ := B4 _ hbn
    rcases rB with rfl | ⟨y, cy, rfl, gy, Y1, Y2, Y3⟩
    · have wsg7 : ∀ t, Steps p.tables e below (Tw6.setTop (mkF m 61 #[.val (.ref a1), .val (.ref ar), .val (.int fr), .val (.int to), .val (.long su), .second, .val (.long wr), .second, .val (.long ma), .second, .val (.int (Int32.ofNat i)), .val (.long (own_mx (0 : Int64) (own_nano i0 i1 i2 i))), .second, .val (.int b), .val .null, s15, s16] [(.int (128 : Int32))])) t → Steps p.tables e below (Tw6.setTop (mkF m 48 #[.val (.ref a1), .val (.ref ar), .val (.int fr), .val (.int to), .val (.long su), .second, .val (.long wr), .second, .val (.long ma), .second, .val (.int (Int32.ofNat i)), .val (.long (own_mx (0 : Int64) (own_nano i0 i1 i2 i))), .second, .val (.int b), .val (.ref d14), s15, s16] [(.ref B)])) t := by
        intro t kt
        refine XS.iload Xw6.here hx rfl (hb hby d3_48) rfl ?_
        show Steps p.tables e below (Tw6.setTop (mkF m 50 #[.val (.ref a1), .val (.ref ar), .val (.int fr), .val (.int to), .val (.long su), .second, .val (.long wr), .second, .val (.long ma), .second, .val (.int (Int32.ofNat i)), .val (.long (own_mx (0 : Int64) (own_nano i0 i1 i2 i))), .second, .val (.int b), .val (.ref d14), s15, s16] [(.int b), (.ref B)])) _
        refine Xw6.aaload hx (j := b) (v := .null) (by rw [ew6]; exact B1.1) (State.isArrayOf_alike hZ.alike B1.2.1) rfl B1.2.2 hinB hvB (g := (mkF m 50 #[.val (.ref a1), .val (.ref ar), .val (.int fr), .val (.int to), .val (.long su), .second, .val (.long wr), .second, .val (.long ma), .second, .val (.int (Int32.ofNat i)), .val (.long (own_mx (0 : Int64) (own_nano i0 i1 i2 i))), .second, .val (.int b), .val (.ref d14), s15, s16] [(.int b), (.ref B)])) rfl rfl (hb hby d3_50) _ ?_
        show Steps p.tables e below (Tw6.setTop (mkF m 51 #[.val (.ref a1), .val (.ref ar), .val (.int fr), .val (.int to), .val (.long su), .second, .val (.long wr), .second, .val (.long ma), .second, .val (.int (Int32.ofNat i)), .val (.long (own_mx (0 : Int64) (own_nano i0 i1 i2 i))), .second, .val (.int b), .val (.ref d14), s15, s16] [.null])) _
        refine XS.astore Xw6.here hx rfl (hb hby d3_51) rfl rfl (l' := #[.val (.ref a1), .val (.ref ar), .val (.int fr), .val (.int to), .val (.long su), .second, .val (.long wr), .second, .val (.long ma), .second, .val (.int (Int32.ofNat i)), .val (.long (own_mx (0 : Int64) (own_nano i0 i1 i2 i))), .second, .val (.int b), .val .null, s15, s16]) rfl ?_
        show Steps p.tables e below (Tw6.setTop (mkF m 53 #[.val (.ref a1), .val (.ref ar), .val (.int fr), .val (.int to), .val (.long su), .second, .val (.long wr), .second, .val (.long ma), .second, .val (.int (Int32.ofNat i)), .val (.long (own_mx (0 : Int64) (own_nano i0 i1 i2 i))), .second, .val (.int b), .val .null, s15, s16] [])) _
        refine XS.aload Xw6.here hx rfl (hb hby d3_53) rfl rfl ?_
        show Steps p.tables e below (Tw6.setTop (mkF m 55 #[.val (.ref a1), .val (.ref ar), .val (.int fr), .val (.int to), .val (.long su), .second, .val (.long wr), .second, .val (.long ma), .second, .val (.int (Int32.ofNat i)), .val (.long (own_mx (0 : Int64) (own_nano i0 i1 i2 i))), .second, .val (.int b), .val .null, s15, s16] [.null])) _
        refine XS.ifnonnullNo Xw6.here hx rfl (hb hby d3_55) rfl ?_
        show Steps p.tables e below (Tw6.setTop (mkF m 58 #[.val (.ref a1), .val (.ref ar), .val (.int fr), .val (.int to), .val (.long su), .second, .val (.long wr), .second, .val (.long ma), .second, .val (.int (Int32.ofNat i)), .val (.long (own_mx (0 : Int64) (own_nano i0 i1 i2 i))), .second, .val (.int b), .val .null, s15, s16] [])) _
        refine XS.sipush Xw6.here hx rfl (hb hby d3_58) ?_
        exact kt
      obtain ⟨Tw8, hw8, kw8, Xw8, ew8, Ew8, Aw8, Jw8, stw8⟩ := newPE Xw6 hx hZ (hw _ (List.mem_of_getElem? (i := 1) rfl)) ew6 (g := (mkF m 61 #[.val (.ref a1), .val (.ref ar), .val (.int fr), .val (.int to), .val (.long su), .second, .val (.long wr), .second, .val (.long ma), .second, .val (.int (Int32.ofNat i)), .val (.long (own_mx (0 : Int64) (own_nano i0 i1 i2 i))), .second, .val (.int b), .val .null, s15, s16] [(.int (128 : Int32))])) rfl (hb hby d3_61) rfl (by decide) (cap := 128) (by decide) (by decide) hc1 hs1 (ad := "[J") (by decide)
      obtain ⟨y, gq⟩ : ∃ z, z = h0.size := ⟨_, rfl⟩
      rw [← gq] at Aw8 Jw8 stw8
      have gy : n0 ≤ y := by omega
      have IA1 := own_arrs_ext Ew8 IA
      have IO1 := own_obj_ext Ew8 IO
      have rw1 : own_row Z hw8 n0 (.ref y) := Or.inr ⟨y, _, rfl, gy, Aw8, by rw [sz_new]; decide, own_new_longs _⟩
      have wsg9 : ∀ t, Steps p.tables e below (Tw8.setTop (mkF m 66 #[.val (.ref a1), .val (.ref ar), .val (.int fr), .val (.int to), .val (.long su), .second, .val (.long wr), .second, .val (.long ma), .second, .val (.int (Int32.ofNat i)), .val (.long (own_mx (0 : Int64) (own_nano i0 i1 i2 i))), .second, .val (.int b), .val (.ref y), s15, s16] [(.ref a1)])) t → Steps p.tables e below (Tw8.setTop (mkF m 63 #[.val (.ref a1), .val (.ref ar), .val (.int fr), .val (.int to), .val (.long su), .second, .val (.long wr), .second, .val (.long ma), .second, .val (.int (Int32.ofNat i)), .val (.long (own_mx (0 : Int64) (own_nano i0 i1 i2 i))), .second, .val (.int b), .val .null, s15, s16] [(.ref y)])) t := by
        intro t kt
        refine XS.astore Xw8.here hx rfl (hb hby d3_63) rfl rfl (l' := #[.val (.ref a1), .val (.ref ar), .val (.int fr), .val (.int to), .val (.long su), .second, .val (.long wr), .second, .val (.long ma), .second, .val (.int (Int32.ofNat i)), .val (.long (own_mx (0 : Int64) (own_nano i0 i1 i2 i))), .second, .val (.int b), .val (.ref y), s15, s16]) rfl ?_
        show Steps p.tables e below (Tw8.setTop (mkF m 65 #[.val (.ref a1), .val (.ref ar), .val (.int fr), .val (.int to), .val (.long su), .second, .val (.long wr), .second, .val (.long ma), .second, .val (.int (Int32.ofNat i)), .val (.long (own_mx (0 : Int64) (own_nano i0 i1 i2 i))), .second, .val (.int b), .val (.ref y), s15, s16] [])) _
        refine XS.aloadN Xw8.here hx rfl (hb hby d3_65) rfl rfl ?_
        exact kt
      obtain ⟨Tw10, Xw10, ew10, stw10⟩ := getF Xw8 hx hZ hown (host := "") (Or.inl (hw _ (List.mem_of_getElem? (i := 13) rfl))) Via.refl ew8 IO1.2.1 (g := (mkF m 66 #[.val (.ref a1), .val (.ref ar), .val (.int fr), .val (.int to), .val (.long su), .second, .val (.long wr), .second, .val (.long ma), .second, .val (.int (Int32.ofNat i)), .val (.long (own_mx (0 : Int64) (own_nano i0 i1 i2 i))), .second, .val (.int b), .val (.ref y), s15, s16] [(.ref a1)])) rfl rfl (hb hby d3_66)
      have wsg11 : ∀ t, Steps p.tables e below (Tw10.setTop (mkF m 73 #[.val (.ref a1), .val (.ref ar), .val (.int fr), .val (.int to), .val (.long su), .second, .val (.long wr), .second, .val (.long ma), .second, .val (.int (Int32.ofNat i)), .val (.long (own_mx (0 : Int64) (own_nano i0 i1 i2 i))), .second, .val (.int b), .val (.ref y), s15, s16] [(.ref y), (.int b), (.ref B)])) t → Steps p.tables e below (Tw10.setTop (mkF m 69 #[.val (.ref a1), .val (.ref ar), .val (.int fr), .val (.int to), .val (.long su), .second, .val (.long wr), .second, .val (.long ma), .second, .val (.int (Int32.ofNat i)), .val (.long (own_mx (0 : Int64) (own_nano i0 i1 i2 i))), .second, .val (.int b), .val (.ref y), s15, s16] [(.ref B)])) t := by
        intro t kt
        refine XS.iload Xw10.here hx rfl (hb hby d3_69) rfl ?_
        show Steps p.tables e below (Tw10.setTop (mkF m 71 #[.val (.ref a1), .val (.ref ar), .val (.int fr), .val (.int to), .val (.long su), .second, .val (.long wr), .second, .val (.long ma), .second, .val (.int (Int32.ofNat i)), .val (.long (own_mx (0 : Int64) (own_nano i0 i1 i2 i))), .second, .val (.int b), .val (.ref y), s15, s16] [(.int b), (.ref B)])) _
        refine XS.aload Xw10.here hx rfl (hb hby d3_71) rfl rfl ?_
        exact kt
      obtain ⟨Tw12, hw12, Xw12, ew12, Ww12, stw12⟩ := stR Xw10 hx hZ ew10 (B1.ext Ew8) (j := b) hinB rfl (Sto.ofVA (B1.ext Ew8) rfl B3 (Ins.self Jw8)) (g := (mkF m 73 #[.val (.ref a1), .val (.ref ar), .val (.int fr), .val (.int to), .val (.long su), .second, .val (.long wr), .second, .val (.long ma), .second, .val (.int (Int32.ofNat i)), .val (.long (own_mx (0 : Int64) (own_nano i0 i1 i2 i))), .second, .val (.int b), .val (.ref y), s15, s16] [(.ref y), (.int b), (.ref B)])) rfl rfl (hb hby d3_73)
      have Nw12 := Fr.snoc Xw12 Nw4 gB
      have IA2 := own_arrs_bks Ww12 rw1 IA1
      have IO2 := own_obj_far Ww12 (B1.ext Ew8) (hw _ (List.mem_of_getElem? (i := 3) rfl)) IO1
      have Ay : Arr Z hw12 y _ .long := Aw8.other Ww12 (own_ne Aw8 (B1.ext Ew8) (by rw [sz_new, B2]; decide))
      refine ⟨Tw12, hw12, _, b, y, Xw12, ew12, Nw12, ?_, IA2, IO2, ⟨gy, _, Ay, by rw [sz_new]; decide, own_new_longs _⟩, b0, b1, fun t kt => ?_⟩
      · rw [Ww12.size]; exact Ew8.1
      · refine wsg1 _ ?_
        refine stw2 _ ?_
        refine wsg3 _ ?_
        refine stw4 _ ?_
        refine wsg5 _ ?_
        refine stw6 _ ?_
        refine wsg7 _ ?_
        refine stw8 _ ?_
        refine wsg9 _ ?_
        refine stw10 _ ?_
        refine wsg11 _ ?_
        refine stw12 _ ?_
        exact kt
    · have wsg7 : ∀ t, Steps p.tables e below (Tw6.setTop (mkF m 74 #[.val (.ref a1), .val (.ref ar), .val (.int fr), .val (.int to), .val (.long su), .second, .val (.long wr), .second, .val (.long ma), .second, .val (.int (Int32.ofNat i)), .val (.long (own_mx (0 : Int64) (own_nano i0 i1 i2 i))), .second, .val (.int b), .val (.ref y), s15, s16] [])) t → Steps p.tables e below (Tw6.setTop (mkF m 48 #[.val (.ref a1), .val (.ref ar), .val (.int fr), .val (.int to), .val (.long su), .second, .val (.long wr), .second, .val (.long ma), .second, .val (.int (Int32.ofNat i)), .val (.long (own_mx (0 : Int64) (own_nano i0 i1 i2 i))), .second, .val (.int b), .val (.ref d14), s15, s16] [(.ref B)])) t := by
        intro t kt
        refine XS.iload Xw6.here hx rfl (hb hby d3_48) rfl ?_
        show Steps p.tables e below (Tw6.setTop (mkF m 50 #[.val (.ref a1), .val (.ref ar), .val (.int fr), .val (.int to), .val (.long su), .second, .val (.long wr), .second, .val (.long ma), .second, .val (.int (Int32.ofNat i)), .val (.long (own_mx (0 : Int64) (own_nano i0 i1 i2 i))), .second, .val (.int b), .val (.ref d14), s15, s16] [(.int b), (.ref B)])) _
        refine Xw6.aaload hx (j := b) (v := (.ref y)) (by rw [ew6]; exact B1.1) (State.isArrayOf_alike hZ.alike B1.2.1) rfl B1.2.2 hinB hvB (g := (mkF m 50 #[.val (.ref a1), .val (.ref ar), .val (.int fr), .val (.int to), .val (.long su), .second, .val (.long wr), .second, .val (.long ma), .second, .val (.int (Int32.ofNat i)), .val (.long (own_mx (0 : Int64) (own_nano i0 i1 i2 i))), .second, .val (.int b), .val (.ref d14), s15, s16] [(.int b), (.ref B)])) rfl rfl (hb hby d3_50) _ ?_
        show Steps p.tables e below (Tw6.setTop (mkF m 51 #[.val (.ref a1), .val (.ref ar), .val (.int fr), .val (.int to), .val (.long su), .second, .val (.long wr), .second, .val (.long ma), .second, .val (.int (Int32.ofNat i)), .val (.long (own_mx (0 : Int64) (own_nano i0 i1 i2 i))), .second, .val (.int b), .val (.ref d14), s15, s16] [(.ref y)])) _
        refine XS.astore Xw6.here hx rfl (hb hby d3_51) rfl rfl (l' := #[.val (.ref a1), .val (.ref ar), .val (.int fr), .val (.int to), .val (.long su), .second, .val (.long wr), .second, .val (.long ma), .second, .val (.int (Int32.ofNat i)), .val (.long (own_mx (0 : Int64) (own_nano i0 i1 i2 i))), .second, .val (.int b), .val (.ref y), s15, s16]) rfl ?_
        show Steps p.tables e below (Tw6.setTop (mkF m 53 #[.val (.ref a1), .val (.ref ar), .val (.int fr), .val (.int to), .val (.long su), .second, .val (.long wr), .second, .val (.long ma), .second, .val (.int (Int32.ofNat i)), .val (.long (own_mx (0 : Int64) (own_nano i0 i1 i2 i))), .second, .val (.int b), .val (.ref y), s15, s16] [])) _
        refine XS.aload Xw6.here hx rfl (hb hby d3_53) rfl rfl ?_
        show Steps p.tables e below (Tw6.setTop (mkF m 55 #[.val (.ref a1), .val (.ref ar), .val (.int fr), .val (.int to), .val (.long su), .second, .val (.long wr), .second, .val (.long ma), .second, .val (.int (Int32.ofNat i)), .val (.long (own_mx (0 : Int64) (own_nano i0 i1 i2 i))), .second, .val (.int b), .val (.ref y), s15, s16] [(.ref y)])) _
        refine XS.ifnonnullYes Xw6.here hx rfl (pc0 := 55) (pc' := 74) rfl (hb hby d3_55) rfl (by decide) (by decide) ?_
        exact kt
      refine ⟨Tw6, h0, _, b, y, Xw6.more (by omega) (by omega), ew6, Nw4, Nat.le_refl _, IA, IO, ⟨gy, cy, Y1, Y2, Y3⟩, b0, b1, fun t kt => ?_⟩
      refine wsg1 _ ?_
      refine stw2 _ ?_
      refine wsg3 _ ?_
      refine stw4 _ ?_
      refine wsg5 _ ?_
      refine stw6 _ ?_
      refine wsg7 _ ?_
      exact kt
set_option maxRecDepth 65536 in
set_option maxHeartbeats 40000000 in
theorem own_tB {p : Program} {l : Launch} {e : Env} {s : State} {m : MethodId} {args : Array Value} {below : List Frame} {meth : Method} {c : Code} {T0 : State} {locs : List Loc} {cells slots : Nat} {Z : State} {h0 : Heap} {a0 : Array Value} {n0 : Nat} (X0 : Stand p l e ({ frames := 3, cells := 3, slots := 384, locals := 43 } : Room) s m args below meth c T0 locs cells slots) (hx : p.tables.exec = Jvm.exec) (hZ : Z.Warmed39 s.vm) (hw : ∀ d ∈ tables_1, d.before a0 Z = true) (hby : c.code = prog_1_method_2_code) (hml : c.maxLocals = 17) (hown : s.vm.findClass "com/example/cormorant/cormorant/Histogram" = some m.cls) (e0 : T0.heap = h0) (Z0 : n0 ≤ h0.size) (N0 : Fr n0 locs) (hc0 : cells + 0 ≤ ({ frames := 3, cells := 3, slots := 384, locals := 43 } : Room).cells) (hs0 : slots + 0 ≤ ({ frames := 3, cells := 3, slots := 384, locals := 43 } : Room).slots) (a1 ar B D : Addr) (i0 i1 i2 sm sw mx ct : Int64) (fr to : Int32) (i : Nat) (su wr ma : Int64) (b : Int32) (y : Addr) (s15 s16 : Slot) (IA : own_arrs Z h0 n0 ar B D i0 i1 i2) (IO : own_obj Z h0 a1 B D sm sw mx ct) (gy : n0 ≤ y) (cy : Cell) (Y1 : Arr Z h0 y cy .long) (Y2 : cy.slots.size = 128) (Y3 : own_longs cy) (hb0 : 0 ≤ b.toInt) (hb1 : b.toInt ≤ 56) (hsl : ((s15 = .unset ∧ s16 = .unset) ∨ ∃ d15, s15 = .val (.long d15) ∧ s16 = .second)) :
    ∃ T' h' locs' ma', Stand p l e ({ frames := 3, cells := 3, slots := 384, locals := 43 } : Room) s m args below meth c T' locs' cells slots ∧ T'.heap = h' ∧ Fr n0 locs' ∧ h0.size ≤ h'.size ∧ own_arrs Z h' n0 ar B D i0 i1 i2 ∧ own_obj Z h' a1 B D sm sw mx ct ∧ True ∧ ∀ t, Steps p.tables e below (T'.setTop (mkF m 21 #[.val (.ref a1), .val (.ref ar), .val (.int fr), .val (.int to), .val (.long (own_st (su, wr) (own_nano i0 i1 i2 i)).1), .second, .val (.long (own_st (su, wr) (own_nano i0 i1 i2 i)).2), .second, .val (.long ma'), .second, .val (.int (Int32.ofNat (i + 1))), .val (.long (own_mx (0 : Int64) (own_nano i0 i1 i2 i))), .second, .val (.int b), .val (.ref y), .val (.long (su + (own_mx (0 : Int64) (own_nano i0 i1 i2 i)))), .second] [])) t → Steps p.tables e below (T0.setTop (mkF m 74 #[.val (.ref a1), .val (.ref ar), .val (.int fr), .val (.int to), .val (.long su), .second, .val (.long wr), .second, .val (.long ma), .second, .val (.int (Int32.ofNat i)), .val (.long (own_mx (0 : Int64) (own_nano i0 i1 i2 i))), .second, .val (.int b), .val (.ref y), s15, s16] [])) t := by
  rcases hsl with ⟨rfl, rfl⟩ | ⟨d15, rfl, rfl⟩
  · have wsg1 : ∀ t, Steps p.tables e below (T0.setTop (mkF m 80 #[.val (.ref a1), .val (.ref ar), .val (.int fr), .val (.int to), .val (.long su), .second, .val (.long wr), .second, .val (.long ma), .second, .val (.int (Int32.ofNat i)), .val (.long (own_mx (0 : Int64) (own_nano i0 i1 i2 i))), .second, .val (.int b), .val (.ref y), .unset, .unset] [(.int b), (.long (own_mx (0 : Int64) (own_nano i0 i1 i2 i))), (.ref y)])) t → Steps p.tables e below (T0.setTop (mkF m 74 #[.val (.ref a1), .val (.ref ar), .val (.int fr), .val (.int to), .val (.long su), .second, .val (.long wr), .second, .val (.long ma), .second, .val (.int (Int32.ofNat i)), .val (.long (own_mx (0 : Int64) (own_nano i0 i1 i2 i))), .second, .val (.int b), .val (.ref y), .unset, .unset] [])) t := by
      intro t kt
      refine XS.aload X0.here hx rfl (hb hby d3_74) rfl rfl ?_
      show Steps p.tables e below (T0.setTop (mkF m 76 #[.val (.ref a1), .val (.ref ar), .val (.int fr), .val (.int to), .val (.long su), .second, .val (.long wr), .second, .val (.long ma), .second, .val (.int (Int32.ofNat i)), .val (.long (own_mx (0 : Int64) (own_nano i0 i1 i2 i))), .second, .val (.int b), .val (.ref y), .unset, .unset] [(.ref y)])) _
      refine XS.lload X0.here hx rfl (hb hby d3_76) rfl ?_
      show Steps p.tables e below (T0.setTop (mkF m 78 #[.val (.ref a1), .val (.ref ar), .val (.int fr), .val (.int to), .val (.long su), .second, .val (.long wr), .second, .val (.long ma), .second, .val (.int (Int32.ofNat i)), .val (.long (own_mx (0 : Int64) (own_nano i0 i1 i2 i))), .second, .val (.int b), .val (.ref y), .unset, .unset] [(.long (own_mx (0 : Int64) (own_nano i0 i1 i2 i))), (.ref y)])) _
      refine XS.iload X0.here hx rfl (hb hby d3_78) rfl ?_
      exact kt
    obtain ⟨_, _, ⟨Tw2, Lw2, kw2, nw2⟩, -, Xw2, ⟨Lcw2, hQw2, lw2, yw2, zw2⟩, stw2⟩ := Jvm.LawKit.callS X0 hx (y := (⟨"com/example/cormorant/cormorant/Histogram", "shiftOf", "(I)I"⟩ : MethodName)) hown (mvT hZ (hw _ (List.mem_of_getElem? (i := 48) rfl))) (mvT hZ (hw _ (List.mem_of_getElem? (i := 49) rfl))) (mvT hZ (hw _ (List.mem_of_getElem? (i := 4) rfl))) (mvT hZ (hw _ (List.mem_of_getElem? (i := 50) rfl))) (by decide) (backOf (W := 3) (rm9 l Z a0 hw [] b h0 n0 Z0 ) hZ (hw _ (List.mem_of_getElem? (i := 50) rfl)) (hw _ (List.mem_of_getElem? (i := 4) rfl)) (by decide) (by decide)) (g := (mkF m 80 #[.val (.ref a1), .val (.ref ar), .val (.int fr), .val (.int to), .val (.long su), .second, .val (.long wr), .second, .val (.long ma), .second, .val (.int (Int32.ofNat i)), .val (.long (own_mx (0 : Int64) (own_nano i0 i1 i2 i))), .second, .val (.int b), .val (.ref y), .unset, .unset] [(.int b), (.long (own_mx (0 : Int64) (own_nano i0 i1 i2 i))), (.ref y)])) rfl (by rw [hml]; rfl) (argsL := [(.int b)]) (rest := [(.long (own_mx (0 : Int64) (own_nano i0 i1 i2 i))), (.ref y)]) (lenOf pd_0 rfl) rfl (by show 2 * 0 + _ ≤ _; exact Nat.le_of_eq rfl) (hb hby d3_80) (fun _ _ => ⟨rfl, e0, hc0, hs0⟩)
    dsimp only [Pt.U, Pt.locs, Pt.cells, Pt.slots] at Xw2 lw2 yw2 zw2 stw2 hQw2
    subst lw2 yw2 zw2
    obtain ⟨rfl, Nqw2, eqw2⟩ := hQw2
    have Nw2 := Fr.app N0 Nqw2
    have wsg3 : ∀ t, Steps p.tables e below (Tw2.setTop (mkF m 88 #[.val (.ref a1), .val (.ref ar), .val (.int fr), .val (.int to), .val (.long su), .second, .val (.long wr), .second, .val (.long ma), .second, .val (.int (Int32.ofNat i)), .val (.long (own_mx (0 : Int64) (own_nano i0 i1 i2 i))), .second, .val (.int b), .val (.ref y), .unset, .unset] [(.int (((((own_mx (0 : Int64) (own_nano i0 i1 i2 i)).toUInt64 >>> ((own_mi (0 : Int32) (b - (1 : Int32))) &&& 0x3f).toInt64.toUInt64).toInt64).toInt32) &&& (127 : Int32))), (.ref y)])) t → Steps p.tables e below (Tw2.setTop (mkF m 83 #[.val (.ref a1), .val (.ref ar), .val (.int fr), .val (.int to), .val (.long su), .second, .val (.long wr), .second, .val (.long ma), .second, .val (.int (Int32.ofNat i)), .val (.long (own_mx (0 : Int64) (own_nano i0 i1 i2 i))), .second, .val (.int b), .val (.ref y), .unset, .unset] [(.int (own_mi (0 : Int32) (b - (1 : Int32)))), (.long (own_mx (0 : Int64) (own_nano i0 i1 i2 i))), (.ref y)])) t := by
      intro t kt
      refine XS.lushr Xw2.here hx rfl (hb hby d3_83) rfl ?_
      show Steps p.tables e below (Tw2.setTop (mkF m 84 #[.val (.ref a1), .val (.ref ar), .val (.int fr), .val (.int to), .val (.long su), .second, .val (.long wr), .second, .val (.long ma), .second, .val (.int (Int32.ofNat i)), .val (.long (own_mx (0 : Int64) (own_nano i0 i1 i2 i))), .second, .val (.int b), .val (.ref y), .unset, .unset] [(.long (((own_mx (0 : Int64) (own_nano i0 i1 i2 i)).toUInt64 >>> ((own_mi (0 : Int32) (b - (1 : Int32))) &&& 0x3f).toInt64.toUInt64).toInt64)), (.ref y)])) _
      refine XS.l2i Xw2.here hx rfl (hb hby d3_84) rfl ?_
      show Steps p.tables e below (Tw2.setTop (mkF m 85 #[.val (.ref a1), .val (.ref ar), .val (.int fr), .val (.int to), .val (.long su), .second, .val (.long wr), .second, .val (.long ma), .second, .val (.int (Int32.ofNat i)), .val (.long (own_mx (0 : Int64) (own_nano i0 i1 i2 i))), .second, .val (.int b), .val (.ref y), .unset, .unset] [(.int ((((own_mx (0 : Int64) (own_nano i0 i1 i2 i)).toUInt64 >>> ((own_mi (0 : Int32) (b - (1 : Int32))) &&& 0x3f).toInt64.toUInt64).toInt64).toInt32)), (.ref y)])) _
      refine XS.bipush Xw2.here hx rfl (hb hby d3_85) ?_
      show Steps p.tables e below (Tw2.setTop (mkF m 87 #[.val (.ref a1), .val (.ref ar), .val (.int fr), .val (.int to), .val (.long su), .second, .val (.long wr), .second, .val (.long ma), .second, .val (.int (Int32.ofNat i)), .val (.long (own_mx (0 : Int64) (own_nano i0 i1 i2 i))), .second, .val (.int b), .val (.ref y), .unset, .unset] [(.int (127 : Int32)), (.int ((((own_mx (0 : Int64) (own_nano i0 i1 i2 i)).toUInt64 >>> ((own_mi (0 : Int32) (b - (1 : Int32))) &&& 0x3f).toInt64.toUInt64).toInt64).toInt32)), (.ref y)])) _
      refine XS.iand Xw2.here hx rfl (hb hby d3_87) rfl ?_
      exact kt
    have hx127 := c_and (((((own_mx (0 : Int64) (own_nano i0 i1 i2 i)).toUInt64 >>> ((own_mi (0 : Int32) (b - (1 : Int32))) &&& 0x3f).toInt64.toUInt64).toInt64).toInt32)) (127 : Int32) (by decide)
    obtain ⟨ix, hix⟩ : ∃ z, z = (((((own_mx (0 : Int64) (own_nano i0 i1 i2 i)).toUInt64 >>> ((own_mi (0 : Int32) (b - (1 : Int32))) &&& 0x3f).toInt64.toUInt64).toInt64).toInt32) &&& (127 : Int32)) := ⟨_, rfl⟩
    rw [← hix] at wsg3 hx127
    have e127 : (127 : Int32).toInt = 127 := by decide
    obtain ⟨hinY, hyn⟩ := own_inb (N := 128) hx127.1 (by omega) Y2
    obtain ⟨x1, hx1⟩ := Y3 _ (by rw [Y2]; exact hyn)
    have wsg4 : ∀ t, Steps p.tables e below (Tw2.setTop (mkF m 92 #[.val (.ref a1), .val (.ref ar), .val (.int fr), .val (.int to), .val (.long su), .second, .val (.long wr), .second, .val (.long ma), .second, .val (.int (Int32.ofNat i)), .val (.long (own_mx (0 : Int64) (own_nano i0 i1 i2 i))), .second, .val (.int b), .val (.ref y), .unset, .unset] [(.long (x1 + (1 : Int64))), (.int ix), (.ref y)])) t → Steps p.tables e below (Tw2.setTop (mkF m 88 #[.val (.ref a1), .val (.ref ar), .val (.int fr), .val (.int to), .val (.long su), .second, .val (.long wr), .second, .val (.long ma), .second, .val (.int (Int32.ofNat i)), .val (.long (own_mx (0 : Int64) (own_nano i0 i1 i2 i))), .second, .val (.int b), .val (.ref y), .unset, .unset] [(.int ix), (.ref y)])) t := by
      intro t kt
      refine Jvm.Free.XT.dup2 Xw2.here hx rfl (hb hby d3_88) rfl rfl rfl ?_
      show Steps p.tables e below (Tw2.setTop (mkF m 89 #[.val (.ref a1), .val (.ref ar), .val (.int fr), .val (.int to), .val (.long su), .second, .val (.long wr), .second, .val (.long ma), .second, .val (.int (Int32.ofNat i)), .val (.long (own_mx (0 : Int64) (own_nano i0 i1 i2 i))), .second, .val (.int b), .val (.ref y), .unset, .unset] [(.int ix), (.ref y), (.int ix), (.ref y)])) _
      refine Xw2.laload hx (j := ix) (v := (.long x1)) (by rw [eqw2]; exact Y1.1) (State.isArrayOf_alike hZ.alike Y1.2.1) Y1.2.2 hinY hx1 (g := (mkF m 89 #[.val (.ref a1), .val (.ref ar), .val (.int fr), .val (.int to), .val (.long su), .second, .val (.long wr), .second, .val (.long ma), .second, .val (.int (Int32.ofNat i)), .val (.long (own_mx (0 : Int64) (own_nano i0 i1 i2 i))), .second, .val (.int b), .val (.ref y), .unset, .unset] [(.int ix), (.ref y), (.int ix), (.ref y)])) rfl rfl (hb hby d3_89) _ ?_
      show Steps p.tables e below (Tw2.setTop (mkF m 90 #[.val (.ref a1), .val (.ref ar), .val (.int fr), .val (.int to), .val (.long su), .second, .val (.long wr), .second, .val (.long ma), .second, .val (.int (Int32.ofNat i)), .val (.long (own_mx (0 : Int64) (own_nano i0 i1 i2 i))), .second, .val (.int b), .val (.ref y), .unset, .unset] [(.long x1), (.int ix), (.ref y)])) _
      refine XS.lconst Xw2.here hx rfl (hb hby d3_90) ?_
      show Steps p.tables e below (Tw2.setTop (mkF m 91 #[.val (.ref a1), .val (.ref ar), .val (.int fr), .val (.int to), .val (.long su), .second, .val (.long wr), .second, .val (.long ma), .second, .val (.int (Int32.ofNat i)), .val (.long (own_mx (0 : Int64) (own_nano i0 i1 i2 i))), .second, .val (.int b), .val (.ref y), .unset, .unset] [(.long (1 : Int64)), (.long x1), (.int ix), (.ref y)])) _
      refine XS.ladd Xw2.here hx rfl (hb hby d3_91) rfl ?_
      exact kt
    obtain ⟨Tw5, hw5, Xw5, ew5, Ww5, stw5⟩ := stJ Xw2 hx hZ eqw2 Y1 (j := ix) hinY (g := (mkF m 92 #[.val (.ref a1), .val (.ref ar), .val (.int fr), .val (.int to), .val (.long su), .second, .val (.long wr), .second, .val (.long ma), .second, .val (.int (Int32.ofNat i)), .val (.long (own_mx (0 : Int64) (own_nano i0 i1 i2 i))), .second, .val (.int b), .val (.ref y), .unset, .unset] [(.long (x1 + (1 : Int64))), (.int ix), (.ref y)])) rfl rfl (hb hby d3_92)
    have Nw5 := Fr.snoc Xw5 Nw2 gy
    have IA1 := own_arrs_row Ww5 Y1 Y2 IA
    have IO1 := own_obj_far Ww5 Y1 (hw _ (List.mem_of_getElem? (i := 3) rfl)) IO
    obtain ⟨clC, C1, C2, C3⟩ := id IA1.2.2.1
    have gD := IA1.2.2.2.2
    obtain ⟨hinC, hcn⟩ := own_inb (N := 57) hb0 (by omega) C2
    obtain ⟨x2, hx2⟩ := C3 _ (by rw [C2]; exact hcn)
    have wsg6 : ∀ t, Steps p.tables e below (Tw5.setTop (mkF m 94 #[.val (.ref a1), .val (.ref ar), .val (.int fr), .val (.int to), .val (.long su), .second, .val (.long wr), .second, .val (.long ma), .second, .val (.int (Int32.ofNat i)), .val (.long (own_mx (0 : Int64) (own_nano i0 i1 i2 i))), .second, .val (.int b), .val (.ref y), .unset, .unset] [(.ref a1)])) t → Steps p.tables e below (Tw5.setTop (mkF m 93 #[.val (.ref a1), .val (.ref ar), .val (.int fr), .val (.int to), .val (.long su), .second, .val (.long wr), .second, .val (.long ma), .second, .val (.int (Int32.ofNat i)), .val (.long (own_mx (0 : Int64) (own_nano i0 i1 i2 i))), .second, .val (.int b), .val (.ref y), .unset, .unset] [])) t := by
      intro t kt
      refine XS.aloadN Xw5.here hx rfl (hb hby d3_93) rfl rfl ?_
      exact kt
    obtain ⟨Tw7, Xw7, ew7, stw7⟩ := getF Xw5 hx hZ hown (host := "") (Or.inl (hw _ (List.mem_of_getElem? (i := 15) rfl))) Via.refl ew5 IO1.2.2.1 (g := (mkF m 94 #[.val (.ref a1), .val (.ref ar), .val (.int fr), .val (.int to), .val (.long su), .second, .val (.long wr), .second, .val (.long ma), .second, .val (.int (Int32.ofNat i)), .val (.long (own_mx (0 : Int64) (own_nano i0 i1 i2 i))), .second, .val (.int b), .val (.ref y), .unset, .unset] [(.ref a1)])) rfl rfl (hb hby d3_94)
    have wsg8 : ∀ t, Steps p.tables e below (Tw7.setTop (mkF m 103 #[.val (.ref a1), .val (.ref ar), .val (.int fr), .val (.int to), .val (.long su), .second, .val (.long wr), .second, .val (.long ma), .second, .val (.int (Int32.ofNat i)), .val (.long (own_mx (0 : Int64) (own_nano i0 i1 i2 i))), .second, .val (.int b), .val (.ref y), .unset, .unset] [(.long (x2 + (1 : Int64))), (.int b), (.ref D)])) t → Steps p.tables e below (Tw7.setTop (mkF m 97 #[.val (.ref a1), .val (.ref ar), .val (.int fr), .val (.int to), .val (.long su), .second, .val (.long wr), .second, .val (.long ma), .second, .val (.int (Int32.ofNat i)), .val (.long (own_mx (0 : Int64) (own_nano i0 i1 i2 i))), .second, .val (.int b), .val (.ref y), .unset, .unset] [(.ref D)])) t := by
      intro t kt
      refine XS.iload Xw7.here hx rfl (hb hby d3_97) rfl ?_
      show Steps p.tables e below (Tw7.setTop (mkF m 99 #[.val (.ref a1), .val (.ref ar), .val (.int fr), .val (.int to), .val (.long su), .second, .val (.long wr), .second, .val (.long ma), .second, .val (.int (Int32.ofNat i)), .val (.long (own_mx (0 : Int64) (own_nano i0 i1 i2 i))), .second, .val (.int b), .val (.ref y), .unset, .unset] [(.int b), (.ref D)])) _
      refine Jvm.Free.XT.dup2 Xw7.here hx rfl (hb hby d3_99) rfl rfl rfl ?_
      show Steps p.tables e below (Tw7.setTop (mkF m 100 #[.val (.ref a1), .val (.ref ar), .val (.int fr), .val (.int to), .val (.long su), .second, .val (.long wr), .second, .val (.long ma), .second, .val (.int (Int32.ofNat i)), .val (.long (own_mx (0 : Int64) (own_nano i0 i1 i2 i))), .second, .val (.int b), .val (.ref y), .unset, .unset] [(.int b), (.ref D), (.int b), (.ref D)])) _
      refine Xw7.laload hx (j := b) (v := (.long x2)) (by rw [ew7]; exact C1.1) (State.isArrayOf_alike hZ.alike C1.2.1) C1.2.2 hinC hx2 (g := (mkF m 100 #[.val (.ref a1), .val (.ref ar), .val (.int fr), .val (.int to), .val (.long su), .second, .val (.long wr), .second, .val (.long ma), .second, .val (.int (Int32.ofNat i)), .val (.long (own_mx (0 : Int64) (own_nano i0 i1 i2 i))), .second, .val (.int b), .val (.ref y), .unset, .unset] [(.int b), (.ref D), (.int b), (.ref D)])) rfl rfl (hb hby d3_100) _ ?_
      show Steps p.tables e below (Tw7.setTop (mkF m 101 #[.val (.ref a1), .val (.ref ar), .val (.int fr), .val (.int to), .val (.long su), .second, .val (.long wr), .second, .val (.long ma), .second, .val (.int (Int32.ofNat i)), .val (.long (own_mx (0 : Int64) (own_nano i0 i1 i2 i))), .second, .val (.int b), .val (.ref y), .unset, .unset] [(.long x2), (.int b), (.ref D)])) _
      refine XS.lconst Xw7.here hx rfl (hb hby d3_101) ?_
      show Steps p.tables e below (Tw7.setTop (mkF m 102 #[.val (.ref a1), .val (.ref ar), .val (.int fr), .val (.int to), .val (.long su), .second, .val (.long wr), .second, .val (.long ma), .second, .val (.int (Int32.ofNat i)), .val (.long (own_mx (0 : Int64) (own_nano i0 i1 i2 i))), .second, .val (.int b), .val (.ref y), .unset, .unset] [(.long (1 : Int64)), (.long x2), (.int b), (.ref D)])) _
      refine XS.ladd Xw7.here hx rfl (hb hby d3_102) rfl ?_
      exact kt
    obtain ⟨Tw9, hw9, Xw9, ew9, Ww9, stw9⟩ := stJ Xw7 hx hZ ew7 C1 (j := b) hinC (g := (mkF m 103 #[.val (.ref a1), .val (.ref ar), .val (.int fr), .val (.int to), .val (.long su), .second, .val (.long wr), .second, .val (.long ma), .second, .val (.int (Int32.ofNat i)), .val (.long (own_mx (0 : Int64) (own_nano i0 i1 i2 i))), .second, .val (.int b), .val (.ref y), .unset, .unset] [(.long (x2 + (1 : Int64))), (.int b), (.ref D)])) rfl rfl (hb hby d3_103)
    have Nw9 := Fr.snoc Xw9 Nw5 gD
    have IA2 := own_arrs_cnt Ww9 IA1
    have IO2 := own_obj_far Ww9 C1 (hw _ (List.mem_of_getElem? (i := 3) rfl)) IO1
    have Z2 : n0 ≤ hw9.size := by rw [Ww9.size, Ww5.size]; exact Z0
    obtain ⟨wr2, hwr2, st_w⟩ : ∃ wr2 : Int64, wr2 = (if su + (own_mx (0 : Int64) (own_nano i0 i1 i2 i)) < 0 then wr + 1 else wr) ∧ ∀ t, Steps p.tables e below (Tw9.setTop (mkF m 124 #[.val (.ref a1), .val (.ref ar), .val (.int fr), .val (.int to), .val (.long su), .second, .val (.long wr2), .second, .val (.long ma), .second, .val (.int (Int32.ofNat i)), .val (.long (own_mx (0 : Int64) (own_nano i0 i1 i2 i))), .second, .val (.int b), .val (.ref y), .val (.long (su + (own_mx (0 : Int64) (own_nano i0 i1 i2 i)))), .second] [])) t → Steps p.tables e below (Tw9.setTop (mkF m 104 #[.val (.ref a1), .val (.ref ar), .val (.int fr), .val (.int to), .val (.long su), .second, .val (.long wr), .second, .val (.long ma), .second, .val (.int (Int32.ofNat i)), .val (.long (own_mx (0 : Int64) (own_nano i0 i1 i2 i))), .second, .val (.int b), .val (.ref y), .unset, .unset] [])) t := by
      by_cases cw : su + (own_mx (0 : Int64) (own_nano i0 i1 i2 i)) < 0
      · refine ⟨(wr + (1 : Int64)), by rw [if_pos cw], fun t kt => ?_⟩
        refine XS.lload Xw9.here hx rfl (hb hby d3_104) rfl ?_
        show Steps p.tables e below (Tw9.setTop (mkF m 106 #[.val (.ref a1), .val (.ref ar), .val (.int fr), .val (.int to), .val (.long su), .second, .val (.long wr), .second, .val (.long ma), .second, .val (.int (Int32.ofNat i)), .val (.long (own_mx (0 : Int64) (own_nano i0 i1 i2 i))), .second, .val (.int b), .val (.ref y), .unset, .unset] [(.long su)])) _
        refine XS.lload Xw9.here hx rfl (hb hby d3_106) rfl ?_
        show Steps p.tables e below (Tw9.setTop (mkF m 108 #[.val (.ref a1), .val (.ref ar), .val (.int fr), .val (.int to), .val (.long su), .second, .val (.long wr), .second, .val (.long ma), .second, .val (.int (Int32.ofNat i)), .val (.long (own_mx (0 : Int64) (own_nano i0 i1 i2 i))), .second, .val (.int b), .val (.ref y), .unset, .unset] [(.long (own_mx (0 : Int64) (own_nano i0 i1 i2 i))), (.long su)])) _
        refine XS.ladd Xw9.here hx rfl (hb hby d3_108) rfl ?_
        show Steps p.tables e below (Tw9.setTop (mkF m 109 #[.val (.ref a1), .val (.ref ar), .val (.int fr), .val (.int to), .val (.long su), .second, .val (.long wr), .second, .val (.long ma), .second, .val (.int (Int32.ofNat i)), .val (.long (own_mx (0 : Int64) (own_nano i0 i1 i2 i))), .second, .val (.int b), .val (.ref y), .unset, .unset] [(.long (su + (own_mx (0 : Int64) (own_nano i0 i1 i2 i))))])) _
        refine XS.lstore Xw9.here hx rfl (hb hby d3_109) rfl (l' := #[.val (.ref a1), .val (.ref ar), .val (.int fr), .val (.int to), .val (.long su), .second, .val (.long wr), .second, .val (.long ma), .second, .val (.int (Int32.ofNat i)), .val (.long (own_mx (0 : Int64) (own_nano i0 i1 i2 i))), .second, .val (.int b), .val (.ref y), .val (.long (su + (own_mx (0 : Int64) (own_nano i0 i1 i2 i)))), .second]) rfl ?_
        show Steps p.tables e below (Tw9.setTop (mkF m 111 #[.val (.ref a1), .val (.ref ar), .val (.int fr), .val (.int to), .val (.long su), .second, .val (.long wr), .second, .val (.long ma), .second, .val (.int (Int32.ofNat i)), .val (.long (own_mx (0 : Int64) (own_nano i0 i1 i2 i))), .second, .val (.int b), .val (.ref y), .val (.long (su + (own_mx (0 : Int64) (own_nano i0 i1 i2 i)))), .second] [])) _
        refine XS.lload Xw9.here hx rfl (hb hby d3_111) rfl ?_
        show Steps p.tables e below (Tw9.setTop (mkF m 113 #[.val (.ref a1), .val (.ref ar), .val (.int fr), .val (.int to), .val (.long su), .second, .val (.long wr), .second, .val (.long ma), .second, .val (.int (Int32.ofNat i)), .val (.long (own_mx (0 : Int64) (own_nano i0 i1 i2 i))), .second, .val (.int b), .val (.ref y), .val (.long (su + (own_mx (0 : Int64) (own_nano i0 i1 i2 i)))), .second] [(.long (su + (own_mx (0 : Int64) (own_nano i0 i1 i2 i))))])) _
        refine XS.lconst Xw9.here hx rfl (hb hby d3_113) ?_
        show Steps p.tables e below (Tw9.setTop (mkF m 114 #[.val (.ref a1), .val (.ref ar), .val (.int fr), .val (.int to), .val (.long su), .second, .val (.long wr), .second, .val (.long ma), .second, .val (.int (Int32.ofNat i)), .val (.long (own_mx (0 : Int64) (own_nano i0 i1 i2 i))), .second, .val (.int b), .val (.ref y), .val (.long (su + (own_mx (0 : Int64) (own_nano i0 i1 i2 i)))), .second] [(.long (0 : Int64)), (.long (su + (own_mx (0 : Int64) (own_nano i0 i1 i2 i))))])) _
        refine XS.lcmp Xw9.here hx rfl (hb hby d3_114) rfl ?_
        show Steps p.tables e below (Tw9.setTop (mkF m 115 #[.val (.ref a1), .val (.ref ar), .val (.int fr), .val (.int to), .val (.long su), .second, .val (.long wr), .second, .val (.long ma), .second, .val (.int (Int32.ofNat i)), .val (.long (own_mx (0 : Int64) (own_nano i0 i1 i2 i))), .second, .val (.int b), .val (.ref y), .val (.long (su + (own_mx (0 : Int64) (own_nano i0 i1 i2 i)))), .second] [(.int (lcmpW (su + (own_mx (0 : Int64) (own_nano i0 i1 i2 i))) (0 : Int64)))])) _
        refine XS.ifNo Xw9.here hx rfl (hb hby d3_115) rfl ((if0 _ _).trans (tlt ((lw_lt _ _).mpr cw : (lcmpW (su + (own_mx (0 : Int64) (own_nano i0 i1 i2 i))) (0 : Int64)) < (0 : Int32))).2.1) ?_
        show Steps p.tables e below (Tw9.setTop (mkF m 118 #[.val (.ref a1), .val (.ref ar), .val (.int fr), .val (.int to), .val (.long su), .second, .val (.long wr), .second, .val (.long ma), .second, .val (.int (Int32.ofNat i)), .val (.long (own_mx (0 : Int64) (own_nano i0 i1 i2 i))), .second, .val (.int b), .val (.ref y), .val (.long (su + (own_mx (0 : Int64) (own_nano i0 i1 i2 i)))), .second] [])) _
        refine XS.lload Xw9.here hx rfl (hb hby d3_118) rfl ?_
        show Steps p.tables e below (Tw9.setTop (mkF m 120 #[.val (.ref a1), .val (.ref ar), .val (.int fr), .val (.int to), .val (.long su), .second, .val (.long wr), .second, .val (.long ma), .second, .val (.int (Int32.ofNat i)), .val (.long (own_mx (0 : Int64) (own_nano i0 i1 i2 i))), .second, .val (.int b), .val (.ref y), .val (.long (su + (own_mx (0 : Int64) (own_nano i0 i1 i2 i)))), .second] [(.long wr)])) _
        refine XS.lconst Xw9.here hx rfl (hb hby d3_120) ?_
        show Steps p.tables e below (Tw9.setTop (mkF m 121 #[.val (.ref a1), .val (.ref ar), .val (.int fr), .val (.int to), .val (.long su), .second, .val (.long wr), .second, .val (.long ma), .second, .val (.int (Int32.ofNat i)), .val (.long (own_mx (0 : Int64) (own_nano i0 i1 i2 i))), .second, .val (.int b), .val (.ref y), .val (.long (su + (own_mx (0 : Int64) (own_nano i0 i1 i2 i)))), .second] [(.long (1 : Int64)), (.long wr)])) _
        refine XS.ladd Xw9.here hx rfl (hb hby d3_121) rfl ?_
        show Steps p.tables e below (Tw9.setTop (mkF m 122 #[.val (.ref a1), .val (.ref ar), .val (.int fr), .val (.int to), .val (.long su), .second, .val (.long wr), .second, .val (.long ma), .second, .val (.int (Int32.ofNat i)), .val (.long (own_mx (0 : Int64) (own_nano i0 i1 i2 i))), .second, .val (.int b), .val (.ref y), .val (.long (su + (own_mx (0 : Int64) (own_nano i0 i1 i2 i)))), .second] [(.long (wr + (1 : Int64)))])) _
        refine XS.lstore Xw9.here hx rfl (hb hby d3_122) rfl (l' := #[.val (.ref a1), .val (.ref ar), .val (.int fr), .val (.int to), .val (.long su), .second, .val (.long (wr + (1 : Int64))), .second, .val (.long ma), .second, .val (.int (Int32.ofNat i)), .val (.long (own_mx (0 : Int64) (own_nano i0 i1 i2 i))), .second, .val (.int b), .val (.ref y), .val (.long (su + (own_mx (0 : Int64) (own_nano i0 i1 i2 i)))), .second]) rfl ?_
        exact kt
      · refine ⟨wr, by rw [if_neg cw], fun t kt => ?_⟩
        refine XS.lload Xw9.here hx rfl (hb hby d3_104) rfl ?_
        show Steps p.tables e below (Tw9.setTop (mkF m 106 #[.val (.ref a1), .val (.ref ar), .val (.int fr), .val (.int to), .val (.long su), .second, .val (.long wr), .second, .val (.long ma), .second, .val (.int (Int32.ofNat i)), .val (.long (own_mx (0 : Int64) (own_nano i0 i1 i2 i))), .second, .val (.int b), .val (.ref y), .unset, .unset] [(.long su)])) _
        refine XS.lload Xw9.here hx rfl (hb hby d3_106) rfl ?_
        show Steps p.tables e below (Tw9.setTop (mkF m 108 #[.val (.ref a1), .val (.ref ar), .val (.int fr), .val (.int to), .val (.long su), .second, .val (.long wr), .second, .val (.long ma), .second, .val (.int (Int32.ofNat i)), .val (.long (own_mx (0 : Int64) (own_nano i0 i1 i2 i))), .second, .val (.int b), .val (.ref y), .unset, .unset] [(.long (own_mx (0 : Int64) (own_nano i0 i1 i2 i))), (.long su)])) _
        refine XS.ladd Xw9.here hx rfl (hb hby d3_108) rfl ?_
        show Steps p.tables e below (Tw9.setTop (mkF m 109 #[.val (.ref a1), .val (.ref ar), .val (.int fr), .val (.int to), .val (.long su), .second, .val (.long wr), .second, .val (.long ma), .second, .val (.int (Int32.ofNat i)), .val (.long (own_mx (0 : Int64) (own_nano i0 i1 i2 i))), .second, .val (.int b), .val (.ref y), .unset, .unset] [(.long (su + (own_mx (0 : Int64) (own_nano i0 i1 i2 i))))])) _
        refine XS.lstore Xw9.here hx rfl (hb hby d3_109) rfl (l' := #[.val (.ref a1), .val (.ref ar), .val (.int fr), .val (.int to), .val (.long su), .second, .val (.long wr), .second, .val (.long ma), .second, .val (.int (Int32.ofNat i)), .val (.long (own_mx (0 : Int64) (own_nano i0 i1 i2 i))), .second, .val (.int b), .val (.ref y), .val (.long (su + (own_mx (0 : Int64) (own_nano i0 i1 i2 i)))), .second]) rfl ?_
        show Steps p.tables e below (Tw9.setTop (mkF m 111 #[.val (.ref a1), .val (.ref ar), .val (.int fr), .val (.int to), .val (.long su), .second, .val (.long wr), .second, .val (.long ma), .second, .val (.int (Int32.ofNat i)), .val (.long (own_mx (0 : Int64) (own_nano i0 i1 i2 i))), .second, .val (.int b), .val (.ref y), .val (.long (su + (own_mx (0 : Int64) (own_nano i0 i1 i2 i)))), .second] [])) _
        refine XS.lload Xw9.here hx rfl (hb hby d3_111) rfl ?_
        show Steps p.tables e below (Tw9.setTop (mkF m 113 #[.val (.ref a1), .val (.ref ar), .val (.int fr), .val (.int to), .val (.long su), .second, .val (.long wr), .second, .val (.long ma), .second, .val (.int (Int32.ofNat i)), .val (.long (own_mx (0 : Int64) (own_nano i0 i1 i2 i))), .second, .val (.int b), .val (.ref y), .val (.long (su + (own_mx (0 : Int64) (own_nano i0 i1 i2 i)))), .second] [(.long (su + (own_mx (0 : Int64) (own_nano i0 i1 i2 i))))])) _
        refine XS.lconst Xw9.here hx rfl (hb hby d3_113) ?_
        show Steps p.tables e below (Tw9.setTop (mkF m 114 #[.val (.ref a1), .val (.ref ar), .val (.int fr), .val (.int to), .val (.long su), .second, .val (.long wr), .second, .val (.long ma), .second, .val (.int (Int32.ofNat i)), .val (.long (own_mx (0 : Int64) (own_nano i0 i1 i2 i))), .second, .val (.int b), .val (.ref y), .val (.long (su + (own_mx (0 : Int64) (own_nano i0 i1 i2 i)))), .second] [(.long (0 : Int64)), (.long (su + (own_mx (0 : Int64) (own_nano i0 i1 i2 i))))])) _
        refine XS.lcmp Xw9.here hx rfl (hb hby d3_114) rfl ?_
        show Steps p.tables e below (Tw9.setTop (mkF m 115 #[.val (.ref a1), .val (.ref ar), .val (.int fr), .val (.int to), .val (.long su), .second, .val (.long wr), .second, .val (.long ma), .second, .val (.int (Int32.ofNat i)), .val (.long (own_mx (0 : Int64) (own_nano i0 i1 i2 i))), .second, .val (.int b), .val (.ref y), .val (.long (su + (own_mx (0 : Int64) (own_nano i0 i1 i2 i)))), .second] [(.int (lcmpW (su + (own_mx (0 : Int64) (own_nano i0 i1 i2 i))) (0 : Int64)))])) _
        refine XS.ifYes Xw9.here hx rfl (pc0 := 115) (pc' := 124) rfl (hb hby d3_115) rfl ((if0 _ _).trans (flt (fun q => cw ((lw_lt _ _).mp q) : ¬ ((lcmpW (su + (own_mx (0 : Int64) (own_nano i0 i1 i2 i))) (0 : Int64)) < (0 : Int32)))).2.1) (by decide) (by decide) ?_
        exact kt
    have wsg10 : ∀ t, Steps p.tables e below (Tw9.setTop (mkF m 136 #[.val (.ref a1), .val (.ref ar), .val (.int fr), .val (.int to), .val (.long ((su + (own_mx (0 : Int64) (own_nano i0 i1 i2 i))) &&& (9223372036854775807 : Int64))), .second, .val (.long wr2), .second, .val (.long ma), .second, .val (.int (Int32.ofNat i)), .val (.long (own_mx (0 : Int64) (own_nano i0 i1 i2 i))), .second, .val (.int b), .val (.ref y), .val (.long (su + (own_mx (0 : Int64) (own_nano i0 i1 i2 i)))), .second] [(.long (own_mx (0 : Int64) (own_nano i0 i1 i2 i))), (.long ma)])) t → Steps p.tables e below (Tw9.setTop (mkF m 124 #[.val (.ref a1), .val (.ref ar), .val (.int fr), .val (.int to), .val (.long su), .second, .val (.long wr2), .second, .val (.long ma), .second, .val (.int (Int32.ofNat i)), .val (.long (own_mx (0 : Int64) (own_nano i0 i1 i2 i))), .second, .val (.int b), .val (.ref y), .val (.long (su + (own_mx (0 : Int64) (own_nano i0 i1 i2 i)))), .second] [])) t := by
      intro t kt
      refine XS.lload Xw9.here hx rfl (hb hby d3_124) rfl ?_
      show Steps p.tables e below (Tw9.setTop (mkF m 126 #[.val (.ref a1), .val (.ref ar), .val (.int fr), .val (.int to), .val (.long su), .second, .val (.long wr2), .second, .val (.long ma), .second, .val (.int (Int32.ofNat i)), .val (.long (own_mx (0 : Int64) (own_nano i0 i1 i2 i))), .second, .val (.int b), .val (.ref y), .val (.long (su + (own_mx (0 : Int64) (own_nano i0 i1 i2 i)))), .second] [(.long (su + (own_mx (0 : Int64) (own_nano i0 i1 i2 i))))])) _
      refine Xw9.ldc2Long hx hown (mvT hZ (hw _ (List.mem_of_getElem? (i := 51) rfl))) (g := (mkF m 126 #[.val (.ref a1), .val (.ref ar), .val (.int fr), .val (.int to), .val (.long su), .second, .val (.long wr2), .second, .val (.long ma), .second, .val (.int (Int32.ofNat i)), .val (.long (own_mx (0 : Int64) (own_nano i0 i1 i2 i))), .second, .val (.int b), .val (.ref y), .val (.long (su + (own_mx (0 : Int64) (own_nano i0 i1 i2 i)))), .second] [(.long (su + (own_mx (0 : Int64) (own_nano i0 i1 i2 i))))])) rfl (hb hby d3_126) _ ?_
      show Steps p.tables e below (Tw9.setTop (mkF m 129 #[.val (.ref a1), .val (.ref ar), .val (.int fr), .val (.int to), .val (.long su), .second, .val (.long wr2), .second, .val (.long ma), .second, .val (.int (Int32.ofNat i)), .val (.long (own_mx (0 : Int64) (own_nano i0 i1 i2 i))), .second, .val (.int b), .val (.ref y), .val (.long (su + (own_mx (0 : Int64) (own_nano i0 i1 i2 i)))), .second] [(.long (9223372036854775807 : Int64)), (.long (su + (own_mx (0 : Int64) (own_nano i0 i1 i2 i))))])) _
      refine XS.land Xw9.here hx rfl (hb hby d3_129) rfl ?_
      show Steps p.tables e below (Tw9.setTop (mkF m 130 #[.val (.ref a1), .val (.ref ar), .val (.int fr), .val (.int to), .val (.long su), .second, .val (.long wr2), .second, .val (.long ma), .second, .val (.int (Int32.ofNat i)), .val (.long (own_mx (0 : Int64) (own_nano i0 i1 i2 i))), .second, .val (.int b), .val (.ref y), .val (.long (su + (own_mx (0 : Int64) (own_nano i0 i1 i2 i)))), .second] [(.long ((su + (own_mx (0 : Int64) (own_nano i0 i1 i2 i))) &&& (9223372036854775807 : Int64)))])) _
      refine XS.lstore Xw9.here hx rfl (hb hby d3_130) rfl (l' := #[.val (.ref a1), .val (.ref ar), .val (.int fr), .val (.int to), .val (.long ((su + (own_mx (0 : Int64) (own_nano i0 i1 i2 i))) &&& (9223372036854775807 : Int64))), .second, .val (.long wr2), .second, .val (.long ma), .second, .val (.int (Int32.ofNat i)), .val (.long (own_mx (0 : Int64) (own_nano i0 i1 i2 i))), .second, .val (.int b), .val (.ref y), .val (.long (su + (own_mx (0 : Int64) (own_nano i0 i1 i2 i)))), .second]) rfl ?_
      show Steps p.tables e below (Tw9.setTop (mkF m 132 #[.val (.ref a1), .val (.ref ar), .val (.int fr), .val (.int to), .val (.long ((su + (own_mx (0 : Int64) (own_nano i0 i1 i2 i))) &&& (9223372036854775807 : Int64))), .second, .val (.long wr2), .second, .val (.long ma), .second, .val (.int (Int32.ofNat i)), .val (.long (own_mx (0 : Int64) (own_nano i0 i1 i2 i))), .second, .val (.int b), .val (.ref y), .val (.long (su + (own_mx (0 : Int64) (own_nano i0 i1 i2 i)))), .second] [])) _
      refine XS.lload Xw9.here hx rfl (hb hby d3_132) rfl ?_
      show Steps p.tables e below (Tw9.setTop (mkF m 134 #[.val (.ref a1), .val (.ref ar), .val (.int fr), .val (.int to), .val (.long ((su + (own_mx (0 : Int64) (own_nano i0 i1 i2 i))) &&& (9223372036854775807 : Int64))), .second, .val (.long wr2), .second, .val (.long ma), .second, .val (.int (Int32.ofNat i)), .val (.long (own_mx (0 : Int64) (own_nano i0 i1 i2 i))), .second, .val (.int b), .val (.ref y), .val (.long (su + (own_mx (0 : Int64) (own_nano i0 i1 i2 i)))), .second] [(.long ma)])) _
      refine XS.lload Xw9.here hx rfl (hb hby d3_134) rfl ?_
      exact kt
    obtain ⟨_, _, ⟨Tw11, Lw11, kw11, nw11⟩, -, Xw11, ⟨Lcw11, hQw11, lw11, yw11, zw11⟩, stw11⟩ := Jvm.LawKit.callS Xw9 hx (y := (⟨"java/lang/Math", "max", "(JJ)J"⟩ : MethodName)) hown (mvT hZ (hw _ (List.mem_of_getElem? (i := 28) rfl))) (mvT hZ (hw _ (List.mem_of_getElem? (i := 29) rfl))) (mvT hZ (hw _ (List.mem_of_getElem? (i := 30) rfl))) (mvT hZ (hw _ (List.mem_of_getElem? (i := 31) rfl))) (by decide) (backOf (W := 0) (rm4 l Z a0 hw [] ma (own_mx (0 : Int64) (own_nano i0 i1 i2 i)) hw9 n0 Z2 ) hZ (hw _ (List.mem_of_getElem? (i := 31) rfl)) (hw _ (List.mem_of_getElem? (i := 30) rfl)) (by decide) (by decide)) (g := (mkF m 136 #[.val (.ref a1), .val (.ref ar), .val (.int fr), .val (.int to), .val (.long ((su + (own_mx (0 : Int64) (own_nano i0 i1 i2 i))) &&& (9223372036854775807 : Int64))), .second, .val (.long wr2), .second, .val (.long ma), .second, .val (.int (Int32.ofNat i)), .val (.long (own_mx (0 : Int64) (own_nano i0 i1 i2 i))), .second, .val (.int b), .val (.ref y), .val (.long (su + (own_mx (0 : Int64) (own_nano i0 i1 i2 i)))), .second] [(.long (own_mx (0 : Int64) (own_nano i0 i1 i2 i))), (.long ma)])) rfl (by rw [hml]; rfl) (argsL := [(.long ma), (.long (own_mx (0 : Int64) (own_nano i0 i1 i2 i)))]) (rest := []) (lenOf pd_3 rfl) rfl (by show 2 * 0 + _ ≤ _; exact Nat.le_of_eq rfl) (hb hby d3_136) (fun _ _ => ⟨rfl, ew9, hc0, hs0⟩)
    dsimp only [Pt.U, Pt.locs, Pt.cells, Pt.slots] at Xw11 lw11 yw11 zw11 stw11 hQw11
    subst lw11 yw11 zw11
    obtain ⟨rfl, Nqw11, eqw11⟩ := hQw11
    have Nw11 := Fr.app Nw9 Nqw11
    have wsg12 : ∀ t, Steps p.tables e below (Tw11.setTop (mkF m 21 #[.val (.ref a1), .val (.ref ar), .val (.int fr), .val (.int to), .val (.long ((su + (own_mx (0 : Int64) (own_nano i0 i1 i2 i))) &&& (9223372036854775807 : Int64))), .second, .val (.long wr2), .second, .val (.long (own_mx ma (own_mx (0 : Int64) (own_nano i0 i1 i2 i)))), .second, .val (.int ((Int32.ofNat i) + (1 : Int32))), .val (.long (own_mx (0 : Int64) (own_nano i0 i1 i2 i))), .second, .val (.int b), .val (.ref y), .val (.long (su + (own_mx (0 : Int64) (own_nano i0 i1 i2 i)))), .second] [])) t → Steps p.tables e below (Tw11.setTop (mkF m 139 #[.val (.ref a1), .val (.ref ar), .val (.int fr), .val (.int to), .val (.long ((su + (own_mx (0 : Int64) (own_nano i0 i1 i2 i))) &&& (9223372036854775807 : Int64))), .second, .val (.long wr2), .second, .val (.long ma), .second, .val (.int (Int32.ofNat i)), .val (.long (own_mx (0 : Int64) (own_nano i0 i1 i2 i))), .second, .val (.int b), .val (.ref y), .val (.long (su + (own_mx (0 : Int64) (own_nano i0 i1 i2 i)))), .second] [(.long (own_mx ma (own_mx (0 : Int64) (own_nano i0 i1 i2 i))))])) t := by
      intro t kt
      refine XS.lstore Xw11.here hx rfl (hb hby d3_139) rfl (l' := #[.val (.ref a1), .val (.ref ar), .val (.int fr), .val (.int to), .val (.long ((su + (own_mx (0 : Int64) (own_nano i0 i1 i2 i))) &&& (9223372036854775807 : Int64))), .second, .val (.long wr2), .second, .val (.long (own_mx ma (own_mx (0 : Int64) (own_nano i0 i1 i2 i)))), .second, .val (.int (Int32.ofNat i)), .val (.long (own_mx (0 : Int64) (own_nano i0 i1 i2 i))), .second, .val (.int b), .val (.ref y), .val (.long (su + (own_mx (0 : Int64) (own_nano i0 i1 i2 i)))), .second]) rfl ?_
      show Steps p.tables e below (Tw11.setTop (mkF m 141 #[.val (.ref a1), .val (.ref ar), .val (.int fr), .val (.int to), .val (.long ((su + (own_mx (0 : Int64) (own_nano i0 i1 i2 i))) &&& (9223372036854775807 : Int64))), .second, .val (.long wr2), .second, .val (.long (own_mx ma (own_mx (0 : Int64) (own_nano i0 i1 i2 i)))), .second, .val (.int (Int32.ofNat i)), .val (.long (own_mx (0 : Int64) (own_nano i0 i1 i2 i))), .second, .val (.int b), .val (.ref y), .val (.long (su + (own_mx (0 : Int64) (own_nano i0 i1 i2 i)))), .second] [])) _
      refine XS.iinc Xw11.here hx rfl (hb hby d3_141) rfl (l' := #[.val (.ref a1), .val (.ref ar), .val (.int fr), .val (.int to), .val (.long ((su + (own_mx (0 : Int64) (own_nano i0 i1 i2 i))) &&& (9223372036854775807 : Int64))), .second, .val (.long wr2), .second, .val (.long (own_mx ma (own_mx (0 : Int64) (own_nano i0 i1 i2 i)))), .second, .val (.int ((Int32.ofNat i) + (1 : Int32))), .val (.long (own_mx (0 : Int64) (own_nano i0 i1 i2 i))), .second, .val (.int b), .val (.ref y), .val (.long (su + (own_mx (0 : Int64) (own_nano i0 i1 i2 i)))), .second]) rfl ?_
      show Steps p.tables e below (Tw11.setTop (mkF m 144 #[.val (.ref a1), .val (.ref ar), .val (.int fr), .val (.int to), .val (.long ((su + (own_mx (0 : Int64) (own_nano i0 i1 i2 i))) &&& (9223372036854775807 : Int64))), .second, .val (.long wr2), .second, .val (.long (own_mx ma (own_mx (0 : Int64) (own_nano i0 i1 i2 i)))), .second, .val (.int ((Int32.ofNat i) + (1 : Int32))), .val (.long (own_mx (0 : Int64) (own_nano i0 i1 i2 i))), .second, .val (.int b), .val (.ref y), .val (.long (su + (own_mx (0 : Int64) (own_nano i0 i1 i2 i)))), .second] [])) _
      refine XS.goto Xw11.here hx rfl (pc0 := 144) (pc' := 21) rfl (hb hby d3_144) (by decide) (by decide) ?_
      exact kt
    have hst : own_st (su, wr) (own_nano i0 i1 i2 i) = ((su + (own_mx (0 : Int64) (own_nano i0 i1 i2 i))) &&& (9223372036854775807 : Int64), wr2) := by rw [hwr2]; rfl
    rw [hst]
    refine ⟨Tw11, hw9, _, (own_mx ma (own_mx (0 : Int64) (own_nano i0 i1 i2 i))), Xw11, eqw11, Nw11, by rw [Ww9.size, Ww5.size]; exact Nat.le_refl _, IA2, IO2, trivial, fun t kt => ?_⟩
    refine wsg1 _ ?_
    refine stw2 _ ?_
    refine wsg3 _ ?_
    refine wsg4 _ ?_
    refine stw5 _ ?_
    refine wsg6 _ ?_
    refine stw7 _ ?_
    refine wsg8 _ ?_
    refine stw9 _ ?_
    refine st_w _ ?_
    refine wsg10 _ ?_
    refine stw11 _ ?_
    refine wsg12 _ ?_
    rw [← succ32 i] at kt
    exact kt
  · have wsg1 : ∀ t, Steps p.tables e below (T0.setTop (mkF m 80 #[.val (.ref a1), .val (.ref ar), .val (.int fr), .val (.int to), .val (.long su), .second, .val (.long wr), .second, .val (.long ma), .second, .val (.int (Int32.ofNat i)), .val (.long (own_mx (0 : Int64) (own_nano i0 i1 i2 i))), .second, .val (.int b), .val (.ref y), .val (.long d15), .second] [(.int b), (.long (own_mx (0 : Int64) (own_nano i0 i1 i2 i))), (.ref y)])) t → Steps p.tables e below (T0.setTop (mkF m 74 #[.val (.ref a1), .val (.ref ar), .val (.int fr), .val (.int to), .val (.long su), .second, .val (.long wr), .second, .val (.long ma), .second, .val (.int (Int32.ofNat i)), .val (.long (own_mx (0 : Int64) (own_nano i0 i1 i2 i))), .second, .val (.int b), .val (.ref y), .val (.long d15), .second] [])) t := by
      intro t kt
      refine XS.aload X0.here hx rfl (hb hby d3_74) rfl rfl ?_
      show Steps p.tables e below (T0.setTop (mkF m 76 #[.val (.ref a1), .val (.ref ar), .val (.int fr), .val (.int to), .val (.long su), .second, .val (.long wr), .second, .val (.long ma), .second, .val (.int (Int32.ofNat i)), .val (.long (own_mx (0 : Int64) (own_nano i0 i1 i2 i))), .second, .val (.int b), .val (.ref y), .val (.long d15), .second] [(.ref y)])) _
      refine XS.lload X0.here hx rfl (hb hby d3_76) rfl ?_
      show Steps p.tables e below (T0.setTop (mkF m 78 #[.val (.ref a1), .val (.ref ar), .val (.int fr), .val (.int to), .val (.long su), .second, .val (.long wr), .second, .val (.long ma), .second, .val (.int (Int32.ofNat i)), .val (.long (own_mx (0 : Int64) (own_nano i0 i1 i2 i))), .second, .val (.int b), .val (.ref y), .val (.long d15), .second] [(.long (own_mx (0 : Int64) (own_nano i0 i1 i2 i))), (.ref y)])) _
      refine XS.iload X0.here hx rfl (hb hby d3_78) rfl ?_
      exact kt
    obtain ⟨_, _, ⟨Tw2, Lw2, kw2, nw2⟩, -, Xw2, ⟨Lcw2, hQw2, lw2, yw2, zw2⟩, stw2⟩ := Jvm.LawKit.callS X0 hx (y := (⟨"com/example/cormorant/cormorant/Histogram", "shiftOf", "(I)I"⟩ : MethodName)) hown (mvT hZ (hw _ (List.mem_of_getElem? (i := 48) rfl))) (mvT hZ (hw _ (List.mem_of_getElem? (i := 49) rfl))) (mvT hZ (hw _ (List.mem_of_getElem? (i := 4) rfl))) (mvT hZ (hw _ (List.mem_of_getElem? (i := 50) rfl))) (by decide) (backOf (W := 3) (rm9 l Z a0 hw [] b h0 n0 Z0 ) hZ (hw _ (List.mem_of_getElem? (i := 50) rfl)) (hw _ (List.mem_of_getElem? (i := 4) rfl)) (by decide) (by decide)) (g := (mkF m 80 #[.val (.ref a1), .val (.ref ar), .val (.int fr), .val (.int to), .val (.long su), .second, .val (.long wr), .second, .val (.long ma), .second, .val (.int (Int32.ofNat i)), .val (.long (own_mx (0 : Int64) (own_nano i0 i1 i2 i))), .second, .val (.int b), .val (.ref y), .val (.long d15), .second] [(.int b), (.long (own_mx (0 : Int64) (own_nano i0 i1 i2 i))), (.ref y)])) rfl (by rw [hml]; rfl) (argsL := [(.int b)]) (rest := [(.long (own_mx (0 : Int64) (own_nano i0 i1 i2 i))), (.ref y)]) (lenOf pd_0 rfl) rfl (by show 2 * 0 + _ ≤ _; exact Nat.le_of_eq rfl) (hb hby d3_80) (fun _ _ => ⟨rfl, e0, hc0, hs0⟩)
    dsimp only [Pt.U, Pt.locs, Pt.cells, Pt.slots] at Xw2 lw2 yw2 zw2 stw2 hQw2
    subst lw2 yw2 zw2
    obtain ⟨rfl, Nqw2, eqw2⟩ := hQw2
    have Nw2 := Fr.app N0 Nqw2
    have wsg3 : ∀ t, Steps p.tables e below (Tw2.setTop (mkF m 88 #[.val (.ref a1), .val (.ref ar), .val (.int fr), .val (.int to), .val (.long su), .second, .val (.long wr), .second, .val (.long ma), .second, .val (.int (Int32.ofNat i)), .val (.long (own_mx (0 : Int64) (own_nano i0 i1 i2 i))), .second, .val (.int b), .val (.ref y), .val (.long d15), .second] [(.int (((((own_mx (0 : Int64) (own_nano i0 i1 i2 i)).toUInt64 >>> ((own_mi (0 : Int32) (b - (1 : Int32))) &&& 0x3f).toInt64.toUInt64).toInt64).toInt32) &&& (127 : Int32))), (.ref y)])) t → Steps p.tables e below (Tw2.setTop (mkF m 83 #[.val (.ref a1), .val (.ref ar), .val (.int fr), .val (.int to), .val (.long su), .second, .val (.long wr), .second, .val (.long ma), .second, .val (.int (Int32.ofNat i)), .val (.long (own_mx (0 : Int64) (own_nano i0 i1 i2 i))), .second, .val (.int b), .val (.ref y), .val (.long d15), .second] [(.int (own_mi (0 : Int32) (b - (1 : Int32)))), (.long (own_mx (0 : Int64) (own_nano i0 i1 i2 i))), (.ref y)])) t := by
      intro t kt
      refine XS.lushr Xw2.here hx rfl (hb hby d3_83) rfl ?_
      show Steps p.tables e below (Tw2.setTop (mkF m 84 #[.val (.ref a1), .val (.ref ar), .val (.int fr), .val (.int to), .val (.long su), .second, .val (.long wr), .second, .val (.long ma), .second, .val (.int (Int32.ofNat i)), .val (.long (own_mx (0 : Int64) (own_nano i0 i1 i2 i))), .second, .val (.int b), .val (.ref y), .val (.long d15), .second] [(.long (((own_mx (0 : Int64) (own_nano i0 i1 i2 i)).toUInt64 >>> ((own_mi (0 : Int32) (b - (1 : Int32))) &&& 0x3f).toInt64.toUInt64).toInt64)), (.ref y)])) _
      refine XS.l2i Xw2.here hx rfl (hb hby d3_84) rfl ?_
      show Steps p.tables e below (Tw2.setTop (mkF m 85 #[.val (.ref a1), .val (.ref ar), .val (.int fr), .val (.int to), .val (.long su), .second, .val (.long wr), .second, .val (.long ma), .second, .val (.int (Int32.ofNat i)), .val (.long (own_mx (0 : Int64) (own_nano i0 i1 i2 i))), .second, .val (.int b), .val (.ref y), .val (.long d15), .second] [(.int ((((own_mx (0 : Int64) (own_nano i0 i1 i2 i)).toUInt64 >>> ((own_mi (0 : Int32) (b - (1 : Int32))) &&& 0x3f).toInt64.toUInt64).toInt64).toInt32)), (.ref y)])) _
      refine XS.bipush Xw2.here hx rfl (hb hby d3_85) ?_
      show Steps p.tables e below (Tw2.setTop (mkF m 87 #[.val (.ref a1), .val (.ref ar), .val (.int fr), .val (.int to), .val (.long su), .second, .val (.long wr), .second, .val (.long ma), .second, .val (.int (Int32.ofNat i)), .val (.long (own_mx (0 : Int64) (own_nano i0 i1 i2 i))), .second, .val (.int b), .val (.ref y), .val (.long d15), .second] [(.int (127 : Int32)), (.int ((((own_mx (0 : Int64) (own_nano i0 i1 i2 i)).toUInt64 >>> ((own_mi (0 : Int32) (b - (1 : Int32))) &&& 0x3f).toInt64.toUInt64).toInt64).toInt32)), (.ref y)])) _
      refine XS.iand Xw2.here hx rfl (hb hby d3_87) rfl ?_
      exact kt
    have hx127 := c_and (((((own_mx (0 : Int64) (own_nano i0 i1 i2 i)).toUInt64 >>> ((own_mi (0 : Int32) (b - (1 : Int32))) &&& 0x3f).toInt64.toUInt64).toInt64).toInt32)) (127 : Int32) (by decide)
    obtain ⟨ix, hix⟩ : ∃ z, z = (((((own_mx (0 : Int64) (own_nano i0 i1 i2 i)).toUInt64 >>> ((own_mi (0 : Int32) (b - (1 : Int32))) &&& 0x3f).toInt64.toUInt64).toInt64).toInt32) &&& (127 : Int32)) := ⟨_, rfl⟩
    rw [← hix] at wsg3 hx127
    have e127 : (127 : Int32).toInt = 127 := by decide
    obtain ⟨hinY, hyn⟩ := own_inb (N := 128) hx127.1 (by omega) Y2
    obtain ⟨x1, hx1⟩ := Y3 _ (by rw [Y2]; exact hyn)
    have wsg4 : ∀ t, Steps p.tables e below (Tw2.setTop (mkF m 92 #[.val (.ref a1), .val (.ref ar), .val (.int fr), .val (.int to), .val (.long su), .second, .val (.long wr), .second, .val (.long ma), .second, .val (.int (Int32.ofNat i)), .val (.long (own_mx (0 : Int64) (own_nano i0 i1 i2 i))), .second, .val (.int b), .val (.ref y), .val (.long d15), .second] [(.long (x1 + (1 : Int64))), (.int ix), (.ref y)])) t → Steps p.tables e below (Tw2.setTop (mkF m 88 #[.val (.ref a1), .val (.ref ar), .val (.int fr), .val (.int to), .val (.long su), .second, .val (.long wr), .second, .val (.long ma), .second, .val (.int (Int32.ofNat i)), .val (.long (own_mx (0 : Int64) (own_nano i0 i1 i2 i))), .second, .val (.int b), .val (.ref y), .val (.long d15), .second] [(.int ix), (.ref y)])) t := by
      intro t kt
      refine Jvm.Free.XT.dup2 Xw2.here hx rfl (hb hby d3_88) rfl rfl rfl ?_
      show Steps p.tables e below (Tw2.setTop (mkF m 89 #[.val (.ref a1), .val (.ref ar), .val (.int fr), .val (.int to), .val (.long su), .second, .val (.long wr), .second, .val (.long ma), .second, .val (.int (Int32.ofNat i)), .val (.long (own_mx (0 : Int64) (own_nano i0 i1 i2 i))), .second, .val (.int b), .val (.ref y), .val (.long d15), .second] [(.int ix), (.ref y), (.int ix), (.ref y)])) _
      refine Xw2.laload hx (j := ix) (v := (.long x1)) (by rw [eqw2]; exact Y1.1) (State.isArrayOf_alike hZ.alike Y1.2.1) Y1.2.2 hinY hx1 (g := (mkF m 89 #[.val (.ref a1), .val (.ref ar), .val (.int fr), .val (.int to), .val (.long su), .second, .val (.long wr), .second, .val (.long ma), .second, .val (.int (Int32.ofNat i)), .val (.long (own_mx (0 : Int64) (own_nano i0 i1 i2 i))), .second, .val (.int b), .val (.ref y), .val (.long d15), .second] [(.int ix), (.ref y), (.int ix), (.ref y)])) rfl rfl (hb hby d3_89) _ ?_
      show Steps p.tables e below (Tw2.setTop (mkF m 90 #[.val (.ref a1), .val (.ref ar), .val (.int fr), .val (.int to), .val (.long su), .second, .val (.long wr), .second, .val (.long ma), .second, .val (.int (Int32.ofNat i)), .val (.long (own_mx (0 : Int64) (own_nano i0 i1 i2 i))), .second, .val (.int b), .val (.ref y), .val (.long d15), .second] [(.long x1), (.int ix), (.ref y)])) _
      refine XS.lconst Xw2.here hx rfl (hb hby d3_90) ?_
      show Steps p.tables e below (Tw2.setTop (mkF m 91 #[.val (.ref a1), .val (.ref ar), .val (.int fr), .val (.int to), .val (.long su), .second, .val (.long wr), .second, .val (.long ma), .second, .val (.int (Int32.ofNat i)), .val (.long (own_mx (0 : Int64) (own_nano i0 i1 i2 i))), .second, .val (.int b), .val (.ref y), .val (.long d15), .second] [(.long (1 : Int64)), (.long x1), (.int ix), (.ref y)])) _
      refine XS.ladd Xw2.here hx rfl (hb hby d3_91) rfl ?_
      exact kt
    obtain ⟨Tw5, hw5, Xw5, ew5, Ww5, stw5⟩ := stJ Xw2 hx hZ eqw2 Y1 (j := ix) hinY (g := (mkF m 92 #[.val (.ref a1), .val (.ref ar), .val (.int fr), .val (.int to), .val (.long su), .second, .val (.long wr), .second, .val (.long ma), .second, .val (.int (Int32.ofNat i)), .val (.long (own_mx (0 : Int64) (own_nano i0 i1 i2 i))), .second, .val (.int b), .val (.ref y), .val (.long d15), .second] [(.long (x1 + (1 : Int64))), (.int ix), (.ref y)])) rfl rfl (hb hby d3_92)
    have Nw5 := Fr.snoc Xw5 Nw2 gy
    have IA1 := own_arrs_row Ww5 Y1 Y2 IA
    have IO1 := own_obj_far Ww5 Y1 (hw _ (List.mem_of_getElem? (i := 3) rfl)) IO
    obtain ⟨clC, C1, C2, C3⟩ := id IA1.2.2.1
    have gD := IA1.2.2.2.2
    obtain ⟨hinC, hcn⟩ := own_inb (N := 57) hb0 (by omega) C2
    obtain ⟨x2, hx2⟩ := C3 _ (by rw [C2]; exact hcn)
    have wsg6 : ∀ t, Steps p.tables e below (Tw5.setTop (mkF m 94 #[.val (.ref a1), .val (.ref ar), .val (.int fr), .val (.int to), .val (.long su), .second, .val (.long wr), .second, .val (.long ma), .second, .val (.int (Int32.ofNat i)), .val (.long (own_mx (0 : Int64) (own_nano i0 i1 i2 i))), .second, .val (.int b), .val (.ref y), .val (.long d15), .second] [(.ref a1)])) t → Steps p.tables e below (Tw5.setTop (mkF m 93 #[.val (.ref a1), .val (.ref ar), .val (.int fr), .val (.int to), .val (.long su), .second, .val (.long wr), .second, .val (.long ma), .second, .val (.int (Int32.ofNat i)), .val (.long (own_mx (0 : Int64) (own_nano i0 i1 i2 i))), .second, .val (.int b), .val (.ref y), .val (.long d15), .second] [])) t := by
      intro t kt
      refine XS.aloadN Xw5.here hx rfl (hb hby d3_93) rfl rfl ?_
      exact kt
    obtain ⟨Tw7, Xw7, ew7, stw7⟩ := getF Xw5 hx hZ hown (host := "") (Or.inl (hw _ (List.mem_of_getElem? (i := 15) rfl))) Via.refl ew5 IO1.2.2.1 (g := (mkF m 94 #[.val (.ref a1), .val (.ref ar), .val (.int fr), .val (.int to), .val (.long su), .second, .val (.long wr), .second, .val (.long ma), .second, .val (.int (Int32.ofNat i)), .val (.long (own_mx (0 : Int64) (own_nano i0 i1 i2 i))), .second, .val (.int b), .val (.ref y), .val (.long d15), .second] [(.ref a1)])) rfl rfl (hb hby d3_94)
    have wsg8 : ∀ t, Steps p.tables e below (Tw7.setTop (mkF m 103 #[.val (.ref a1), .val (.ref ar), .val (.int fr), .val (.int to), .val (.long su), .second, .val (.long wr), .second, .val (.long ma), .second, .val (.int (Int32.ofNat i)), .val (.long (own_mx (0 : Int64) (own_nano i0 i1 i2 i))), .second, .val (.int b), .val (.ref y), .val (.long d15), .second] [(.long (x2 + (1 : Int64))), (.int b), (.ref D)])) t → Steps p.tables e below (Tw7.setTop (mkF m 97 #[.val (.ref a1), .val (.ref ar), .val (.int fr), .val (.int to), .val (.long su), .second, .val (.long wr), .second, .val (.long ma), .second, .val (.int (Int32.ofNat i)), .val (.long (own_mx (0 : Int64) (own_nano i0 i1 i2 i))), .second, .val (.int b), .val (.ref y), .val (.long d15), .second] [(.ref D)])) t := by
      intro t kt
      refine XS.iload Xw7.here hx rfl (hb hby d3_97) rfl ?_
      show Steps p.tables e below (Tw7.setTop (mkF m 99 #[.val (.ref a1), .val (.ref ar), .val (.int fr), .val (.int to), .val (.long su), .second, .val (.long wr), .second, .val (.long ma), .second, .val (.int (Int32.ofNat i)), .val (.long (own_mx (0 : Int64) (own_nano i0 i1 i2 i))), .second, .val (.int b), .val (.ref y), .val (.long d15), .second] [(.int b), (.ref D)])) _
      refine Jvm.Free.XT.dup2 Xw7.here hx rfl (hb hby d3_99) rfl rfl rfl ?_
      show Steps p.tables e below (Tw7.setTop (mkF m 100 #[.val (.ref a1), .val (.ref ar), .val (.int fr), .val (.int to), .val (.long su), .second, .val (.long wr), .second, .val (.long ma), .second, .val (.int (Int32.ofNat i)), .val (.long (own_mx (0 : Int64) (own_nano i0 i1 i2 i))), .second, .val (.int b), .val (.ref y), .val (.long d15), .second] [(.int b), (.ref D), (.int b), (.ref D)])) _
      refine Xw7.laload hx (j := b) (v := (.long x2)) (by rw [ew7]; exact C1.1) (State.isArrayOf_alike hZ.alike C1.2.1) C1.2.2 hinC hx2 (g := (mkF m 100 #[.val (.ref a1), .val (.ref ar), .val (.int fr), .val (.int to), .val (.long su), .second, .val (.long wr), .second, .val (.long ma), .second, .val (.int (Int32.ofNat i)), .val (.long (own_mx (0 : Int64) (own_nano i0 i1 i2 i))), .second, .val (.int b), .val (.ref y), .val (.long d15), .second] [(.int b), (.ref D), (.int b), (.ref D)])) rfl rfl (hb hby d3_100) _ ?_
      show Steps p.tables e below (Tw7.setTop (mkF m 101 #[.val (.ref a1), .val (.ref ar), .val (.int fr), .val (.int to), .val (.long su), .second, .val (.long wr), .second, .val (.long ma), .second, .val (.int (Int32.ofNat i)), .val (.long (own_mx (0 : Int64) (own_nano i0 i1 i2 i))), .second, .val (.int b), .val (.ref y), .val (.long d15), .second] [(.long x2), (.int b), (.ref D)])) _
      refine XS.lconst Xw7.here hx rfl (hb hby d3_101) ?_
      show Steps p.tables e below (Tw7.setTop (mkF m 102 #[.val (.ref a1), .val (.ref ar), .val (.int fr), .val (.int to), .val (.long su), .second, .val (.long wr), .second, .val (.long ma), .second, .val (.int (Int32.ofNat i)), .val (.long (own_mx (0 : Int64) (own_nano i0 i1 i2 i))), .second, .val (.int b), .val (.ref y), .val (.long d15), .second] [(.long (1 : Int64)), (.long x2), (.int b), (.ref D)])) _
      refine XS.ladd Xw7.here hx rfl (hb hby d3_102) rfl ?_
      exact kt
    obtain ⟨Tw9, hw9, Xw9, ew9, Ww9, stw9⟩ := stJ Xw7 hx hZ ew7 C1 (j := b) hinC (g := (mkF m 103 #[.val (.ref a1), .val (.ref ar), .val (.int fr), .val (.int to), .val (.long su), .second, .val (.long wr), .second, .val (.long ma), .second, .val (.int (Int32.ofNat i)), .val (.long (own_mx (0 : Int64) (own_nano i0 i1 i2 i))), .second, .val (.int b), .val (.ref y), .val (.long d15), .second] [(.long (x2 + (1 : Int64))), (.int b), (.ref D)])) rfl rfl (hb hby d3_103)
    have Nw9 := Fr.snoc Xw9 Nw5 gD
    have IA2 := own_arrs_cnt Ww9 IA1
    have IO2 := own_obj_far Ww9 C1 (hw _ (List.mem_of_getElem? (i := 3) rfl)) IO1
    have Z2 : n0 ≤ hw9.size := by rw [Ww9.size, Ww5.size]; exact Z0
    obtain ⟨wr2, hwr2, st_w⟩ : ∃ wr2 : Int64, wr2 = (if su + (own_mx (0 : Int64) (own_nano i0 i1 i2 i)) < 0 then wr + 1 else wr) ∧ ∀ t, Steps p.tables e below (Tw9.setTop (mkF m 124 #[.val (.ref a1), .val (.ref ar), .val (.int fr), .val (.int to), .val (.long su), .second, .val (.long wr2), .second, .val (.long ma), .second, .val (.int (Int32.ofNat i)), .val (.long (own_mx (0 : Int64) (own_nano i0 i1 i2 i))), .second, .val (.int b), .val (.ref y), .val (.long (su + (own_mx (0 : Int64) (own_nano i0 i1 i2 i)))), .second] [])) t → Steps p.tables e below (Tw9.setTop (mkF m 104 #[.val (.ref a1), .val (.ref ar), .val (.int fr), .val (.int to), .val (.long su), .second, .val (.long wr), .second, .val (.long ma), .second, .val (.int (Int32.ofNat i)), .val (.long (own_mx (0 : Int64) (own_nano i0 i1 i2 i))), .second, .val (.int b), .val (.ref y), .val (.long d15), .second] [])) t := by
      by_cases cw : su + (own_mx (0 : Int64) (own_nano i0 i1 i2 i)) < 0
      · refine ⟨(wr + (1 : Int64)), by rw [if_pos cw], fun t kt => ?_⟩
        refine XS.lload Xw9.here hx rfl (hb hby d3_104) rfl ?_
        show Steps p.tables e below (Tw9.setTop (mkF m 106 #[.val (.ref a1), .val (.ref ar), .val (.int fr), .val (.int to), .val (.long su), .second, .val (.long wr), .second, .val (.long ma), .second, .val (.int (Int32.ofNat i)), .val (.long (own_mx (0 : Int64) (own_nano i0 i1 i2 i))), .second, .val (.int b), .val (.ref y), .val (.long d15), .second] [(.long su)])) _
        refine XS.lload Xw9.here hx rfl (hb hby d3_106) rfl ?_
        show Steps p.tables e below (Tw9.setTop (mkF m 108 #[.val (.ref a1), .val (.ref ar), .val (.int fr), .val (.int to), .val (.long su), .second, .val (.long wr), .second, .val (.long ma), .second, .val (.int (Int32.ofNat i)), .val (.long (own_mx (0 : Int64) (own_nano i0 i1 i2 i))), .second, .val (.int b), .val (.ref y), .val (.long d15), .second] [(.long (own_mx (0 : Int64) (own_nano i0 i1 i2 i))), (.long su)])) _
        refine XS.ladd Xw9.here hx rfl (hb hby d3_108) rfl ?_
        show Steps p.tables e below (Tw9.setTop (mkF m 109 #[.val (.ref a1), .val (.ref ar), .val (.int fr), .val (.int to), .val (.long su), .second, .val (.long wr), .second, .val (.long ma), .second, .val (.int (Int32.ofNat i)), .val (.long (own_mx (0 : Int64) (own_nano i0 i1 i2 i))), .second, .val (.int b), .val (.ref y), .val (.long d15), .second] [(.long (su + (own_mx (0 : Int64) (own_nano i0 i1 i2 i))))])) _
        refine XS.lstore Xw9.here hx rfl (hb hby d3_109) rfl (l' := #[.val (.ref a1), .val (.ref ar), .val (.int fr), .val (.int to), .val (.long su), .second, .val (.long wr), .second, .val (.long ma), .second, .val (.int (Int32.ofNat i)), .val (.long (own_mx (0 : Int64) (own_nano i0 i1 i2 i))), .second, .val (.int b), .val (.ref y), .val (.long (su + (own_mx (0 : Int64) (own_nano i0 i1 i2 i)))), .second]) rfl ?_
        show Steps p.tables e below (Tw9.setTop (mkF m 111 #[.val (.ref a1), .val (.ref ar), .val (.int fr), .val (.int to), .val (.long su), .second, .val (.long wr), .second, .val (.long ma), .second, .val (.int (Int32.ofNat i)), .val (.long (own_mx (0 : Int64) (own_nano i0 i1 i2 i))), .second, .val (.int b), .val (.ref y), .val (.long (su + (own_mx (0 : Int64) (own_nano i0 i1 i2 i)))), .second] [])) _
        refine XS.lload Xw9.here hx rfl (hb hby d3_111) rfl ?_
        show Steps p.tables e below (Tw9.setTop (mkF m 113 #[.val (.ref a1), .val (.ref ar), .val (.int fr), .val (.int to), .val (.long su), .second, .val (.long wr), .second, .val (.long ma), .second, .val (.int (Int32.ofNat i)), .val (.long (own_mx (0 : Int64) (own_nano i0 i1 i2 i))), .second, .val (.int b), .val (.ref y), .val (.long (su + (own_mx (0 : Int64) (own_nano i0 i1 i2 i)))), .second] [(.long (su + (own_mx (0 : Int64) (own_nano i0 i1 i2 i))))])) _
        refine XS.lconst Xw9.here hx rfl (hb hby d3_113) ?_
        show Steps p.tables e below (Tw9.setTop (mkF m 114 #[.val (.ref a1), .val (.ref ar), .val (.int fr), .val (.int to), .val (.long su), .second, .val (.long wr), .second, .val (.long ma), .second, .val (.int (Int32.ofNat i)), .val (.long (own_mx (0 : Int64) (own_nano i0 i1 i2 i))), .second, .val (.int b), .val (.ref y), .val (.long (su + (own_mx (0 : Int64) (own_nano i0 i1 i2 i)))), .second] [(.long (0 : Int64)), (.long (su + (own_mx (0 : Int64) (own_nano i0 i1 i2 i))))])) _
        refine XS.lcmp Xw9.here hx rfl (hb hby d3_114) rfl ?_
        show Steps p.tables e below (Tw9.setTop (mkF m 115 #[.val (.ref a1), .val (.ref ar), .val (.int fr), .val (.int to), .val (.long su), .second, .val (.long wr), .second, .val (.long ma), .second, .val (.int (Int32.ofNat i)), .val (.long (own_mx (0 : Int64) (own_nano i0 i1 i2 i))), .second, .val (.int b), .val (.ref y), .val (.long (su + (own_mx (0 : Int64) (own_nano i0 i1 i2 i)))), .second] [(.int (lcmpW (su + (own_mx (0 : Int64) (own_nano i0 i1 i2 i))) (0 : Int64)))])) _
        refine XS.ifNo Xw9.here hx rfl (hb hby d3_115) rfl ((if0 _ _).trans (tlt ((lw_lt _ _).mpr cw : (lcmpW (su + (own_mx (0 : Int64) (own_nano i0 i1 i2 i))) (0 : Int64)) < (0 : Int32))).2.1) ?_
        show Steps p.tables e below (Tw9.setTop (mkF m 118 #[.val (.ref a1), .val (.ref ar), .val (.int fr), .val (.int to), .val (.long su), .second, .val (.long wr), .second, .val (.long ma), .second, .val (.int (Int32.ofNat i)), .val (.long (own_mx (0 : Int64) (own_nano i0 i1 i2 i))), .second, .val (.int b), .val (.ref y), .val (.long (su + (own_mx (0 : Int64) (own_nano i0 i1 i2 i)))), .second] [])) _
        refine XS.lload Xw9.here hx rfl (hb hby d3_118) rfl ?_
        show Steps p.tables e below (Tw9.setTop (mkF m 120 #[.val (.ref a1), .val (.ref ar), .val (.int fr), .val (.int to), .val (.long su), .second, .val (.long wr), .second, .val (.long ma), .second, .val (.int (Int32.ofNat i)), .val (.long (own_mx (0 : Int64) (own_nano i0 i1 i2 i))), .second, .val (.int b), .val (.ref y), .val (.long (su + (own_mx (0 : Int64) (own_nano i0 i1 i2 i)))), .second] [(.long wr)])) _
        refine XS.lconst Xw9.here hx rfl (hb hby d3_120) ?_
        show Steps p.tables e below (Tw9.setTop (mkF m 121 #[.val (.ref a1), .val (.ref ar), .val (.int fr), .val (.int to), .val (.long su), .second, .val (.long wr), .second, .val (.long ma), .second, .val (.int (Int32.ofNat i)), .val (.long (own_mx (0 : Int64) (own_nano i0 i1 i2 i))), .second, .val (.int b), .val (.ref y), .val (.long (su + (own_mx (0 : Int64) (own_nano i0 i1 i2 i)))), .second] [(.long (1 : Int64)), (.long wr)])) _
        refine XS.ladd Xw9.here hx rfl (hb hby d3_121) rfl ?_
        show Steps p.tables e below (Tw9.setTop (mkF m 122 #[.val (.ref a1), .val (.ref ar), .val (.int fr), .val (.int to), .val (.long su), .second, .val (.long wr), .second, .val (.long ma), .second, .val (.int (Int32.ofNat i)), .val (.long (own_mx (0 : Int64) (own_nano i0 i1 i2 i))), .second, .val (.int b), .val (.ref y), .val (.long (su + (own_mx (0 : Int64) (own_nano i0 i1 i2 i)))), .second] [(.long (wr + (1 : Int64)))])) _
        refine XS.lstore Xw9.here hx rfl (hb hby d3_122) rfl (l' := #[.val (.ref a1), .val (.ref ar), .val (.int fr), .val (.int to), .val (.long su), .second, .val (.long (wr + (1 : Int64))), .second, .val (.long ma), .second, .val (.int (Int32.ofNat i)), .val (.long (own_mx (0 : Int64) (own_nano i0 i1 i2 i))), .second, .val (.int b), .val (.ref y), .val (.long (su + (own_mx (0 : Int64) (own_nano i0 i1 i2 i)))), .second]) rfl ?_
        exact kt
      · refine ⟨wr, by rw [if_neg cw], fun t kt => ?_⟩
        refine XS.lload Xw9.here hx rfl (hb hby d3_104) rfl ?_
        show Steps p.tables e below (Tw9.setTop (mkF m 106 #[.val (.ref a1), .val (.ref ar), .val (.int fr), .val (.int to), .val (.long su), .second, .val (.long wr), .second, .val (.long ma), .second, .val (.int (Int32.ofNat i)), .val (.long (own_mx (0 : Int64) (own_nano i0 i1 i2 i))), .second, .val (.int b), .val (.ref y), .val (.long d15), .second] [(.long su)])) _
        refine XS.lload Xw9.here hx rfl (hb hby d3_106) rfl ?_
        show Steps p.tables e below (Tw9.setTop (mkF m 108 #[.val (.ref a1), .val (.ref ar), .val (.int fr), .val (.int to), .val (.long su), .second, .val (.long wr), .second, .val (.long ma), .second, .val (.int (Int32.ofNat i)), .val (.long (own_mx (0 : Int64) (own_nano i0 i1 i2 i))), .second, .val (.int b), .val (.ref y), .val (.long d15), .second] [(.long (own_mx (0 : Int64) (own_nano i0 i1 i2 i))), (.long su)])) _
        refine XS.ladd Xw9.here hx rfl (hb hby d3_108) rfl ?_
        show Steps p.tables e below (Tw9.setTop (mkF m 109 #[.val (.ref a1), .val (.ref ar), .val (.int fr), .val (.int to), .val (.long su), .second, .val (.long wr), .second, .val (.long ma), .second, .val (.int (Int32.ofNat i)), .val (.long (own_mx (0 : Int64) (own_nano i0 i1 i2 i))), .second, .val (.int b), .val (.ref y), .val (.long d15), .second] [(.long (su + (own_mx (0 : Int64) (own_nano i0 i1 i2 i))))])) _
        refine XS.lstore Xw9.here hx rfl (hb hby d3_109) rfl (l' := #[.val (.ref a1), .val (.ref ar), .val (.int fr), .val (.int to), .val (.long su), .second, .val (.long wr), .second, .val (.long ma), .second, .val (.int (Int32.ofNat i)), .val (.long (own_mx (0 : Int64) (own_nano i0 i1 i2 i))), .second, .val (.int b), .val (.ref y), .val (.long (su + (own_mx (0 : Int64) (own_nano i0 i1 i2 i)))), .second]) rfl ?_
        show Steps p.tables e below (Tw9.setTop (mkF m 111 #[.val (.ref a1), .val (.ref ar), .val (.int fr), .val (.int to), .val (.long su), .second, .val (.long wr), .second, .val (.long ma), .second, .val (.int (Int32.ofNat i)), .val (.long (own_mx (0 : Int64) (own_nano i0 i1 i2 i))), .second, .val (.int b), .val (.ref y), .val (.long (su + (own_mx (0 : Int64) (own_nano i0 i1 i2 i)))), .second] [])) _
        refine XS.lload Xw9.here hx rfl (hb hby d3_111) rfl ?_
        show Steps p.tables e below (Tw9.setTop (mkF m 113 #[.val (.ref a1), .val (.ref ar), .val (.int fr), .val (.int to), .val (.long su), .second, .val (.long wr), .second, .val (.long ma), .second, .val (.int (Int32.ofNat i)), .val (.long (own_mx (0 : Int64) (own_nano i0 i1 i2 i))), .second, .val (.int b), .val (.ref y), .val (.long (su + (own_mx (0 : Int64) (own_nano i0 i1 i2 i)))), .second] [(.long (su + (own_mx (0 : Int64) (own_nano i0 i1 i2 i))))])) _
        refine XS.lconst Xw9.here hx rfl (hb hby d3_113) ?_
        show Steps p.tables e below (Tw9.setTop (mkF m 114 #[.val (.ref a1), .val (.ref ar), .val (.int fr), .val (.int to), .val (.long su), .second, .val (.long wr), .second, .val (.long ma), .second, .val (.int (Int32.ofNat i)), .val (.long (own_mx (0 : Int64) (own_nano i0 i1 i2 i))), .second, .val (.int b), .val (.ref y), .val (.long (su + (own_mx (0 : Int64) (own_nano i0 i1 i2 i)))), .second] [(.long (0 : Int64)), (.long (su + (own_mx (0 : Int64) (own_nano i0 i1 i2 i))))])) _
        refine XS.lcmp Xw9.here hx rfl (hb hby d3_114) rfl ?_
        show Steps p.tables e below (Tw9.setTop (mkF m 115 #[.val (.ref a1), .val (.ref ar), .val (.int fr), .val (.int to), .val (.long su), .second, .val (.long wr), .second, .val (.long ma), .second, .val (.int (Int32.ofNat i)), .val (.long (own_mx (0 : Int64) (own_nano i0 i1 i2 i))), .second, .val (.int b), .val (.ref y), .val (.long (su + (own_mx (0 : Int64) (own_nano i0 i1 i2 i)))), .second] [(.int (lcmpW (su + (own_mx (0 : Int64) (own_nano i0 i1 i2 i))) (0 : Int64)))])) _
        refine XS.ifYes Xw9.here hx rfl (pc0 := 115) (pc' := 124) rfl (hb hby d3_115) rfl ((if0 _ _).trans (flt (fun q => cw ((lw_lt _ _).mp q) : ¬ ((lcmpW (su + (own_mx (0 : Int64) (own_nano i0 i1 i2 i))) (0 : Int64)) < (0 : Int32)))).2.1) (by decide) (by decide) ?_
        exact kt
    have wsg10 : ∀ t, Steps p.tables e below (Tw9.setTop (mkF m 136 #[.val (.ref a1), .val (.ref ar), .val (.int fr), .val (.int to), .val (.long ((su + (own_mx (0 : Int64) (own_nano i0 i1 i2 i))) &&& (9223372036854775807 : Int64))), .second, .val (.long wr2), .second, .val (.long ma), .second, .val (.int (Int32.ofNat i)), .val (.long (own_mx (0 : Int64) (own_nano i0 i1 i2 i))), .second, .val (.int b), .val (.ref y), .val (.long (su + (own_mx (0 : Int64) (own_nano i0 i1 i2 i)))), .second] [(.long (own_mx (0 : Int64) (own_nano i0 i1 i2 i))), (.long ma)])) t → Steps p.tables e below (Tw9.setTop (mkF m 124 #[.val (.ref a1), .val (.ref ar), .val (.int fr), .val (.int to), .val (.long su), .second, .val (.long wr2), .second, .val (.long ma), .second, .val (.int (Int32.ofNat i)), .val (.long (own_mx (0 : Int64) (own_nano i0 i1 i2 i))), .second, .val (.int b), .val (.ref y), .val (.long (su + (own_mx (0 : Int64) (own_nano i0 i1 i2 i)))), .second] [])) t := by
      intro t kt
      refine XS.lload Xw9.here hx rfl (hb hby d3_124) rfl ?_
      show Steps p.tables e below (Tw9.setTop (mkF m 126 #[.val (.ref a1), .val (.ref ar), .val (.int fr), .val (.int to), .val (.long su), .second, .val (.long wr2), .second, .val (.long ma), .second, .val (.int (Int32.ofNat i)), .val (.long (own_mx (0 : Int64) (own_nano i0 i1 i2 i))), .second, .val (.int b), .val (.ref y), .val (.long (su + (own_mx (0 : Int64) (own_nano i0 i1 i2 i)))), .second] [(.long (su + (own_mx (0 : Int64) (own_nano i0 i1 i2 i))))])) _
      refine Xw9.ldc2Long hx hown (mvT hZ (hw _ (List.mem_of_getElem? (i := 51) rfl))) (g := (mkF m 126 #[.val (.ref a1), .val (.ref ar), .val (.int fr), .val (.int to), .val (.long su), .second, .val (.long wr2), .second, .val (.long ma), .second, .val (.int (Int32.ofNat i)), .val (.long (own_mx (0 : Int64) (own_nano i0 i1 i2 i))), .second, .val (.int b), .val (.ref y), .val (.long (su + (own_mx (0 : Int64) (own_nano i0 i1 i2 i)))), .second] [(.long (su + (own_mx (0 : Int64) (own_nano i0 i1 i2 i))))])) rfl (hb hby d3_126) _ ?_
      show Steps p.tables e below (Tw9.setTop (mkF m 129 #[.val (.ref a1), .val (.ref ar), .val (.int fr), .val (.int to), .val (.long su), .second, .val (.long wr2), .second, .val (.long ma), .second, .val (.int (Int32.ofNat i)), .val (.long (own_mx (0 : Int64) (own_nano i0 i1 i2 i))), .second, .val (.int b), .val (.ref y), .val (.long (su + (own_mx (0 : Int64) (own_nano i0 i1 i2 i)))), .second] [(.long (9223372036854775807 : Int64)), (.long (su + (own_mx (0 : Int64) (own_nano i0 i1 i2 i))))])) _
      refine XS.land Xw9.here hx rfl (hb hby d3_129) rfl ?_
      show Steps p.tables e below (Tw9.setTop (mkF m 130 #[.val (.ref a1), .val (.ref ar), .val (.int fr), .val (.int to), .val (.long su), .second, .val (.long wr2), .second, .val (.long ma), .second, .val (.int (Int32.ofNat i)), .val (.long (own_mx (0 : Int64) (own_nano i0 i1 i2 i))), .second, .val (.int b), .val (.ref y), .val (.long (su + (own_mx (0 : Int64) (own_nano i0 i1 i2 i)))), .second] [(.long ((su + (own_mx (0 : Int64) (own_nano i0 i1 i2 i))) &&& (9223372036854775807 : Int64)))])) _
      refine XS.lstore Xw9.here hx rfl (hb hby d3_130) rfl (l' := #[.val (.ref a1), .val (.ref ar), .val (.int fr), .val (.int to), .val (.long ((su + (own_mx (0 : Int64) (own_nano i0 i1 i2 i))) &&& (9223372036854775807 : Int64))), .second, .val (.long wr2), .second, .val (.long ma), .second, .val (.int (Int32.ofNat i)), .val (.long (own_mx (0 : Int64) (own_nano i0 i1 i2 i))), .second, .val (.int b), .val (.ref y), .val (.long (su + (own_mx (0 : Int64) (own_nano i0 i1 i2 i)))), .second]) rfl ?_
      show Steps p.tables e below (Tw9.setTop (mkF m 132 #[.val (.ref a1), .val (.ref ar), .val (.int fr), .val (.int to), .val (.long ((su + (own_mx (0 : Int64) (own_nano i0 i1 i2 i))) &&& (9223372036854775807 : Int64))), .second, .val (.long wr2), .second, .val (.long ma), .second, .val (.int (Int32.ofNat i)), .val (.long (own_mx (0 : Int64) (own_nano i0 i1 i2 i))), .second, .val (.int b), .val (.ref y), .val (.long (su + (own_mx (0 : Int64) (own_nano i0 i1 i2 i)))), .second] [])) _
      refine XS.lload Xw9.here hx rfl (hb hby d3_132) rfl ?_
      show Steps p.tables e below (Tw9.setTop (mkF m 134 #[.val (.ref a1), .val (.ref ar), .val (.int fr), .val (.int to), .val (.long ((su + (own_mx (0 : Int64) (own_nano i0 i1 i2 i))) &&& (9223372036854775807 : Int64))), .second, .val (.long wr2), .second, .val (.long ma), .second, .val (.int (Int32.ofNat i)), .val (.long (own_mx (0 : Int64) (own_nano i0 i1 i2 i))), .second, .val (.int b), .val (.ref y), .val (.long (su + (own_mx (0 : Int64) (own_nano i0 i1 i2 i)))), .second] [(.long ma)])) _
      refine XS.lload Xw9.here hx rfl (hb hby d3_134) rfl ?_
      exact kt
    obtain ⟨_, _, ⟨Tw11, Lw11, kw11, nw11⟩, -, Xw11, ⟨Lcw11, hQw11, lw11, yw11, zw11⟩, stw11⟩ := Jvm.LawKit.callS Xw9 hx (y := (⟨"java/lang/Math", "max", "(JJ)J"⟩ : MethodName)) hown (mvT hZ (hw _ (List.mem_of_getElem? (i := 28) rfl))) (mvT hZ (hw _ (List.mem_of_getElem? (i := 29) rfl))) (mvT hZ (hw _ (List.mem_of_getElem? (i := 30) rfl))) (mvT hZ (hw _ (List.mem_of_getElem? (i := 31) rfl))) (by decide) (backOf (W := 0) (rm4 l Z a0 hw [] ma (own_mx (0 : Int64) (own_nano i0 i1 i2 i)) hw9 n0 Z2 ) hZ (hw _ (List.mem_of_getElem? (i := 31) rfl)) (hw _ (List.mem_of_getElem? (i := 30) rfl)) (by decide) (by decide)) (g := (mkF m 136 #[.val (.ref a1), .val (.ref ar), .val (.int fr), .val (.int to), .val (.long ((su + (own_mx (0 : Int64) (own_nano i0 i1 i2 i))) &&& (9223372036854775807 : Int64))), .second, .val (.long wr2), .second, .val (.long ma), .second, .val (.int (Int32.ofNat i)), .val (.long (own_mx (0 : Int64) (own_nano i0 i1 i2 i))), .second, .val (.int b), .val (.ref y), .val (.long (su + (own_mx (0 : Int64) (own_nano i0 i1 i2 i)))), .second] [(.long (own_mx (0 : Int64) (own_nano i0 i1 i2 i))), (.long ma)])) rfl (by rw [hml]; rfl) (argsL := [(.long ma), (.long (own_mx (0 : Int64) (own_nano i0 i1 i2 i)))]) (rest := []) (lenOf pd_3 rfl) rfl (by show 2 * 0 + _ ≤ _; exact Nat.le_of_eq rfl) (hb hby d3_136) (fun _ _ => ⟨rfl, ew9, hc0, hs0⟩)
    dsimp only [Pt.U, Pt.locs, Pt.cells, Pt.slots] at Xw11 lw11 yw11 zw11 stw11 hQw11
    subst lw11 yw11 zw11
    obtain ⟨rfl, Nqw11, eqw11⟩ := hQw11
    have Nw11 := Fr.app Nw9 Nqw11
    have wsg12 : ∀ t, Steps p.tables e below (Tw11.setTop (mkF m 21 #[.val (.ref a1), .val (.ref ar), .val (.int fr), .val (.int to), .val (.long ((su + (own_mx (0 : Int64) (own_nano i0 i1 i2 i))) &&& (9223372036854775807 : Int64))), .second, .val (.long wr2), .second, .val (.long (own_mx ma (own_mx (0 : Int64) (own_nano i0 i1 i2 i)))), .second, .val (.int ((Int32.ofNat i) + (1 : Int32))), .val (.long (own_mx (0 : Int64) (own_nano i0 i1 i2 i))), .second, .val (.int b), .val (.ref y), .val (.long (su + (own_mx (0 : Int64) (own_nano i0 i1 i2 i)))), .second] [])) t → Steps p.tables e below (Tw11.setTop (mkF m 139 #[.val (.ref a1), .val (.ref ar), .val (.int fr), .val (.int to), .val (.long ((su + (own_mx (0 : Int64) (own_nano i0 i1 i2 i))) &&& (9223372036854775807 : Int64))), .second, .val (.long wr2), .second, .val (.long ma), .second, .val (.int (Int32.ofNat i)), .val (.long (own_mx (0 : Int64) (own_nano i0 i1 i2 i))), .second, .val (.int b), .val (.ref y), .val (.long (su + (own_mx (0 : Int64) (own_nano i0 i1 i2 i)))), .second] [(.long (own_mx ma (own_mx (0 : Int64) (own_nano i0 i1 i2 i))))])) t := by
      intro t kt
      refine XS.lstore Xw11.here hx rfl (hb hby d3_139) rfl (l' := #[.val (.ref a1), .val (.ref ar), .val (.int fr), .val (.int to), .val (.long ((su + (own_mx (0 : Int64) (own_nano i0 i1 i2 i))) &&& (9223372036854775807 : Int64))), .second, .val (.long wr2), .second, .val (.long (own_mx ma (own_mx (0 : Int64) (own_nano i0 i1 i2 i)))), .second, .val (.int (Int32.ofNat i)), .val (.long (own_mx (0 : Int64) (own_nano i0 i1 i2 i))), .second, .val (.int b), .val (.ref y), .val (.long (su + (own_mx (0 : Int64) (own_nano i0 i1 i2 i)))), .second]) rfl ?_
      show Steps p.tables e below (Tw11.setTop (mkF m 141 #[.val (.ref a1), .val (.ref ar), .val (.int fr), .val (.int to), .val (.long ((su + (own_mx (0 : Int64) (own_nano i0 i1 i2 i))) &&& (9223372036854775807 : Int64))), .second, .val (.long wr2), .second, .val (.long (own_mx ma (own_mx (0 : Int64) (own_nano i0 i1 i2 i)))), .second, .val (.int (Int32.ofNat i)), .val (.long (own_mx (0 : Int64) (own_nano i0 i1 i2 i))), .second, .val (.int b), .val (.ref y), .val (.long (su + (own_mx (0 : Int64) (own_nano i0 i1 i2 i)))), .second] [])) _
      refine XS.iinc Xw11.here hx rfl (hb hby d3_141) rfl (l' := #[.val (.ref a1), .val (.ref ar), .val (.int fr), .val (.int to), .val (.long ((su + (own_mx (0 : Int64) (own_nano i0 i1 i2 i))) &&& (9223372036854775807 : Int64))), .second, .val (.long wr2), .second, .val (.long (own_mx ma (own_mx (0 : Int64) (own_nano i0 i1 i2 i)))), .second, .val (.int ((Int32.ofNat i) + (1 : Int32))), .val (.long (own_mx (0 : Int64) (own_nano i0 i1 i2 i))), .second, .val (.int b), .val (.ref y), .val (.long (su + (own_mx (0 : Int64) (own_nano i0 i1 i2 i)))), .second]) rfl ?_
      show Steps p.tables e below (Tw11.setTop (mkF m 144 #[.val (.ref a1), .val (.ref ar), .val (.int fr), .val (.int to), .val (.long ((su + (own_mx (0 : Int64) (own_nano i0 i1 i2 i))) &&& (9223372036854775807 : Int64))), .second, .val (.long wr2), .second, .val (.long (own_mx ma (own_mx (0 : Int64) (own_nano i0 i1 i2 i)))), .second, .val (.int ((Int32.ofNat i) + (1 : Int32))), .val (.long (own_mx (0 : Int64) (own_nano i0 i1 i2 i))), .second, .val (.int b), .val (.ref y), .val (.long (su + (own_mx (0 : Int64) (own_nano i0 i1 i2 i)))), .second] [])) _
      refine XS.goto Xw11.here hx rfl (pc0 := 144) (pc' := 21) rfl (hb hby d3_144) (by decide) (by decide) ?_
      exact kt
    have hst : own_st (su, wr) (own_nano i0 i1 i2 i) = ((su + (own_mx (0 : Int64) (own_nano i0 i1 i2 i))) &&& (9223372036854775807 : Int64), wr2) := by rw [hwr2]; rfl
    rw [hst]
    refine ⟨Tw11, hw9, _, (own_mx ma (own_mx (0 : Int64) (own_nano i0 i1 i2 i))), Xw11, eqw11, Nw11, by rw [Ww9.size, Ww5.size]; exact Nat.le_refl _, IA2, IO2, trivial, fun t kt => ?_⟩
    refine wsg1 _ ?_
    refine stw2 _ ?_
    refine wsg3 _ ?_
    refine wsg4 _ ?_
    refine stw5 _ ?_
    refine wsg6 _ ?_
    refine stw7 _ ?_
    refine wsg8 _ ?_
    refine stw9 _ ?_
    refine st_w _ ?_
    refine wsg10 _ ?_
    refine stw11 _ ?_
    refine wsg12 _ ?_
    rw [← succ32 i] at kt
    exact kt
set_option maxRecDepth 65536 in
set_option maxHeartbeats 40000000 in
theorem own_rloop {p : Program} {l : Launch} {e : Env} {s : State} {m : MethodId} {args : Array Value} {below : List Frame} {meth : Method} {c : Code} {Z : State} {a0 : Array Value} {n0 : Nat} (hx : p.tables.exec = Jvm.exec) (hZ : Z.Warmed39 s.vm) (hw : ∀ d ∈ tables_1, d.before a0 Z = true) (hby : c.code = prog_1_method_2_code) (hml : c.maxLocals = 17) (hown : s.vm.findClass "com/example/cormorant/cormorant/Histogram" = some m.cls) (a1 ar B D : Addr) (i0 i1 i2 sm sw mx ct : Int64) (fr to : Int32) (g1 : n0 ≤ a1) :
    ∀ (ws : List Int64) (i : Nat) (su wr ma : Int64) (s11 s12 s13 s14 s15 s16 : Slot) {T0 : State} {h0 : Heap} {locs : List Loc} {cells slots : Nat}, Stand p l e ({ frames := 3, cells := 3, slots := 384, locals := 43 } : Room) s m args below meth c T0 locs cells slots → T0.heap = h0 → n0 ≤ h0.size → Fr n0 locs → cells + ws.length ≤ ({ frames := 3, cells := 3, slots := 384, locals := 43 } : Room).cells → slots + 128 * ws.length ≤ ({ frames := 3, cells := 3, slots := 384, locals := 43 } : Room).slots → i + ws.length ≤ 3 → to = Int32.ofNat (i + ws.length) → (∀ j, j < ws.length → own_nano i0 i1 i2 (i + j) = ws.getD j 0) → own_arrs Z h0 n0 ar B D i0 i1 i2 → own_obj Z h0 a1 B D sm sw mx ct → ((s11 = .unset ∧ s12 = .unset ∧ s13 = .unset ∧ s14 = .unset) ∨ ∃ d11 d13 d14, s11 = .val (.long d11) ∧ s12 = .second ∧ s13 = .val (.int d13) ∧ s14 = .val (.ref d14)) → ((s15 = .unset ∧ s16 = .unset) ∨ ∃ d15, s15 = .val (.long d15) ∧ s16 = .second) →
    ∃ T' h' locs' ma' i' t11 t12 t13 t14 t15 t16, Stand p l e ({ frames := 3, cells := 3, slots := 384, locals := 43 } : Room) s m args below meth c T' locs' (cells + ws.length) (slots + 128 * ws.length) ∧ T'.heap = h' ∧ Fr n0 locs' ∧ h0.size ≤ h'.size ∧ own_arrs Z h' n0 ar B D i0 i1 i2 ∧ own_obj Z h' a1 B D sm sw mx ct ∧ ∀ t, Steps p.tables e below (T'.setTop (mkF m 147 #[.val (.ref a1), .val (.ref ar), .val (.int fr), .val (.int to), .val (.long (own_run (su, wr) ws).1), .second, .val (.long (own_run (su, wr) ws).2), .second, .val (.long ma'), .second, .val (.int i'), t11, t12, t13, t14, t15, t16] [])) t → Steps p.tables e below (T0.setTop (mkF m 21 #[.val (.ref a1), .val (.ref ar), .val (.int fr), .val (.int to), .val (.long su), .second, .val (.long wr), .second, .val (.long ma), .second, .val (.int (Int32.ofNat i)), s11, s12, s13, s14, s15, s16] [])) t := by
  intro ws
  induction ws with
  | nil =>
    intro i su wr ma s11 s12 s13 s14 s15 s16 T0 h0 locs cells slots X0 e0 Z0 N0 hc hs hi hto hws IA IO h1 h2
    subst hto
    have hge : ¬ (Int32.ofNat i < Int32.ofNat (i + ([] : List Int64).length)) := nlt32 (by omega) (Nat.le_refl _)
    refine ⟨T0, h0, locs, ma, Int32.ofNat i, s11, s12, s13, s14, s15, s16, X0, e0, N0, Nat.le_refl _, IA, IO, fun t kt => ?_⟩
    refine XS.iload X0.here hx rfl (hb hby d3_21) rfl ?_
    show Steps p.tables e below (T0.setTop (mkF m 23 #[.val (.ref a1), .val (.ref ar), .val (.int fr), .val (.int (Int32.ofNat (i + ([] : List Int64).length))), .val (.long su), .second, .val (.long wr), .second, .val (.long ma), .second, .val (.int (Int32.ofNat i)), s11, s12, s13, s14, s15, s16] [(.int (Int32.ofNat i))])) _
    refine XS.iloadN X0.here hx rfl (hb hby d3_23) rfl ?_
    show Steps p.tables e below (T0.setTop (mkF m 24 #[.val (.ref a1), .val (.ref ar), .val (.int fr), .val (.int (Int32.ofNat (i + ([] : List Int64).length))), .val (.long su), .second, .val (.long wr), .second, .val (.long ma), .second, .val (.int (Int32.ofNat i)), s11, s12, s13, s14, s15, s16] [(.int (Int32.ofNat (i + ([] : List Int64).length))), (.int (Int32.ofNat i))])) _
    refine XS.icmpYes X0.here hx rfl (pc0 := 24) (pc' := 147) rfl (hb hby d3_24) rfl (flt (hge : ¬ ((Int32.ofNat i) < (Int32.ofNat (i + ([] : List Int64).length))))).2.1 (by decide) (by decide) ?_
    exact kt
  | cons w1 ws ih =>
    intro i su wr ma s11 s12 s13 s14 s15 s16 T0 h0 locs cells slots X0 e0 Z0 N0 hc hs hi hto hws IA IO h1 h2
    simp only [List.length_cons] at hc hs hi hto
    have hc : cells + (ws.length + 1) ≤ 3 := hc
    have hs : slots + 128 * (ws.length + 1) ≤ 384 := hs
    have hlt : Int32.ofNat i < to := by rw [hto]; exact lt32 (by omega) (by omega)
    have hw1 : own_nano i0 i1 i2 i = w1 := by have := hws 0 (by simp); simpa using this
    obtain ⟨T1, h1', L1, b, y, X1, e1, N1, z1, IA1, IO1, ⟨gy, cy, Y1, Y2, Y3⟩, b0, b1, st1⟩ := own_tA X0 hx hZ hw hby hml hown e0 Z0 N0 (show cells + 1 ≤ 3 by omega) (show slots + 128 ≤ 384 by omega) a1 ar B D i0 i1 i2 sm sw mx ct fr to i su wr ma s11 s12 s13 s14 s15 s16 IA IO g1 (by omega) hlt h1
    obtain ⟨T2, h2', L2, ma2, X2, e2, N2, z2, IA2, IO2, -, st2⟩ := own_tB X1 hx hZ hw hby hml hown e1 (by omega) N1 (show cells + 1 + 0 ≤ 3 by omega) (show slots + 128 + 0 ≤ 384 by omega) a1 ar B D i0 i1 i2 sm sw mx ct fr to i su wr ma b y s15 s16 IA1 IO1 gy cy Y1 Y2 Y3 b0 b1 h2
    obtain ⟨T3, h3', L3, ma3, i3, t11, t12, t13, t14, t15, t16, X3, e3, N3, z3, IA3, IO3, st3⟩ := ih (i + 1) (own_st (su, wr) (own_nano i0 i1 i2 i)).1 (own_st (su, wr) (own_nano i0 i1 i2 i)).2 ma2 _ _ _ _ _ _ X2 e2 (by omega) N2 (show cells + 1 + ws.length ≤ 3 by omega) (show slots + 128 + 128 * ws.length ≤ 384 by omega) (by omega) (by rw [hto]; congr 1; omega) (fun j hj => by have := hws (j + 1) (by simp; omega); rw [show i + 1 + j = i + (j + 1) by omega, this]; simp) IA2 IO2 (Or.inr ⟨_, _, _, rfl, rfl, rfl, rfl⟩) (Or.inr ⟨_, rfl, rfl⟩)
    have hrun : own_run (su, wr) (w1 :: ws) = own_run ((own_st (su, wr) (own_nano i0 i1 i2 i)).1, (own_st (su, wr) (own_nano i0 i1 i2 i)).2) ws := by rw [hw1]; rfl
    refine ⟨T3, h3', L3, ma3, i3, t11, t12, t13, t14, t15, t16, X3.more (by simp only [List.length_cons]; omega) (by simp only [List.length_cons]; omega), e3, N3, by omega, IA3, IO3, fun t kt => ?_⟩
    rw [hrun] at kt
    exact st1 t (st2 t (st3 t kt))
def Q3 (Z : State) (a1 ar : Addr) (fr : Nat) (ws0 : List Int64) (B D : Addr) (i0 i1 i2 sm sw mx ct : Int64) (h0 : Heap) (n0 : Nat) (v : Option Value) (h : Heap) (L : List Loc) : Prop := v = none ∧ Fr n0 L ∧ h0.size ≤ h.size ∧ own_arrs Z h n0 ar B D i0 i1 i2 ∧ ∃ mx', own_obj Z h a1 B D (own_run (sm, sw) ws0).1 (own_run (sm, sw) ws0).2 mx' (ct + ((Int32.ofNat (fr + ws0.length)) - (Int32.ofNat fr)).toInt64)
set_option maxRecDepth 65536 in
set_option maxHeartbeats 40000000 in
theorem rm3 (l : Launch) (Z : State) (a0 : Array Value) (hw : ∀ d ∈ tables_1, d.before a0 Z = true) (ws : List Jvm.Cond) (a1 ar : Addr) (fr : Nat) (ws0 : List Int64) (B D : Addr) (i0 i1 i2 sm sw mx ct : Int64) (h0 : Heap) (n0 : Nat) (Z0 : n0 ≤ h0.size) (hfr : fr + ws0.length ≤ 3) (hws : ∀ j, j < ws0.length → own_nano i0 i1 i2 (fr + j) = ws0.getD j 0) (IA : own_arrs Z h0 n0 ar B D i0 i1 i2) (IO : own_obj Z h0 a1 B D sm sw mx ct) (g_a1 : n0 ≤ a1) :
    MetFree l (⟨"com/example/cormorant/cormorant/Histogram", "record", "([JII)V"⟩ : MethodName) (head1 (Jvm.Cond.code (⟨"com/example/cormorant/cormorant/Histogram", "record", "([JII)V"⟩ : MethodName) prog_1_method_2_code 17 none :: ws) ({ frames := 3, cells := 3, slots := 384, locals := 43 } : Room)) (fun a U => a = #[(.ref a1), (.ref ar), (.int (Int32.ofNat fr)), (.int (Int32.ofNat (fr + ws0.length)))] ∧ Z.Warmed39 U.vm ∧ U.heap = h0) (fun _ _ _ _ _ => True) (fun _ U o U' => ∃ v L, o = .returned v ∧ Q3 Z a1 ar fr ws0 B D i0 i1 i2 sm sw mx ct h0 n0 v U'.heap L ∧ FrameEnd U o U' L ({ frames := 3, cells := 3, slots := 384, locals := 43 } : Room).cells ({ frames := 3, cells := 3, slots := 384, locals := 43 } : Room).slots) := by
  refine MetFree.of_bodySF (plainFor_of_name pn_3) hisR ?_
  intro p e s m args below meth c s₁ Bd hml0 hP hK
  obtain ⟨rfl, hZ, hh⟩ := hP
  have hx := Bd.exec
  have hby := Bd.bytes
  have hml : c.maxLocals = 17 := hml0
  have hown : s.vm.findClass "com/example/cormorant/cormorant/Histogram" = some m.cls := findClass_of_methodNamed Bd.named
  have hnm := (name_of_methodNamed Bd.named Bd.method).1
  have X0 : Stand p l e ({ frames := 3, cells := 3, slots := 384, locals := 43 } : Room) s m #[(.ref a1), (.ref ar), (.int (Int32.ofNat fr)), (.int (Int32.ofNat (fr + ws0.length)))] below meth c s₁ [] 0 0 := Stand.of_body Bd
  have e0 : s₁.heap = h0 := by rw [← hh, Bd.state]; rfl
  have N0 := Fr.nil n0
  have pre0 : ∀ t, Steps p.tables e below (s₁.setTop (mkF m 0 #[.val (.ref a1), .val (.ref ar), .val (.int (Int32.ofNat fr)), .val (.int (Int32.ofNat (fr + ws0.length))), .unset, .unset, .unset, .unset, .unset, .unset, .unset, .unset, .unset, .unset, .unset, .unset, .unset] [])) t → Steps p.tables e below (s₁.setTop (entryFrame m #[(.ref a1), (.ref ar), (.int (Int32.ofNat fr)), (.int (Int32.ofNat (fr + ws0.length)))] 17)) t := fun t kq0 => castTop (ef_3 m a1 ar ((Int32.ofNat fr)) ((Int32.ofNat (fr + ws0.length)))) kq0
  obtain ⟨E1, Fb, Fd, Fs, Fw, Fm, Fc⟩ := id IO
  have sg1 : ∀ t, Steps p.tables e below (s₁.setTop (mkF m 1 #[.val (.ref a1), .val (.ref ar), .val (.int (Int32.ofNat fr)), .val (.int (Int32.ofNat (fr + ws0.length))), .unset, .unset, .unset, .unset, .unset, .unset, .unset, .unset, .unset, .unset, .unset, .unset, .unset] [(.ref a1)])) t → Steps p.tables e below (s₁.setTop (mkF m 0 #[.val (.ref a1), .val (.ref ar), .val (.int (Int32.ofNat fr)), .val (.int (Int32.ofNat (fr + ws0.length))), .unset, .unset, .unset, .unset, .unset, .unset, .unset, .unset, .unset, .unset, .unset, .unset, .unset] [])) t := by
    intro t kt
    refine XS.aloadN X0.here hx rfl (hb hby d3_0) rfl rfl ?_
    exact kt
  obtain ⟨T2, X2, e2, st2⟩ := getF X0 hx hZ hown (host := "") (Or.inl (hw _ (List.mem_of_getElem? (i := 22) rfl))) Via.refl e0 Fs (g := (mkF m 1 #[.val (.ref a1), .val (.ref ar), .val (.int (Int32.ofNat fr)), .val (.int (Int32.ofNat (fr + ws0.length))), .unset, .unset, .unset, .unset, .unset, .unset, .unset, .unset, .unset, .unset, .unset, .unset, .unset] [(.ref a1)])) rfl rfl (hb hby d3_1)
  have sg3 : ∀ t, Steps p.tables e below (T2.setTop (mkF m 7 #[.val (.ref a1), .val (.ref ar), .val (.int (Int32.ofNat fr)), .val (.int (Int32.ofNat (fr + ws0.length))), .val (.long sm), .second, .unset, .unset, .unset, .unset, .unset, .unset, .unset, .unset, .unset, .unset, .unset] [(.ref a1)])) t → Steps p.tables e below (T2.setTop (mkF m 4 #[.val (.ref a1), .val (.ref ar), .val (.int (Int32.ofNat fr)), .val (.int (Int32.ofNat (fr + ws0.length))), .unset, .unset, .unset, .unset, .unset, .unset, .unset, .unset, .unset, .unset, .unset, .unset, .unset] [(.long sm)])) t := by
    intro t kt
    refine XS.lstore X2.here hx rfl (hb hby d3_4) rfl (l' := #[.val (.ref a1), .val (.ref ar), .val (.int (Int32.ofNat fr)), .val (.int (Int32.ofNat (fr + ws0.length))), .val (.long sm), .second, .unset, .unset, .unset, .unset, .unset, .unset, .unset, .unset, .unset, .unset, .unset]) rfl ?_
    show Steps p.tables e below (T2.setTop (mkF m 6 #[.val (.ref a1), .val (.ref ar), .val (.int (Int32.ofNat fr)), .val (.int (Int32.ofNat (fr + ws0.length))), .val (.long sm), .second, .unset, .unset, .unset, .unset, .unset, .unset, .unset, .unset, .unset, .unset, .unset] [])) _
    refine XS.aloadN X2.here hx rfl (hb hby d3_6) rfl rfl ?_
    exact kt
  obtain ⟨T4, X4, e4, st4⟩ := getF X2 hx hZ hown (host := "") (Or.inl (hw _ (List.mem_of_getElem? (i := 24) rfl))) Via.refl e2 Fw (g := (mkF m 7 #[.val (.ref a1), .val (.ref ar), .val (.int (Int32.ofNat fr)), .val (.int (Int32.ofNat (fr + ws0.length))), .val (.long sm), .second, .unset, .unset, .unset, .unset, .unset, .unset, .unset, .unset, .unset, .unset, .unset] [(.ref a1)])) rfl rfl (hb hby d3_7)
  have sg5 : ∀ t, Steps p.tables e below (T4.setTop (mkF m 13 #[.val (.ref a1), .val (.ref ar), .val (.int (Int32.ofNat fr)), .val (.int (Int32.ofNat (fr + ws0.length))), .val (.long sm), .second, .val (.long sw), .second, .unset, .unset, .unset, .unset, .unset, .unset, .unset, .unset, .unset] [(.ref a1)])) t → Steps p.tables e below (T4.setTop (mkF m 10 #[.val (.ref a1), .val (.ref ar), .val (.int (Int32.ofNat fr)), .val (.int (Int32.ofNat (fr + ws0.length))), .val (.long sm), .second, .unset, .unset, .unset, .unset, .unset, .unset, .unset, .unset, .unset, .unset, .unset] [(.long sw)])) t := by
    intro t kt
    refine XS.lstore X4.here hx rfl (hb hby d3_10) rfl (l' := #[.val (.ref a1), .val (.ref ar), .val (.int (Int32.ofNat fr)), .val (.int (Int32.ofNat (fr + ws0.length))), .val (.long sm), .second, .val (.long sw), .second, .unset, .unset, .unset, .unset, .unset, .unset, .unset, .unset, .unset]) rfl ?_
    show Steps p.tables e below (T4.setTop (mkF m 12 #[.val (.ref a1), .val (.ref ar), .val (.int (Int32.ofNat fr)), .val (.int (Int32.ofNat (fr + ws0.length))), .val (.long sm), .second, .val (.long sw), .second, .unset, .unset, .unset, .unset, .unset, .unset, .unset, .unset, .unset] [])) _
    refine XS.aloadN X4.here hx rfl (hb hby d3_12) rfl rfl ?_
    exact kt
  obtain ⟨T6, X6, e6, st6⟩ := getF X4 hx hZ hown (host := "") (Or.inl (hw _ (List.mem_of_getElem? (i := 26) rfl))) Via.refl e4 Fm (g := (mkF m 13 #[.val (.ref a1), .val (.ref ar), .val (.int (Int32.ofNat fr)), .val (.int (Int32.ofNat (fr + ws0.length))), .val (.long sm), .second, .val (.long sw), .second, .unset, .unset, .unset, .unset, .unset, .unset, .unset, .unset, .unset] [(.ref a1)])) rfl rfl (hb hby d3_13)
  have sg7 : ∀ t, Steps p.tables e below (T6.setTop (mkF m 21 #[.val (.ref a1), .val (.ref ar), .val (.int (Int32.ofNat fr)), .val (.int (Int32.ofNat (fr + ws0.length))), .val (.long sm), .second, .val (.long sw), .second, .val (.long mx), .second, .val (.int (Int32.ofNat fr)), .unset, .unset, .unset, .unset, .unset, .unset] [])) t → Steps p.tables e below (T6.setTop (mkF m 16 #[.val (.ref a1), .val (.ref ar), .val (.int (Int32.ofNat fr)), .val (.int (Int32.ofNat (fr + ws0.length))), .val (.long sm), .second, .val (.long sw), .second, .unset, .unset, .unset, .unset, .unset, .unset, .unset, .unset, .unset] [(.long mx)])) t := by
    intro t kt
    refine XS.lstore X6.here hx rfl (hb hby d3_16) rfl (l' := #[.val (.ref a1), .val (.ref ar), .val (.int (Int32.ofNat fr)), .val (.int (Int32.ofNat (fr + ws0.length))), .val (.long sm), .second, .val (.long sw), .second, .val (.long mx), .second, .unset, .unset, .unset, .unset, .unset, .unset, .unset]) rfl ?_
    show Steps p.tables e below (T6.setTop (mkF m 18 #[.val (.ref a1), .val (.ref ar), .val (.int (Int32.ofNat fr)), .val (.int (Int32.ofNat (fr + ws0.length))), .val (.long sm), .second, .val (.long sw), .second, .val (.long mx), .second, .unset, .unset, .unset, .unset, .unset, .unset, .unset] [])) _
    refine XS.iloadN X6.here hx rfl (hb hby d3_18) rfl ?_
    show Steps p.tables e below (T6.setTop (mkF m 19 #[.val (.ref a1), .val (.ref ar), .val (.int (Int32.ofNat fr)), .val (.int (Int32.ofNat (fr + ws0.length))), .val (.long sm), .second, .val (.long sw), .second, .val (.long mx), .second, .unset, .unset, .unset, .unset, .unset, .unset, .unset] [(.int (Int32.ofNat fr))])) _
    refine XS.istore X6.here hx rfl (hb hby d3_19) rfl (l' := #[.val (.ref a1), .val (.ref ar), .val (.int (Int32.ofNat fr)), .val (.int (Int32.ofNat (fr + ws0.length))), .val (.long sm), .second, .val (.long sw), .second, .val (.long mx), .second, .val (.int (Int32.ofNat fr)), .unset, .unset, .unset, .unset, .unset, .unset]) rfl ?_
    exact kt
  obtain ⟨T', h', L', ma', i', t11, t12, t13, t14, t15, t16, X', e', N', z', IA', IO', st'⟩ := own_rloop hx hZ hw hby hml hown a1 ar B D i0 i1 i2 sm sw mx ct (Int32.ofNat fr) (Int32.ofNat (fr + ws0.length)) g_a1 ws0 fr sm sw mx .unset .unset .unset .unset .unset .unset X6 e6 Z0 N0 (by show 0 + _ ≤ 3; omega) (by show 0 + _ ≤ 384; omega) hfr rfl hws IA IO (Or.inl ⟨rfl, rfl, rfl, rfl⟩) (Or.inl ⟨rfl, rfl⟩)
  obtain ⟨E1', Fb', Fd', Fs', Fw', Fm', Fc'⟩ := id IO'
  have sg8 : ∀ t, Steps p.tables e below (T'.setTop (mkF m 149 #[.val (.ref a1), .val (.ref ar), .val (.int (Int32.ofNat fr)), .val (.int (Int32.ofNat (fr + ws0.length))), .val (.long (own_run (sm, sw) ws0).1), .second, .val (.long (own_run (sm, sw) ws0).2), .second, .val (.long ma'), .second, .val (.int i'), t11, t12, t13, t14, t15, t16] [(.ref a1), (.ref a1)])) t → Steps p.tables e below (T'.setTop (mkF m 147 #[.val (.ref a1), .val (.ref ar), .val (.int (Int32.ofNat fr)), .val (.int (Int32.ofNat (fr + ws0.length))), .val (.long (own_run (sm, sw) ws0).1), .second, .val (.long (own_run (sm, sw) ws0).2), .second, .val (.long ma'), .second, .val (.int i'), t11, t12, t13, t14, t15, t16] [])) t := by
    intro t kt
    refine XS.aloadN X'.here hx rfl (hb hby d3_147) rfl rfl ?_
    show Steps p.tables e below (T'.setTop (mkF m 148 #[.val (.ref a1), .val (.ref ar), .val (.int (Int32.ofNat fr)), .val (.int (Int32.ofNat (fr + ws0.length))), .val (.long (own_run (sm, sw) ws0).1), .second, .val (.long (own_run (sm, sw) ws0).2), .second, .val (.long ma'), .second, .val (.int i'), t11, t12, t13, t14, t15, t16] [(.ref a1)])) _
    refine XS.dup X'.here hx rfl (hb hby d3_148) rfl rfl ?_
    exact kt
  obtain ⟨T9, X9, e9, st9⟩ := getF X' hx hZ hown (host := "") (Or.inl (hw _ (List.mem_of_getElem? (i := 52) rfl))) Via.refl e' Fc' (g := (mkF m 149 #[.val (.ref a1), .val (.ref ar), .val (.int (Int32.ofNat fr)), .val (.int (Int32.ofNat (fr + ws0.length))), .val (.long (own_run (sm, sw) ws0).1), .second, .val (.long (own_run (sm, sw) ws0).2), .second, .val (.long ma'), .second, .val (.int i'), t11, t12, t13, t14, t15, t16] [(.ref a1), (.ref a1)])) rfl rfl (hb hby d3_149)
  have sg10 : ∀ t, Steps p.tables e below (T9.setTop (mkF m 157 #[.val (.ref a1), .val (.ref ar), .val (.int (Int32.ofNat fr)), .val (.int (Int32.ofNat (fr + ws0.length))), .val (.long (own_run (sm, sw) ws0).1), .second, .val (.long (own_run (sm, sw) ws0).2), .second, .val (.long ma'), .second, .val (.int i'), t11, t12, t13, t14, t15, t16] [(.long (ct + (((Int32.ofNat (fr + ws0.length)) - (Int32.ofNat fr)).toInt64))), (.ref a1)])) t → Steps p.tables e below (T9.setTop (mkF m 152 #[.val (.ref a1), .val (.ref ar), .val (.int (Int32.ofNat fr)), .val (.int (Int32.ofNat (fr + ws0.length))), .val (.long (own_run (sm, sw) ws0).1), .second, .val (.long (own_run (sm, sw) ws0).2), .second, .val (.long ma'), .second, .val (.int i'), t11, t12, t13, t14, t15, t16] [(.long ct), (.ref a1)])) t := by
    intro t kt
    refine XS.iloadN X9.here hx rfl (hb hby d3_152) rfl ?_
    show Steps p.tables e below (T9.setTop (mkF m 153 #[.val (.ref a1), .val (.ref ar), .val (.int (Int32.ofNat fr)), .val (.int (Int32.ofNat (fr + ws0.length))), .val (.long (own_run (sm, sw) ws0).1), .second, .val (.long (own_run (sm, sw) ws0).2), .second, .val (.long ma'), .second, .val (.int i'), t11, t12, t13, t14, t15, t16] [(.int (Int32.ofNat (fr + ws0.length))), (.long ct), (.ref a1)])) _
    refine XS.iloadN X9.here hx rfl (hb hby d3_153) rfl ?_
    show Steps p.tables e below (T9.setTop (mkF m 154 #[.val (.ref a1), .val (.ref ar), .val (.int (Int32.ofNat fr)), .val (.int (Int32.ofNat (fr + ws0.length))), .val (.long (own_run (sm, sw) ws0).1), .second, .val (.long (own_run (sm, sw) ws0).2), .second, .val (.long ma'), .second, .val (.int i'), t11, t12, t13, t14, t15, t16] [(.int (Int32.ofNat fr)), (.int (Int32.ofNat (fr + ws0.length))), (.long ct), (.ref a1)])) _
    refine XS.isub X9.here hx rfl (hb hby d3_154) rfl ?_
    show Steps p.tables e below (T9.setTop (mkF m 155 #[.val (.ref a1), .val (.ref ar), .val (.int (Int32.ofNat fr)), .val (.int (Int32.ofNat (fr + ws0.length))), .val (.long (own_run (sm, sw) ws0).1), .second, .val (.long (own_run (sm, sw) ws0).2), .second, .val (.long ma'), .second, .val (.int i'), t11, t12, t13, t14, t15, t16] [(.int ((Int32.ofNat (fr + ws0.length)) - (Int32.ofNat fr))), (.long ct), (.ref a1)])) _
    refine XS.i2l X9.here hx rfl (hb hby d3_155) rfl ?_
    show Steps p.tables e below (T9.setTop (mkF m 156 #[.val (.ref a1), .val (.ref ar), .val (.int (Int32.ofNat fr)), .val (.int (Int32.ofNat (fr + ws0.length))), .val (.long (own_run (sm, sw) ws0).1), .second, .val (.long (own_run (sm, sw) ws0).2), .second, .val (.long ma'), .second, .val (.int i'), t11, t12, t13, t14, t15, t16] [(.long (((Int32.ofNat (fr + ws0.length)) - (Int32.ofNat fr)).toInt64)), (.long ct), (.ref a1)])) _
    refine XS.ladd X9.here hx rfl (hb hby d3_156) rfl ?_
    exact kt
  obtain ⟨T11, h11, X11, e11, W11, st11⟩ := putF X9 hx hZ hown (host := "") (Or.inl (hw _ (List.mem_of_getElem? (i := 52) rfl))) Via.refl e9 Fc' E1' (Or.inl (hw _ (List.mem_of_getElem? (i := 53) rfl))) (hw _ (List.mem_of_getElem? (i := 3) rfl)) (ty := .long) (by decide) rfl rfl (g := (mkF m 157 #[.val (.ref a1), .val (.ref ar), .val (.int (Int32.ofNat fr)), .val (.int (Int32.ofNat (fr + ws0.length))), .val (.long (own_run (sm, sw) ws0).1), .second, .val (.long (own_run (sm, sw) ws0).2), .second, .val (.long ma'), .second, .val (.int i'), t11, t12, t13, t14, t15, t16] [(.long (ct + (((Int32.ofNat (fr + ws0.length)) - (Int32.ofNat fr)).toInt64))), (.ref a1)])) rfl rfl (hb hby d3_157)
  have N11 := Fr.snoc X11 N' g_a1
  have f12 := (E1'.wr W11)
  have f13 := (Fb'.other W11 (Or.inr (slot_ne (Or.inr (hw _ (List.mem_of_getElem? (i := 14) rfl))) (Or.inl (hw _ (List.mem_of_getElem? (i := 53) rfl))) (by decide) (t := (.array (.array .long))) (t' := .long) (by decide) (by decide))))
  have f14 := (Fd'.other W11 (Or.inr (slot_ne (Or.inr (hw _ (List.mem_of_getElem? (i := 16) rfl))) (Or.inl (hw _ (List.mem_of_getElem? (i := 53) rfl))) (by decide) (t := (.array .long)) (t' := .long) (by decide) (by decide))))
  have f15 := (Fs'.other W11 (Or.inr (slot_ne (Or.inl (hw _ (List.mem_of_getElem? (i := 23) rfl))) (Or.inl (hw _ (List.mem_of_getElem? (i := 53) rfl))) (by decide) (t := .long) (t' := .long) (by decide) (by decide))))
  have f16 := (Fw'.other W11 (Or.inr (slot_ne (Or.inl (hw _ (List.mem_of_getElem? (i := 25) rfl))) (Or.inl (hw _ (List.mem_of_getElem? (i := 53) rfl))) (by decide) (t := .long) (t' := .long) (by decide) (by decide))))
  have f17 := (Fm'.other W11 (Or.inr (slot_ne (Or.inl (hw _ (List.mem_of_getElem? (i := 27) rfl))) (Or.inl (hw _ (List.mem_of_getElem? (i := 53) rfl))) (by decide) (t := .long) (t' := .long) (by decide) (by decide))))
  have f18 := (Fc'.same W11)
  have IA0 := own_arrs_obj W11 E1' (hw _ (List.mem_of_getElem? (i := 3) rfl)) IA'
  have sg19 : ∀ t, Steps p.tables e below (T11.setTop (mkF m 163 #[.val (.ref a1), .val (.ref ar), .val (.int (Int32.ofNat fr)), .val (.int (Int32.ofNat (fr + ws0.length))), .val (.long (own_run (sm, sw) ws0).1), .second, .val (.long (own_run (sm, sw) ws0).2), .second, .val (.long ma'), .second, .val (.int i'), t11, t12, t13, t14, t15, t16] [(.long (own_run (sm, sw) ws0).1), (.ref a1)])) t → Steps p.tables e below (T11.setTop (mkF m 160 #[.val (.ref a1), .val (.ref ar), .val (.int (Int32.ofNat fr)), .val (.int (Int32.ofNat (fr + ws0.length))), .val (.long (own_run (sm, sw) ws0).1), .second, .val (.long (own_run (sm, sw) ws0).2), .second, .val (.long ma'), .second, .val (.int i'), t11, t12, t13, t14, t15, t16] [])) t := by
    intro t kt
    refine XS.aloadN X11.here hx rfl (hb hby d3_160) rfl rfl ?_
    show Steps p.tables e below (T11.setTop (mkF m 161 #[.val (.ref a1), .val (.ref ar), .val (.int (Int32.ofNat fr)), .val (.int (Int32.ofNat (fr + ws0.length))), .val (.long (own_run (sm, sw) ws0).1), .second, .val (.long (own_run (sm, sw) ws0).2), .second, .val (.long ma'), .second, .val (.int i'), t11, t12, t13, t14, t15, t16] [(.ref a1)])) _
    refine XS.lload X11.here hx rfl (hb hby d3_161) rfl ?_
    exact kt
  obtain ⟨T20, h20, X20, e20, W20, st20⟩ := putF X11 hx hZ hown (host := "") (Or.inl (hw _ (List.mem_of_getElem? (i := 22) rfl))) Via.refl e11 f15 f12 (Or.inl (hw _ (List.mem_of_getElem? (i := 23) rfl))) (hw _ (List.mem_of_getElem? (i := 3) rfl)) (ty := .long) (by decide) rfl rfl (g := (mkF m 163 #[.val (.ref a1), .val (.ref ar), .val (.int (Int32.ofNat fr)), .val (.int (Int32.ofNat (fr + ws0.length))), .val (.long (own_run (sm, sw) ws0).1), .second, .val (.long (own_run (sm, sw) ws0).2), .second, .val (.long ma'), .second, .val (.int i'), t11, t12, t13, t14, t15, t16] [(.long (own_run (sm, sw) ws0).1), (.ref a1)])) rfl rfl (hb hby d3_163)
  have N20 := Fr.snoc X20 N11 g_a1
  have f21 := (f12.wr W20)
  have f22 := (f13.other W20 (Or.inr (slot_ne (Or.inr (hw _ (List.mem_of_getElem? (i := 14) rfl))) (Or.inl (hw _ (List.mem_of_getElem? (i := 23) rfl))) (by decide) (t := (.array (.array .long))) (t' := .long) (by decide) (by decide))))
  have f23 := (f14.other W20 (Or.inr (slot_ne (Or.inr (hw _ (List.mem_of_getElem? (i := 16) rfl))) (Or.inl (hw _ (List.mem_of_getElem? (i := 23) rfl))) (by decide) (t := (.array .long)) (t' := .long) (by decide) (by decide))))
  have f24 := (f15.same W20)
  have f25 := (f16.other W20 (Or.inr (slot_ne (Or.inl (hw _ (List.mem_of_getElem? (i := 25) rfl))) (Or.inl (hw _ (List.mem_of_getElem? (i := 23) rfl))) (by decide) (t := .long) (t' := .long) (by decide) (by decide))))
  have f26 := (f17.other W20 (Or.inr (slot_ne (Or.inl (hw _ (List.mem_of_getElem? (i := 27) rfl))) (Or.inl (hw _ (List.mem_of_getElem? (i := 23) rfl))) (by decide) (t := .long) (t' := .long) (by decide) (by decide))))
  have f27 := (f18.other W20 (Or.inr (slot_ne (Or.inl (hw _ (List.mem_of_getElem? (i := 53) rfl))) (Or.inl (hw _ (List.mem_of_getElem? (i := 23) rfl))) (by decide) (t := .long) (t' := .long) (by decide) (by decide))))
  have IA1 := own_arrs_obj W20 f12 (hw _ (List.mem_of_getElem? (i := 3) rfl)) IA0
  have sg28 : ∀ t, Steps p.tables e below (T20.setTop (mkF m 169 #[.val (.ref a1), .val (.ref ar), .val (.int (Int32.ofNat fr)), .val (.int (Int32.ofNat (fr + ws0.length))), .val (.long (own_run (sm, sw) ws0).1), .second, .val (.long (own_run (sm, sw) ws0).2), .second, .val (.long ma'), .second, .val (.int i'), t11, t12, t13, t14, t15, t16] [(.long (own_run (sm, sw) ws0).2), (.ref a1)])) t → Steps p.tables e below (T20.setTop (mkF m 166 #[.val (.ref a1), .val (.ref ar), .val (.int (Int32.ofNat fr)), .val (.int (Int32.ofNat (fr + ws0.length))), .val (.long (own_run (sm, sw) ws0).1), .second, .val (.long (own_run (sm, sw) ws0).2), .second, .val (.long ma'), .second, .val (.int i'), t11, t12, t13, t14, t15, t16] [])) t := by
    intro t kt
    refine XS.aloadN X20.here hx rfl (hb hby d3_166) rfl rfl ?_
    show Steps p.tables e below (T20.setTop (mkF m 167 #[.val (.ref a1), .val (.ref ar), .val (.int (Int32.ofNat fr)), .val (.int (Int32.ofNat (fr + ws0.length))), .val (.long (own_run (sm, sw) ws0).1), .second, .val (.long (own_run (sm, sw) ws0).2), .second, .val (.long ma'), .second, .val (.int i'), t11, t12, t13, t14, t15, t16] [(.ref a1)])) _
    refine XS.lload X20.here hx rfl (hb hby d3_167) rfl ?_
    exact kt
  obtain ⟨T29, h29, X29, e29, W29, st29⟩ := putF X20 hx hZ hown (host := "") (Or.inl (hw _ (List.mem_of_getElem? (i := 24) rfl))) Via.refl e20 f25 f21 (Or.inl (hw _ (List.mem_of_getElem? (i := 25) rfl))) (hw _ (List.mem_of_getElem? (i := 3) rfl)) (ty := .long) (by decide) rfl rfl (g := (mkF m 169 #[.val (.ref a1), .val (.ref ar), .val (.int (Int32.ofNat fr)), .val (.int (Int32.ofNat (fr + ws0.length))), .val (.long (own_run (sm, sw) ws0).1), .second, .val (.long (own_run (sm, sw) ws0).2), .second, .val (.long ma'), .second, .val (.int i'), t11, t12, t13, t14, t15, t16] [(.long (own_run (sm, sw) ws0).2), (.ref a1)])) rfl rfl (hb hby d3_169)
  have N29 := Fr.snoc X29 N20 g_a1
  have f30 := (f21.wr W29)
  have f31 := (f22.other W29 (Or.inr (slot_ne (Or.inr (hw _ (List.mem_of_getElem? (i := 14) rfl))) (Or.inl (hw _ (List.mem_of_getElem? (i := 25) rfl))) (by decide) (t := (.array (.array .long))) (t' := .long) (by decide) (by decide))))
  have f32 := (f23.other W29 (Or.inr (slot_ne (Or.inr (hw _ (List.mem_of_getElem? (i := 16) rfl))) (Or.inl (hw _ (List.mem_of_getElem? (i := 25) rfl))) (by decide) (t := (.array .long)) (t' := .long) (by decide) (by decide))))
  have f33 := (f24.other W29 (Or.inr (slot_ne (Or.inl (hw _ (List.mem_of_getElem? (i := 23) rfl))) (Or.inl (hw _ (List.mem_of_getElem? (i := 25) rfl))) (by decide) (t := .long) (t' := .long) (by decide) (by decide))))
  have f34 := (f25.same W29)
  have f35 := (f26.other W29 (Or.inr (slot_ne (Or.inl (hw _ (List.mem_of_getElem? (i := 27) rfl))) (Or.inl (hw _ (List.mem_of_getElem? (i := 25) rfl))) (by decide) (t := .long) (t' := .long) (by decide) (by decide))))
  have f36 := (f27.other W29 (Or.inr (slot_ne (Or.inl (hw _ (List.mem_of_getElem? (i := 53) rfl))) (Or.inl (hw _ (List.mem_of_getElem? (i := 25) rfl))) (by decide) (t := .long) (t' := .long) (by decide) (by decide))))
  have IA2 := own_arrs_obj W29 f21 (hw _ (List.mem_of_getElem? (i := 3) rfl)) IA1
  have sg37 : ∀ t, Steps p.tables e below (T29.setTop (mkF m 175 #[.val (.ref a1), .val (.ref ar), .val (.int (Int32.ofNat fr)), .val (.int (Int32.ofNat (fr + ws0.length))), .val (.long (own_run (sm, sw) ws0).1), .second, .val (.long (own_run (sm, sw) ws0).2), .second, .val (.long ma'), .second, .val (.int i'), t11, t12, t13, t14, t15, t16] [(.long ma'), (.ref a1)])) t → Steps p.tables e below (T29.setTop (mkF m 172 #[.val (.ref a1), .val (.ref ar), .val (.int (Int32.ofNat fr)), .val (.int (Int32.ofNat (fr + ws0.length))), .val (.long (own_run (sm, sw) ws0).1), .second, .val (.long (own_run (sm, sw) ws0).2), .second, .val (.long ma'), .second, .val (.int i'), t11, t12, t13, t14, t15, t16] [])) t := by
    intro t kt
    refine XS.aloadN X29.here hx rfl (hb hby d3_172) rfl rfl ?_
    show Steps p.tables e below (T29.setTop (mkF m 173 #[.val (.ref a1), .val (.ref ar), .val (.int (Int32.ofNat fr)), .val (.int (Int32.ofNat (fr + ws0.length))), .val (.long (own_run (sm, sw) ws0).1), .second, .val (.long (own_run (sm, sw) ws0).2), .second, .val (.long ma'), .second, .val (.int i'), t11, t12, t13, t14, t15, t16] [(.ref a1)])) _
    refine XS.lload X29.here hx rfl (hb hby d3_173) rfl ?_
    exact kt
  obtain ⟨T38, h38, X38, e38, W38, st38⟩ := putF X29 hx hZ hown (host := "") (Or.inl (hw _ (List.mem_of_getElem? (i := 26) rfl))) Via.refl e29 f35 f30 (Or.inl (hw _ (List.mem_of_getElem? (i := 27) rfl))) (hw _ (List.mem_of_getElem? (i := 3) rfl)) (ty := .long) (by decide) rfl rfl (g := (mkF m 175 #[.val (.ref a1), .val (.ref ar), .val (.int (Int32.ofNat fr)), .val (.int (Int32.ofNat (fr + ws0.length))), .val (.long (own_run (sm, sw) ws0).1), .second, .val (.long (own_run (sm, sw) ws0).2), .second, .val (.long ma'), .second, .val (.int i'), t11, t12, t13, t14, t15, t16] [(.long ma'), (.ref a1)])) rfl rfl (hb hby d3_175)
  have N38 := Fr.snoc X38 N29 g_a1
  have f39 := (f30.wr W38)
  have f40 := (f31.other W38 (Or.inr (slot_ne (Or.inr (hw _ (List.mem_of_getElem? (i := 14) rfl))) (Or.inl (hw _ (List.mem_of_getElem? (i := 27) rfl))) (by decide) (t := (.array (.array .long))) (t' := .long) (by decide) (by decide))))
  have f41 := (f32.other W38 (Or.inr (slot_ne (Or.inr (hw _ (List.mem_of_getElem? (i := 16) rfl))) (Or.inl (hw _ (List.mem_of_getElem? (i := 27) rfl))) (by decide) (t := (.array .long)) (t' := .long) (by decide) (by decide))))
  have f42 := (f33.other W38 (Or.inr (slot_ne (Or.inl (hw _ (List.mem_of_getElem? (i := 23) rfl))) (Or.inl (hw _ (List.mem_of_getElem? (i := 27) rfl))) (by decide) (t := .long) (t' := .long) (by decide) (by decide))))
  have f43 := (f34.other W38 (Or.inr (slot_ne (Or.inl (hw _ (List.mem_of_getElem? (i := 25) rfl))) (Or.inl (hw _ (List.mem_of_getElem? (i := 27) rfl))) (by decide) (t := .long) (t' := .long) (by decide) (by decide))))
  have f44 := (f35.same W38)
  have f45 := (f36.other W38 (Or.inr (slot_ne (Or.inl (hw _ (List.mem_of_getElem? (i := 53) rfl))) (Or.inl (hw _ (List.mem_of_getElem? (i := 27) rfl))) (by decide) (t := .long) (t' := .long) (by decide) (by decide))))
  have IA3 := own_arrs_obj W38 f30 (hw _ (List.mem_of_getElem? (i := 3) rfl)) IA2
  obtain ⟨fs, hr, hrun, hended, hW, hsame⟩ := X38.leave (v := none) (fun _ => rfl)
  refine ⟨_, _, pre0 _ ?_, hrun, hended, _, _, rfl, ?_, ⟨_, rfl⟩, hW, hsame.mono (by show 0 + ws0.length ≤ 3; omega) (by show 0 + 128 * ws0.length ≤ 384; omega)⟩
  · refine sg1 _ ?_
    refine st2 _ ?_
    refine sg3 _ ?_
    refine st4 _ ?_
    refine sg5 _ ?_
    refine st6 _ ?_
    refine sg7 _ ?_
    refine st' _ ?_
    refine sg8 _ ?_
    refine st9 _ ?_
    refine sg10 _ ?_
    refine st11 _ ?_
    refine sg19 _ ?_
    refine st20 _ ?_
    refine sg28 _ ?_
    refine st29 _ ?_
    refine sg37 _ ?_
    refine st38 _ ?_
    exact X38.returnOut hx Bd.returns (hb hby d3_178) hr
  · show Q3 Z a1 ar fr ws0 B D i0 i1 i2 sm sw mx ct h0 n0 _ T38.heap _
    rw [e38]; exact ⟨rfl, N38, by rw [W38.size, W29.size, W20.size, W11.size]; exact z', IA3, ma', f39, f40, f41, f42, f43, f44, f45⟩
theorem d1_0 : decode prog_1_method_1_code 0 = .ok (.aload_n 0, 1) := by decide +kernel
theorem d1_1 : decode prog_1_method_1_code 1 = .ok (.invokespecial 5, 3) := by decide +kernel
theorem d1_4 : decode prog_1_method_1_code 4 = .ok (.aload_n 0, 1) := by decide +kernel
theorem d1_5 : decode prog_1_method_1_code 5 = .ok (.bipush 57, 2) := by decide +kernel
theorem d1_7 : decode prog_1_method_1_code 7 = .ok (.anewarray 11, 3) := by decide +kernel
theorem d1_10 : decode prog_1_method_1_code 10 = .ok (.putfield 13, 3) := by decide +kernel
theorem d1_13 : decode prog_1_method_1_code 13 = .ok (.aload_n 0, 1) := by decide +kernel
theorem d1_14 : decode prog_1_method_1_code 14 = .ok (.bipush 57, 2) := by decide +kernel
theorem d1_16 : decode prog_1_method_1_code 16 = .ok (.newarray .long, 2) := by decide +kernel
theorem d1_18 : decode prog_1_method_1_code 18 = .ok (.putfield 17, 3) := by decide +kernel
theorem d1_21 : decode prog_1_method_1_code 21 = .ok (.return_, 1) := by decide +kernel
theorem pn_1 : plainName "com/example/cormorant/cormorant/Histogram" = true := by first | (simp [plainName, overriddenIn]; done) | decide +kernel
theorem ef_1 (m : MethodId) (x0 : Addr) : entryFrame m #[(.ref x0)] 1 = mkF m 0 #[.val (.ref x0)] [] := by first | (simp [entryFrame, mkF, argsToLocals, Value.category]; done) | rfl
def Q1 (Z : State) (a1 ar : Addr) (i0 i1 i2 : Int64) (h0 : Heap) (n0 : Nat) (v : Option Value) (h : Heap) (L : List Loc) : Prop := v = none ∧ Fr n0 L ∧ h0.size ≤ h.size ∧ ∃ B D, own_arrs Z h n0 ar B D i0 i1 i2 ∧ own_obj Z h a1 B D 0 0 0 0
set_option maxRecDepth 65536 in
set_option maxHeartbeats 40000000 in
theorem rm1 (l : Launch) (Z : State) (a0 : Array Value) (hw : ∀ d ∈ tables_1, d.before a0 Z = true) (ws : List Jvm.Cond) (a1 ar : Addr) (i0 i1 i2 : Int64) (h0 : Heap) (n0 : Nat) (Z0 : n0 ≤ h0.size) (E1 : Exa Z h0 a1 "com/example/cormorant/cormorant/Histogram") (F_buckets : Fld Z h0 a1 "com/example/cormorant/cormorant/Histogram" "buckets" "[[J" .null) (F_blockCounts : Fld Z h0 a1 "com/example/cormorant/cormorant/Histogram" "blockCounts" "[J" .null) (F_sum : Fld Z h0 a1 "com/example/cormorant/cormorant/Histogram" "sum" "J" (.long (0 : Int64))) (F_sumWraps : Fld Z h0 a1 "com/example/cormorant/cormorant/Histogram" "sumWraps" "J" (.long (0 : Int64))) (F_max : Fld Z h0 a1 "com/example/cormorant/cormorant/Histogram" "max" "J" (.long (0 : Int64))) (F_count : Fld Z h0 a1 "com/example/cormorant/cormorant/Histogram" "count" "J" (.long (0 : Int64))) (In : own_nan Z h0 ar i0 i1 i2) (g_a1 : n0 ≤ a1) :
    MetFree l (⟨"com/example/cormorant/cormorant/Histogram", "<init>", "()V"⟩ : MethodName) (head1 (Jvm.Cond.code (⟨"com/example/cormorant/cormorant/Histogram", "<init>", "()V"⟩ : MethodName) prog_1_method_1_code 1 none :: ws) ({ frames := 1, cells := 2, slots := 114, locals := 12 } : Room)) (fun a U => a = #[(.ref a1)] ∧ Z.Warmed39 U.vm ∧ U.heap = h0) (fun _ _ _ _ _ => True) (fun _ U o U' => ∃ v L, o = .returned v ∧ Q1 Z a1 ar i0 i1 i2 h0 n0 v U'.heap L ∧ FrameEnd U o U' L ({ frames := 1, cells := 2, slots := 114, locals := 12 } : Room).cells ({ frames := 1, cells := 2, slots := 114, locals := 12 } : Room).slots) := by
  refine MetFree.of_bodySF (plainFor_of_name pn_1) hisR ?_
  intro p e s m args below meth c s₁ Bd hml0 hP hK
  obtain ⟨rfl, hZ, hh⟩ := hP
  have hx := Bd.exec
  have hby := Bd.bytes
  have hml : c.maxLocals = 1 := hml0
  have hown : s.vm.findClass "com/example/cormorant/cormorant/Histogram" = some m.cls := findClass_of_methodNamed Bd.named
  have hnm := (name_of_methodNamed Bd.named Bd.method).1
  have X0 : Stand p l e ({ frames := 1, cells := 2, slots := 114, locals := 12 } : Room) s m #[(.ref a1)] below meth c s₁ [] 0 0 := Stand.of_body Bd
  have e0 : s₁.heap = h0 := by rw [← hh, Bd.state]; rfl
  have N0 := Fr.nil n0
  have pre0 : ∀ t, Steps p.tables e below (s₁.setTop (mkF m 0 #[.val (.ref a1)] [])) t → Steps p.tables e below (s₁.setTop (entryFrame m #[(.ref a1)] 1)) t := fun t kq0 => castTop (ef_1 m a1) kq0
  have sg1 : ∀ t, Steps p.tables e below (s₁.setTop (mkF m 1 #[.val (.ref a1)] [(.ref a1)])) t → Steps p.tables e below (s₁.setTop (mkF m 0 #[.val (.ref a1)] [])) t := by
    intro t kt
    refine XS.aloadN X0.here hx rfl (hb hby d1_0) rfl rfl ?_
    exact kt
  obtain ⟨T2, X2, e2, st2⟩ := initO X0 hx hZ hown (hw _ (List.mem_of_getElem? (i := 8) rfl)) (hw _ (List.mem_of_getElem? (i := 9) rfl)) (hw _ (List.mem_of_getElem? (i := 10) rfl)) e0 (g := (mkF m 1 #[.val (.ref a1)] [(.ref a1)])) rfl (by rw [hml]; rfl) rfl (hb hby d1_1) (by decide) (W := 0) (by show 2 * 0 + _ ≤ _; exact Nat.le_of_eq rfl) (by decide)
  have sg3 : ∀ t, Steps p.tables e below (T2.setTop (mkF m 7 #[.val (.ref a1)] [(.int (57 : Int32)), (.ref a1)])) t → Steps p.tables e below (T2.setTop (mkF m 4 #[.val (.ref a1)] [])) t := by
    intro t kt
    refine XS.aloadN X2.here hx rfl (hb hby d1_4) rfl rfl ?_
    show Steps p.tables e below (T2.setTop (mkF m 5 #[.val (.ref a1)] [(.ref a1)])) _
    refine XS.bipush X2.here hx rfl (hb hby d1_5) ?_
    exact kt
  obtain ⟨T4, h4, k4, X4, e4, E4, A4, J4, O4, st4⟩ := newRA X2 hx hZ hown (C := "[J") (by decide) (hw _ (List.mem_of_getElem? (i := 11) rfl)) (hw _ (List.mem_of_getElem? (i := 12) rfl)) e2 (g := (mkF m 7 #[.val (.ref a1)] [(.int (57 : Int32)), (.ref a1)])) rfl (hb hby d1_7) rfl (by decide) (cap := 57) (by decide) (by decide) (by decide) (by decide) (ad := "[[J") (by decide)
  obtain ⟨B, gq4⟩ : ∃ z, z = h0.size := ⟨_, rfl⟩
  rw [← gq4] at A4 J4 st4
  have ne_B : a1 ≠ B := Nat.ne_of_lt (Nat.lt_of_lt_of_le E1.lt (Nat.le_of_eq gq4.symm))
  have gB : n0 ≤ B := by omega
  have In1 := own_nan_ext E4 In
  have f5 := (E1.ext E4)
  have f6 := (F_buckets.ext E4)
  have f7 := (F_blockCounts.ext E4)
  have f8 := (F_sum.ext E4)
  have f9 := (F_sumWraps.ext E4)
  have f10 := (F_max.ext E4)
  have f11 := (F_count.ext E4)
  obtain ⟨T12, h12, X12, e12, W12, st12⟩ := putF X4 hx hZ hown (host := "") (Or.inl (hw _ (List.mem_of_getElem? (i := 13) rfl))) Via.refl e4 f6 f5 (Or.inr ⟨(hw _ (List.mem_of_getElem? (i := 14) rfl)), rfl, hnm⟩) (hw _ (List.mem_of_getElem? (i := 3) rfl)) (ty := (.array (.array .long))) (by decide) rfl rfl (g := (mkF m 10 #[.val (.ref a1)] [(.ref B), (.ref a1)])) rfl rfl (hb hby d1_10)
  have N12 := Fr.snoc X12 N0 g_a1
  have f13 := (f5.wr W12)
  have f14 := (f6.same W12)
  have f15 := (f7.other W12 (Or.inr (slot_ne (Or.inr (hw _ (List.mem_of_getElem? (i := 16) rfl))) (Or.inr (hw _ (List.mem_of_getElem? (i := 14) rfl))) (by decide) (t := (.array .long)) (t' := (.array (.array .long))) (by decide) (by decide))))
  have f16 := (f8.other W12 (Or.inr (slot_ne (Or.inl (hw _ (List.mem_of_getElem? (i := 23) rfl))) (Or.inr (hw _ (List.mem_of_getElem? (i := 14) rfl))) (by decide) (t := .long) (t' := (.array (.array .long))) (by decide) (by decide))))
  have f17 := (f9.other W12 (Or.inr (slot_ne (Or.inl (hw _ (List.mem_of_getElem? (i := 25) rfl))) (Or.inr (hw _ (List.mem_of_getElem? (i := 14) rfl))) (by decide) (t := .long) (t' := (.array (.array .long))) (by decide) (by decide))))
  have f18 := (f10.other W12 (Or.inr (slot_ne (Or.inl (hw _ (List.mem_of_getElem? (i := 27) rfl))) (Or.inr (hw _ (List.mem_of_getElem? (i := 14) rfl))) (by decide) (t := .long) (t' := (.array (.array .long))) (by decide) (by decide))))
  have f19 := (f11.other W12 (Or.inr (slot_ne (Or.inl (hw _ (List.mem_of_getElem? (i := 53) rfl))) (Or.inr (hw _ (List.mem_of_getElem? (i := 14) rfl))) (by decide) (t := .long) (t' := (.array (.array .long))) (by decide) (by decide))))
  have f20 := (A4.other W12 (Ne.symm ne_B))
  have In2 := own_nan_far W12 (by obtain ⟨c, A', -⟩ := id In1; exact Ne.symm (ne_arr f5 (hw _ (List.mem_of_getElem? (i := 3) rfl)) A')) In1
  have Zq : n0 ≤ h12.size := by rw [W12.size]; exact Nat.le_trans Z0 E4.1
  have sg21 : ∀ t, Steps p.tables e below (T12.setTop (mkF m 16 #[.val (.ref a1)] [(.int (57 : Int32)), (.ref a1)])) t → Steps p.tables e below (T12.setTop (mkF m 13 #[.val (.ref a1)] [])) t := by
    intro t kt
    refine XS.aloadN X12.here hx rfl (hb hby d1_13) rfl rfl ?_
    show Steps p.tables e below (T12.setTop (mkF m 14 #[.val (.ref a1)] [(.ref a1)])) _
    refine XS.bipush X12.here hx rfl (hb hby d1_14) ?_
    exact kt
  obtain ⟨T22, h22, k22, X22, e22, E22, A22, st22⟩ := newP X12 hx hZ (hw _ (List.mem_of_getElem? (i := 1) rfl)) e12 (g := (mkF m 16 #[.val (.ref a1)] [(.int (57 : Int32)), (.ref a1)])) rfl (hb hby d1_16) rfl (by decide) (cap := 57) (by decide) (by decide) (by decide) (by decide)
  obtain ⟨D, gq22⟩ : ∃ z, z = h12.size := ⟨_, rfl⟩
  rw [← gq22] at A22 st22
  have ne_D : a1 ≠ D := Nat.ne_of_lt (Nat.lt_of_lt_of_le f13.lt (Nat.le_of_eq gq22.symm))
  have gD : n0 ≤ D := by omega
  have In3 := own_nan_ext E22 In2
  have f23 := (f13.ext E22)
  have f24 := (f14.ext E22)
  have f25 := (f15.ext E22)
  have f26 := (f16.ext E22)
  have f27 := (f17.ext E22)
  have f28 := (f18.ext E22)
  have f29 := (f19.ext E22)
  have f30 := (f20.ext E22)
  obtain ⟨T31, h31, X31, e31, W31, st31⟩ := putF X22 hx hZ hown (host := "") (Or.inl (hw _ (List.mem_of_getElem? (i := 15) rfl))) Via.refl e22 f25 f23 (Or.inr ⟨(hw _ (List.mem_of_getElem? (i := 16) rfl)), rfl, hnm⟩) (hw _ (List.mem_of_getElem? (i := 3) rfl)) (ty := (.array .long)) (by decide) rfl rfl (g := (mkF m 18 #[.val (.ref a1)] [(.ref D), (.ref a1)])) rfl rfl (hb hby d1_18)
  have N31 := Fr.snoc X31 N12 g_a1
  have f32 := (f23.wr W31)
  have f33 := (f24.other W31 (Or.inr (slot_ne (Or.inr (hw _ (List.mem_of_getElem? (i := 14) rfl))) (Or.inr (hw _ (List.mem_of_getElem? (i := 16) rfl))) (by decide) (t := (.array (.array .long))) (t' := (.array .long)) (by decide) (by decide))))
  have f34 := (f25.same W31)
  have f35 := (f26.other W31 (Or.inr (slot_ne (Or.inl (hw _ (List.mem_of_getElem? (i := 23) rfl))) (Or.inr (hw _ (List.mem_of_getElem? (i := 16) rfl))) (by decide) (t := .long) (t' := (.array .long)) (by decide) (by decide))))
  have f36 := (f27.other W31 (Or.inr (slot_ne (Or.inl (hw _ (List.mem_of_getElem? (i := 25) rfl))) (Or.inr (hw _ (List.mem_of_getElem? (i := 16) rfl))) (by decide) (t := .long) (t' := (.array .long)) (by decide) (by decide))))
  have f37 := (f28.other W31 (Or.inr (slot_ne (Or.inl (hw _ (List.mem_of_getElem? (i := 27) rfl))) (Or.inr (hw _ (List.mem_of_getElem? (i := 16) rfl))) (by decide) (t := .long) (t' := (.array .long)) (by decide) (by decide))))
  have f38 := (f29.other W31 (Or.inr (slot_ne (Or.inl (hw _ (List.mem_of_getElem? (i := 53) rfl))) (Or.inr (hw _ (List.mem_of_getElem? (i := 16) rfl))) (by decide) (t := .long) (t' := (.array .long)) (by decide) (by decide))))
  have f39 := (f30.other W31 (Ne.symm ne_B))
  have f40 := (A22.other W31 (Ne.symm ne_D))
  have In4 := own_nan_far W31 (by obtain ⟨c, A', -⟩ := id In3; exact Ne.symm (ne_arr f23 (hw _ (List.mem_of_getElem? (i := 3) rfl)) A')) In3
  have IA : own_arrs Z h31 n0 ar B D i0 i1 i2 := ⟨In4, ⟨_, f39, by rw [sz_new]; decide, O4, fun j hj => ⟨.null, by simp [newA, defaultValue, Array.getElem?_replicate, hj], Or.inl rfl⟩⟩, ⟨_, f40, by rw [sz_new]; decide, own_new_longs57 _⟩, gB, gD⟩
  obtain ⟨fs, hr, hrun, hended, hW, hsame⟩ := X31.leave (v := none) (fun _ => rfl)
  refine ⟨_, _, pre0 _ ?_, hrun, hended, _, _, rfl, ?_, ⟨_, rfl⟩, hW, hsame.mono (by decide) (by decide)⟩
  · refine sg1 _ ?_
    refine st2 _ ?_
    refine sg3 _ ?_
    refine st4 _ ?_
    refine st12 _ ?_
    refine sg21 _ ?_
    refine st22 _ ?_
    refine st31 _ ?_
    exact X31.returnOut hx Bd.returns (hb hby d1_21) hr
  · show Q1 Z a1 ar i0 i1 i2 h0 n0 _ T31.heap _
    rw [e31]; exact ⟨rfl, N31, by rw [W31.size]; exact Nat.le_trans (Nat.le_trans E4.1 (by rw [W12.size]; exact Nat.le_refl _)) E22.1, B, D, IA, f32, f33, f34, f35, f36, f37, f38⟩

theorem own_ofNat {k : Nat} (h : k < 2 ^ 31) : (Int32.ofNat k).toInt = k := Int32.toInt_ofNat_of_lt h
theorem own_nat (x : Int32) (N : Nat) (h1 : 0 ≤ x.toInt) (h2 : x.toInt ≤ N) (h3 : N < 2 ^ 31) : ∃ k : Nat, k ≤ N ∧ x = Int32.ofNat k := by
  refine ⟨x.toInt.toNat, by omega, ?_⟩
  apply Int32.toInt_inj.mp
  rw [own_ofNat (by omega)]; omega
/-- what the law reckons with: the parts above and below 2^32 -/
def own_hi (x : Int64) : Int64 := ((x.toUInt64 >>> ((32 : Int32) &&& 0x3f).toInt64.toUInt64).toInt64)
def own_lo (x : Int64) : Int64 := (x &&& (4294967295 : Int64))
theorem own_hi_v (x : Int64) (h : 0 ≤ x.toInt) : (own_hi x).toInt = x.toInt / 4294967296 := by
  have q := c_lushr x 32 32 (by decide) (by decide)
  have e : ((2 ^ 32 : Nat) : Int) = 4294967296 := by decide
  have r := rng64 x
  rw [e] at q
  unfold own_hi
  omega
theorem own_lo_v (x : Int64) : (own_lo x).toInt = x.toInt % 4294967296 := by
  have q := c_maskL x 4294967295 32 (by decide) (by decide)
  have e : ((2 ^ 32 : Nat) : Int) = 4294967296 := by decide
  rw [e] at q
  exact q
theorem own_add {a b : Int64} {A B : Int} (ha : a.toInt = A) (hb : b.toInt = B) (h1 : 0 ≤ A) (h2 : A ≤ 4000000000000000000) (h3 : 0 ≤ B) (h4 : B ≤ 4000000000000000000) : (a + b).toInt = A + B := by
  have := c_ladd a b; have := rng64 (a + b); omega
theorem own_lin {va vb vc A1 A0 B1 B0 C1 C0 L L1 L0 t W t0 R : Int} (a : va = 4294967296 * A1 + A0) (b : vb = 4294967296 * B1 + B0) (c : vc = 4294967296 * C1 + C0) (l : L = A0 + B0 + C0) (l' : L = 4294967296 * L1 + L0) (h : t = A1 + B1 + C1 + L1) (w : t = 2147483648 * W + t0) (r : R = t0 * 4294967296 + L0) (h0 : 0 ≤ t0) (h1 : 0 ≤ L0) : 0 ≤ R ∧ W * 9223372036854775808 + R = va + vb + vc := by omega
def own_T (va vb vc : Int64) : Int64 := (((own_hi va + own_hi vb) + own_hi vc) + own_hi ((own_lo va + own_lo vb) + own_lo vc))
def own_W (va vb vc : Int64) : Int64 := (((own_T va vb vc).toUInt64 >>> ((31 : Int32) &&& 0x3f).toInt64.toUInt64).toInt64)
def own_R (va vb vc : Int64) : Int64 := ((((own_T va vb vc) &&& (2147483647 : Int64)) <<< ((32 : Int32) &&& 0x3f).toInt64) ||| own_lo ((own_lo va + own_lo vb) + own_lo vc))
theorem own_split (va vb vc : Int64) (ha : 0 ≤ va.toInt) (hb : 0 ≤ vb.toInt) (hc : 0 ≤ vc.toInt) : 0 ≤ (own_R va vb vc).toInt ∧ (own_W va vb vc).toInt * 9223372036854775808 + (own_R va vb vc).toInt = va.toInt + vb.toInt + vc.toInt := by
  have ra := rng64 va; have rb := rng64 vb; have rc := rng64 vc
  have ah := own_hi_v va ha; have bh := own_hi_v vb hb; have ch := own_hi_v vc hc
  have al := own_lo_v va; have bl := own_lo_v vb; have cl := own_lo_v vc
  have l1 := own_add al bl (by omega) (by omega) (by omega) (by omega)
  have l2 := own_add l1 cl (by omega) (by omega) (by omega) (by omega)
  have g1 := own_add ah bh (by omega) (by omega) (by omega) (by omega)
  have g2 := own_add g1 ch (by omega) (by omega) (by omega) (by omega)
  have lh := own_hi_v ((own_lo va + own_lo vb) + own_lo vc) (by omega)
  have ll := own_lo_v ((own_lo va + own_lo vb) + own_lo vc)
  have tt : (own_T va vb vc).toInt = _ := own_add g2 lh (by omega) (by omega) (by omega) (by omega)
  have q := c_lushr (own_T va vb vc) 31 31 (by decide) (by decide)
  have e31 : ((2 ^ 31 : Nat) : Int) = 2147483648 := by decide
  have e32 : ((2 ^ 32 : Nat) : Int) = 4294967296 := by decide
  rw [e31] at q
  have qm := c_maskL (own_T va vb vc) 2147483647 31 (by decide) (by decide)
  rw [e31] at qm
  have qs := c_lshl ((own_T va vb vc) &&& (2147483647 : Int64)) 32 32 (by decide)
  rw [e32] at qs
  have rs := rng64 (((own_T va vb vc) &&& (2147483647 : Int64)) <<< ((32 : Int32) &&& 0x3f).toInt64)
  have hs : (((own_T va vb vc) &&& (2147483647 : Int64)) <<< ((32 : Int32) &&& 0x3f).toInt64).toInt = ((own_T va vb vc).toInt % 2147483648) * 4294967296 := by omega
  have qo := c_orL (((own_T va vb vc) &&& (2147483647 : Int64)) <<< ((32 : Int32) &&& 0x3f).toInt64) (own_lo ((own_lo va + own_lo vb) + own_lo vc)) 32 (by decide) 4294967296 (by decide) (by omega) (by omega) (by omega)
  have ro := rng64 (own_R va vb vc)
  have hW : (own_W va vb vc).toInt = ((own_T va vb vc).toInt % 18446744073709551616) / 2147483648 := q
  have hR : ((own_R va vb vc).toInt - ((((own_T va vb vc) &&& (2147483647 : Int64)) <<< ((32 : Int32) &&& 0x3f).toInt64).toInt + (own_lo ((own_lo va + own_lo vb) + own_lo vc)).toInt)) % 18446744073709551616 = 0 := qo
  rw [hs, ll] at hR
  have ht0 : 0 ≤ (own_T va vb vc).toInt := by omega
  have ht1 : (own_T va vb vc).toInt % 18446744073709551616 = (own_T va vb vc).toInt := by have := rng64 (own_T va vb vc); omega
  rw [ht1] at hW
  have hR2 : (own_R va vb vc).toInt = ((own_T va vb vc).toInt % 2147483648) * 4294967296 + ((own_lo va + own_lo vb) + own_lo vc).toInt % 4294967296 := by
    clear hW tt
    generalize (own_T va vb vc).toInt = t at *
    generalize (own_R va vb vc).toInt = r at *
    generalize ((own_lo va + own_lo vb) + own_lo vc).toInt = L at *
    omega
  exact own_lin (Int.mul_ediv_add_emod va.toInt 4294967296).symm (Int.mul_ediv_add_emod vb.toInt 4294967296).symm (Int.mul_ediv_add_emod vc.toInt 4294967296).symm l2 (Int.mul_ediv_add_emod _ 4294967296).symm tt (hW ▸ (Int.mul_ediv_add_emod _ 2147483648).symm) hR2 (Int.emod_nonneg _ (by decide)) (Int.emod_nonneg _ (by decide))
theorem pn_0 : plainName "com/example/cormorant/cormorant/HistogramMeanPinLaw" = true := by first | (simp [plainName, overriddenIn]; done) | decide +kernel
theorem ef_0 (m : MethodId) (x0 : Int64) (x1 : Int64) (x2 : Int64) (x3 : Int32) (x4 : Int32) : entryFrame m #[(.long x0), (.long x1), (.long x2), (.int x3), (.int x4)] maxLocals = mkF m 0 #[.val (.long x0), .second, .val (.long x1), .second, .val (.long x2), .second, .val (.int x3), .val (.int x4), .unset, .unset, .unset, .unset, .unset, .unset, .unset, .unset, .unset, .unset, .unset, .unset, .unset, .unset, .unset, .unset, .unset, .unset, .unset, .unset, .unset, .unset] [] := by first | (simp [entryFrame, mkF, argsToLocals, Value.category, maxLocals]; done) | rfl
theorem pd_4 : parseMethodDescriptor "()V" = some ⟨[], none⟩ := by decide +kernel
theorem pd_5 : parseMethodDescriptor "([JII)V" = some ⟨[(.array .long), .int, .int], none⟩ := by decide +kernel
theorem pd_6 : parseMethodDescriptor "()D" = some ⟨[], some .double⟩ := by decide +kernel
def Q0 (Z : State) (i0 i1 i2 : Int64) (i3 i4 : Int32) (h0 : Heap) (n0 : Nat) (v : Option Value) (h : Heap) (L : List Loc) : Prop := v = some (.int 1) ∧ Fr n0 L
set_option maxRecDepth 65536 in
set_option maxHeartbeats 40000000 in
theorem rm0 (l : Launch) (Z : State) (a0 : Array Value) (hw : ∀ d ∈ tables_1, d.before a0 Z = true) (ws : List Jvm.Cond) (i0 i1 i2 : Int64) (i3 i4 : Int32) (h0 : Heap) (n0 : Nat) (Z0 : n0 ≤ h0.size)  :
    MetFree l x (head1 (Jvm.Cond.code x code maxLocals ret :: ws) room_1) (fun a U => a = #[(.long i0), (.long i1), (.long i2), (.int i3), (.int i4)] ∧ Z.Warmed39 U.vm ∧ U.heap = h0) (fun _ _ _ _ _ => True) (fun _ U o U' => ∃ v L, o = .returned v ∧ Q0 Z i0 i1 i2 i3 i4 h0 n0 v U'.heap L ∧ FrameEnd U o U' L 10 891) := by
  refine MetFree.of_bodySF (plainFor_of_name pn_0) hisR ?_
  intro p e s m args below meth c s₁ Bd hml0 hP hK
  obtain ⟨rfl, hZ, hh⟩ := hP
  have hx := Bd.exec
  have hby := Bd.bytes
  have hml : c.maxLocals = 30 := hml0
  have hown : s.vm.findClass "com/example/cormorant/cormorant/HistogramMeanPinLaw" = some m.cls := findClass_of_methodNamed Bd.named
  have hnm := (name_of_methodNamed Bd.named Bd.method).1
  have X0 : Stand p l e room_1 s m #[(.long i0), (.long i1), (.long i2), (.int i3), (.int i4)] below meth c s₁ [] 0 0 := Stand.of_body Bd
  have e0 : s₁.heap = h0 := by rw [← hh, Bd.state]; rfl
  have N0 := Fr.nil n0
  have pre0 : ∀ t, Steps p.tables e below (s₁.setTop (mkF m 0 #[.val (.long i0), .second, .val (.long i1), .second, .val (.long i2), .second, .val (.int i3), .val (.int i4), .unset, .unset, .unset, .unset, .unset, .unset, .unset, .unset, .unset, .unset, .unset, .unset, .unset, .unset, .unset, .unset, .unset, .unset, .unset, .unset, .unset, .unset] [])) t → Steps p.tables e below (s₁.setTop (entryFrame m #[(.long i0), (.long i1), (.long i2), (.int i3), (.int i4)] maxLocals)) t := fun t kq0 => castTop (ef_0 m i0 i1 i2 i3 i4) kq0
  have sg1 : ∀ t, Steps p.tables e below (s₁.setTop (mkF m 11 #[.val (.long i0), .second, .val (.long i1), .second, .val (.long i2), .second, .val (.int i3), .val (.int i4), .val (.int ((1 : Int32) + ((i3 &&& (2147483647 : Int32)) % (3 : Int32)))), .unset, .unset, .unset, .unset, .unset, .unset, .unset, .unset, .unset, .unset, .unset, .unset, .unset, .unset, .unset, .unset, .unset, .unset, .unset, .unset, .unset] [])) t → Steps p.tables e below (s₁.setTop (mkF m 0 #[.val (.long i0), .second, .val (.long i1), .second, .val (.long i2), .second, .val (.int i3), .val (.int i4), .unset, .unset, .unset, .unset, .unset, .unset, .unset, .unset, .unset, .unset, .unset, .unset, .unset, .unset, .unset, .unset, .unset, .unset, .unset, .unset, .unset, .unset] [])) t := by
    intro t kt
    refine XS.iconst X0.here hx rfl (hb hby at_0) ?_
    show Steps p.tables e below (s₁.setTop (mkF m 1 #[.val (.long i0), .second, .val (.long i1), .second, .val (.long i2), .second, .val (.int i3), .val (.int i4), .unset, .unset, .unset, .unset, .unset, .unset, .unset, .unset, .unset, .unset, .unset, .unset, .unset, .unset, .unset, .unset, .unset, .unset, .unset, .unset, .unset, .unset] [(.int (1 : Int32))])) _
    refine XS.iload X0.here hx rfl (hb hby at_1) rfl ?_
    show Steps p.tables e below (s₁.setTop (mkF m 3 #[.val (.long i0), .second, .val (.long i1), .second, .val (.long i2), .second, .val (.int i3), .val (.int i4), .unset, .unset, .unset, .unset, .unset, .unset, .unset, .unset, .unset, .unset, .unset, .unset, .unset, .unset, .unset, .unset, .unset, .unset, .unset, .unset, .unset, .unset] [(.int i3), (.int (1 : Int32))])) _
    refine X0.ldcInt hx hown (mvT hZ (hw _ (List.mem_of_getElem? (i := 0) rfl))) (g := (mkF m 3 #[.val (.long i0), .second, .val (.long i1), .second, .val (.long i2), .second, .val (.int i3), .val (.int i4), .unset, .unset, .unset, .unset, .unset, .unset, .unset, .unset, .unset, .unset, .unset, .unset, .unset, .unset, .unset, .unset, .unset, .unset, .unset, .unset, .unset, .unset] [(.int i3), (.int (1 : Int32))])) rfl (hb hby at_3) _ ?_
    show Steps p.tables e below (s₁.setTop (mkF m 5 #[.val (.long i0), .second, .val (.long i1), .second, .val (.long i2), .second, .val (.int i3), .val (.int i4), .unset, .unset, .unset, .unset, .unset, .unset, .unset, .unset, .unset, .unset, .unset, .unset, .unset, .unset, .unset, .unset, .unset, .unset, .unset, .unset, .unset, .unset] [(.int (2147483647 : Int32)), (.int i3), (.int (1 : Int32))])) _
    refine XS.iand X0.here hx rfl (hb hby at_5) rfl ?_
    show Steps p.tables e below (s₁.setTop (mkF m 6 #[.val (.long i0), .second, .val (.long i1), .second, .val (.long i2), .second, .val (.int i3), .val (.int i4), .unset, .unset, .unset, .unset, .unset, .unset, .unset, .unset, .unset, .unset, .unset, .unset, .unset, .unset, .unset, .unset, .unset, .unset, .unset, .unset, .unset, .unset] [(.int (i3 &&& (2147483647 : Int32))), (.int (1 : Int32))])) _
    refine XS.iconst X0.here hx rfl (hb hby at_6) ?_
    show Steps p.tables e below (s₁.setTop (mkF m 7 #[.val (.long i0), .second, .val (.long i1), .second, .val (.long i2), .second, .val (.int i3), .val (.int i4), .unset, .unset, .unset, .unset, .unset, .unset, .unset, .unset, .unset, .unset, .unset, .unset, .unset, .unset, .unset, .unset, .unset, .unset, .unset, .unset, .unset, .unset] [(.int (3 : Int32)), (.int (i3 &&& (2147483647 : Int32))), (.int (1 : Int32))])) _
    refine iremM X0 hx rfl (hb hby at_7) rfl (by decide) ?_
    show Steps p.tables e below (s₁.setTop (mkF m 8 #[.val (.long i0), .second, .val (.long i1), .second, .val (.long i2), .second, .val (.int i3), .val (.int i4), .unset, .unset, .unset, .unset, .unset, .unset, .unset, .unset, .unset, .unset, .unset, .unset, .unset, .unset, .unset, .unset, .unset, .unset, .unset, .unset, .unset, .unset] [(.int ((i3 &&& (2147483647 : Int32)) % (3 : Int32))), (.int (1 : Int32))])) _
    refine XS.iadd X0.here hx rfl (hb hby at_8) rfl ?_
    show Steps p.tables e below (s₁.setTop (mkF m 9 #[.val (.long i0), .second, .val (.long i1), .second, .val (.long i2), .second, .val (.int i3), .val (.int i4), .unset, .unset, .unset, .unset, .unset, .unset, .unset, .unset, .unset, .unset, .unset, .unset, .unset, .unset, .unset, .unset, .unset, .unset, .unset, .unset, .unset, .unset] [(.int ((1 : Int32) + ((i3 &&& (2147483647 : Int32)) % (3 : Int32))))])) _
    refine XS.istore X0.here hx rfl (hb hby at_9) rfl (l' := #[.val (.long i0), .second, .val (.long i1), .second, .val (.long i2), .second, .val (.int i3), .val (.int i4), .val (.int ((1 : Int32) + ((i3 &&& (2147483647 : Int32)) % (3 : Int32)))), .unset, .unset, .unset, .unset, .unset, .unset, .unset, .unset, .unset, .unset, .unset, .unset, .unset, .unset, .unset, .unset, .unset, .unset, .unset, .unset, .unset]) rfl ?_
    exact kt
  obtain ⟨kn, hk0, hk1, hkv⟩ : ∃ kn : Nat, 1 ≤ kn ∧ kn ≤ 3 ∧ ((1 : Int32) + ((i3 &&& (2147483647 : Int32)) % (3 : Int32))) = Int32.ofNat kn := by
    have k1 := c_and i3 (2147483647 : Int32) (by decide)
    have k2 := (c_irem (i3 &&& (2147483647 : Int32)) 3 3 (by decide)).1 k1.1
    have k3 := c_iadd 1 ((i3 &&& (2147483647 : Int32)) % (3 : Int32))
    have z1 : (1 : Int32).toInt = 1 := by decide
    have k4 := rng32 ((1 : Int32) + ((i3 &&& (2147483647 : Int32)) % (3 : Int32)))
    obtain ⟨kn, h1, h2⟩ := own_nat (((1 : Int32) + ((i3 &&& (2147483647 : Int32)) % (3 : Int32)))) 3 (by omega) (by omega) (by decide)
    have h3 := own_ofNat (k := kn) (by omega)
    rw [← h2] at h3
    exact ⟨kn, by omega, h1, h2⟩
  rw [hkv] at sg1
  have hkI := own_ofNat (k := kn) (by omega)
  have hk1I : ((Int32.ofNat kn) + (1 : Int32)).toInt = kn + 1 := by
    have q := c_iadd (Int32.ofNat kn) 1
    have q2 := rng32 ((Int32.ofNat kn) + (1 : Int32))
    have z1 : (1 : Int32).toInt = 1 := by decide
    omega
  have hkz : ¬ ((Int32.ofNat kn) + (1 : Int32)) = 0 := by
    intro q
    rw [q] at hk1I
    have z0 : (0 : Int32).toInt = 0 := by decide
    omega
  have sg2 : ∀ t, Steps p.tables e below (s₁.setTop (mkF m 23 #[.val (.long i0), .second, .val (.long i1), .second, .val (.long i2), .second, .val (.int i3), .val (.int i4), .val (.int (Int32.ofNat kn)), .val (.int ((i4 &&& (2147483647 : Int32)) % ((Int32.ofNat kn) + (1 : Int32)))), .unset, .unset, .unset, .unset, .unset, .unset, .unset, .unset, .unset, .unset, .unset, .unset, .unset, .unset, .unset, .unset, .unset, .unset, .unset, .unset] [])) t → Steps p.tables e below (s₁.setTop (mkF m 11 #[.val (.long i0), .second, .val (.long i1), .second, .val (.long i2), .second, .val (.int i3), .val (.int i4), .val (.int (Int32.ofNat kn)), .unset, .unset, .unset, .unset, .unset, .unset, .unset, .unset, .unset, .unset, .unset, .unset, .unset, .unset, .unset, .unset, .unset, .unset, .unset, .unset, .unset] [])) t := by
    intro t kt
    refine XS.iload X0.here hx rfl (hb hby at_11) rfl ?_
    show Steps p.tables e below (s₁.setTop (mkF m 13 #[.val (.long i0), .second, .val (.long i1), .second, .val (.long i2), .second, .val (.int i3), .val (.int i4), .val (.int (Int32.ofNat kn)), .unset, .unset, .unset, .unset, .unset, .unset, .unset, .unset, .unset, .unset, .unset, .unset, .unset, .unset, .unset, .unset, .unset, .unset, .unset, .unset, .unset] [(.int i4)])) _
    refine X0.ldcInt hx hown (mvT hZ (hw _ (List.mem_of_getElem? (i := 0) rfl))) (g := (mkF m 13 #[.val (.long i0), .second, .val (.long i1), .second, .val (.long i2), .second, .val (.int i3), .val (.int i4), .val (.int (Int32.ofNat kn)), .unset, .unset, .unset, .unset, .unset, .unset, .unset, .unset, .unset, .unset, .unset, .unset, .unset, .unset, .unset, .unset, .unset, .unset, .unset, .unset, .unset] [(.int i4)])) rfl (hb hby at_13) _ ?_
    show Steps p.tables e below (s₁.setTop (mkF m 15 #[.val (.long i0), .second, .val (.long i1), .second, .val (.long i2), .second, .val (.int i3), .val (.int i4), .val (.int (Int32.ofNat kn)), .unset, .unset, .unset, .unset, .unset, .unset, .unset, .unset, .unset, .unset, .unset, .unset, .unset, .unset, .unset, .unset, .unset, .unset, .unset, .unset, .unset] [(.int (2147483647 : Int32)), (.int i4)])) _
    refine XS.iand X0.here hx rfl (hb hby at_15) rfl ?_
    show Steps p.tables e below (s₁.setTop (mkF m 16 #[.val (.long i0), .second, .val (.long i1), .second, .val (.long i2), .second, .val (.int i3), .val (.int i4), .val (.int (Int32.ofNat kn)), .unset, .unset, .unset, .unset, .unset, .unset, .unset, .unset, .unset, .unset, .unset, .unset, .unset, .unset, .unset, .unset, .unset, .unset, .unset, .unset, .unset] [(.int (i4 &&& (2147483647 : Int32)))])) _
    refine XS.iload X0.here hx rfl (hb hby at_16) rfl ?_
    show Steps p.tables e below (s₁.setTop (mkF m 18 #[.val (.long i0), .second, .val (.long i1), .second, .val (.long i2), .second, .val (.int i3), .val (.int i4), .val (.int (Int32.ofNat kn)), .unset, .unset, .unset, .unset, .unset, .unset, .unset, .unset, .unset, .unset, .unset, .unset, .unset, .unset, .unset, .unset, .unset, .unset, .unset, .unset, .unset] [(.int (Int32.ofNat kn)), (.int (i4 &&& (2147483647 : Int32)))])) _
    refine XS.iconst X0.here hx rfl (hb hby at_18) ?_
    show Steps p.tables e below (s₁.setTop (mkF m 19 #[.val (.long i0), .second, .val (.long i1), .second, .val (.long i2), .second, .val (.int i3), .val (.int i4), .val (.int (Int32.ofNat kn)), .unset, .unset, .unset, .unset, .unset, .unset, .unset, .unset, .unset, .unset, .unset, .unset, .unset, .unset, .unset, .unset, .unset, .unset, .unset, .unset, .unset] [(.int (1 : Int32)), (.int (Int32.ofNat kn)), (.int (i4 &&& (2147483647 : Int32)))])) _
    refine XS.iadd X0.here hx rfl (hb hby at_19) rfl ?_
    show Steps p.tables e below (s₁.setTop (mkF m 20 #[.val (.long i0), .second, .val (.long i1), .second, .val (.long i2), .second, .val (.int i3), .val (.int i4), .val (.int (Int32.ofNat kn)), .unset, .unset, .unset, .unset, .unset, .unset, .unset, .unset, .unset, .unset, .unset, .unset, .unset, .unset, .unset, .unset, .unset, .unset, .unset, .unset, .unset] [(.int ((Int32.ofNat kn) + (1 : Int32))), (.int (i4 &&& (2147483647 : Int32)))])) _
    refine iremM X0 hx rfl (hb hby at_20) rfl hkz ?_
    show Steps p.tables e below (s₁.setTop (mkF m 21 #[.val (.long i0), .second, .val (.long i1), .second, .val (.long i2), .second, .val (.int i3), .val (.int i4), .val (.int (Int32.ofNat kn)), .unset, .unset, .unset, .unset, .unset, .unset, .unset, .unset, .unset, .unset, .unset, .unset, .unset, .unset, .unset, .unset, .unset, .unset, .unset, .unset, .unset] [(.int ((i4 &&& (2147483647 : Int32)) % ((Int32.ofNat kn) + (1 : Int32))))])) _
    refine XS.istore X0.here hx rfl (hb hby at_21) rfl (l' := #[.val (.long i0), .second, .val (.long i1), .second, .val (.long i2), .second, .val (.int i3), .val (.int i4), .val (.int (Int32.ofNat kn)), .val (.int ((i4 &&& (2147483647 : Int32)) % ((Int32.ofNat kn) + (1 : Int32)))), .unset, .unset, .unset, .unset, .unset, .unset, .unset, .unset, .unset, .unset, .unset, .unset, .unset, .unset, .unset, .unset, .unset, .unset, .unset, .unset]) rfl ?_
    exact kt
  obtain ⟨sn, hs1, hsv⟩ : ∃ sn : Nat, sn ≤ kn ∧ ((i4 &&& (2147483647 : Int32)) % ((Int32.ofNat kn) + (1 : Int32))) = Int32.ofNat sn := by
    have k1 := c_and i4 (2147483647 : Int32) (by decide)
    have k2 := (c_iremV (i4 &&& (2147483647 : Int32)) ((Int32.ofNat kn) + (1 : Int32))).1 k1.1 (by omega)
    exact own_nat _ kn k2.1 (by omega) (by omega)
  rw [hsv] at sg2
  have sg3 : ∀ t, Steps p.tables e below (s₁.setTop (mkF m 24 #[.val (.long i0), .second, .val (.long i1), .second, .val (.long i2), .second, .val (.int i3), .val (.int i4), .val (.int (Int32.ofNat kn)), .val (.int (Int32.ofNat sn)), .unset, .unset, .unset, .unset, .unset, .unset, .unset, .unset, .unset, .unset, .unset, .unset, .unset, .unset, .unset, .unset, .unset, .unset, .unset, .unset] [(.int (3 : Int32))])) t → Steps p.tables e below (s₁.setTop (mkF m 23 #[.val (.long i0), .second, .val (.long i1), .second, .val (.long i2), .second, .val (.int i3), .val (.int i4), .val (.int (Int32.ofNat kn)), .val (.int (Int32.ofNat sn)), .unset, .unset, .unset, .unset, .unset, .unset, .unset, .unset, .unset, .unset, .unset, .unset, .unset, .unset, .unset, .unset, .unset, .unset, .unset, .unset] [])) t := by
    intro t kt
    refine XS.iconst X0.here hx rfl (hb hby at_23) ?_
    exact kt
  obtain ⟨T4, h4, k4, X4, e4, E4, A4, st4⟩ := newP X0 hx hZ (hw _ (List.mem_of_getElem? (i := 1) rfl)) e0 (g := (mkF m 24 #[.val (.long i0), .second, .val (.long i1), .second, .val (.long i2), .second, .val (.int i3), .val (.int i4), .val (.int (Int32.ofNat kn)), .val (.int (Int32.ofNat sn)), .unset, .unset, .unset, .unset, .unset, .unset, .unset, .unset, .unset, .unset, .unset, .unset, .unset, .unset, .unset, .unset, .unset, .unset, .unset, .unset] [(.int (3 : Int32))])) rfl (hb hby at_24) rfl (by decide) (cap := 3) (by decide) (by decide) (by decide) (by decide)
  obtain ⟨b5, g4⟩ : ∃ z, z = h0.size := ⟨_, rfl⟩
  rw [← g4] at A4 st4
  have g_b5 : n0 ≤ b5 := Nat.le_trans Z0 (Nat.le_of_eq g4.symm)
  have Zs6 : n0 ≤ h4.size := Nat.le_trans Z0 E4.1
  have f7 : Arv Z h4 b5 k4 .long (3 : Int32) [(.long (0 : Int64)), (.long (0 : Int64)), (.long (0 : Int64))] (.long (0 : Int64)) := (Arv.new A4 (by decide)).pad (pad_rep [] (.long (0 : Int64)) 3)
  have sg8 : ∀ t, Steps p.tables e below (T4.setTop (mkF m 29 #[.val (.long i0), .second, .val (.long i1), .second, .val (.long i2), .second, .val (.int i3), .val (.int i4), .val (.int (Int32.ofNat kn)), .val (.int (Int32.ofNat sn)), .unset, .unset, .unset, .unset, .unset, .unset, .unset, .unset, .unset, .unset, .unset, .unset, .unset, .unset, .unset, .unset, .unset, .unset, .unset, .unset] [(.long i0), (.int (0 : Int32)), (.ref b5), (.ref b5)])) t → Steps p.tables e below (T4.setTop (mkF m 26 #[.val (.long i0), .second, .val (.long i1), .second, .val (.long i2), .second, .val (.int i3), .val (.int i4), .val (.int (Int32.ofNat kn)), .val (.int (Int32.ofNat sn)), .unset, .unset, .unset, .unset, .unset, .unset, .unset, .unset, .unset, .unset, .unset, .unset, .unset, .unset, .unset, .unset, .unset, .unset, .unset, .unset] [(.ref b5)])) t := by
    intro t kt
    refine XS.dup X4.here hx rfl (hb hby at_26) rfl rfl ?_
    show Steps p.tables e below (T4.setTop (mkF m 27 #[.val (.long i0), .second, .val (.long i1), .second, .val (.long i2), .second, .val (.int i3), .val (.int i4), .val (.int (Int32.ofNat kn)), .val (.int (Int32.ofNat sn)), .unset, .unset, .unset, .unset, .unset, .unset, .unset, .unset, .unset, .unset, .unset, .unset, .unset, .unset, .unset, .unset, .unset, .unset, .unset, .unset] [(.ref b5), (.ref b5)])) _
    refine XS.iconst X4.here hx rfl (hb hby at_27) ?_
    show Steps p.tables e below (T4.setTop (mkF m 28 #[.val (.long i0), .second, .val (.long i1), .second, .val (.long i2), .second, .val (.int i3), .val (.int i4), .val (.int (Int32.ofNat kn)), .val (.int (Int32.ofNat sn)), .unset, .unset, .unset, .unset, .unset, .unset, .unset, .unset, .unset, .unset, .unset, .unset, .unset, .unset, .unset, .unset, .unset, .unset, .unset, .unset] [(.int (0 : Int32)), (.ref b5), (.ref b5)])) _
    refine XS.lloadN X4.here hx rfl (hb hby at_28) rfl ?_
    exact kt
  obtain ⟨clu9, Aru9, qu9, Su9, Ngu9, Hu9, Gu9⟩ := id f7
  have hinu9 : ¬ ((0 : Int32) < 0 ∨ clu9.slots.size ≤ ((0 : Int32)).toNatClampNeg) := inb_of Su9 ⟨by decide, by decide⟩
  obtain ⟨T10, h10, X10, e10, W10, st10⟩ := stJ X4 hx hZ e4 Aru9 (j := (0 : Int32)) hinu9 (g := (mkF m 29 #[.val (.long i0), .second, .val (.long i1), .second, .val (.long i2), .second, .val (.int i3), .val (.int i4), .val (.int (Int32.ofNat kn)), .val (.int (Int32.ofNat sn)), .unset, .unset, .unset, .unset, .unset, .unset, .unset, .unset, .unset, .unset, .unset, .unset, .unset, .unset, .unset, .unset, .unset, .unset, .unset, .unset] [(.long i0), (.int (0 : Int32)), (.ref b5), (.ref b5)])) rfl rfl (hb hby at_29)
  have f11 := Arv.set Aru9 qu9 Su9 Ngu9 Hu9 Gu9 rfl W10 0 rfl (Nat.le_of_ble_eq_true rfl)
  have Zs12 : n0 ≤ h10.size := by rw [W10.size]; exact Zs6
  have N10 := Fr.snoc X10 N0 g_b5
  have sg13 : ∀ t, Steps p.tables e below (T10.setTop (mkF m 33 #[.val (.long i0), .second, .val (.long i1), .second, .val (.long i2), .second, .val (.int i3), .val (.int i4), .val (.int (Int32.ofNat kn)), .val (.int (Int32.ofNat sn)), .unset, .unset, .unset, .unset, .unset, .unset, .unset, .unset, .unset, .unset, .unset, .unset, .unset, .unset, .unset, .unset, .unset, .unset, .unset, .unset] [(.long i1), (.int (1 : Int32)), (.ref b5), (.ref b5)])) t → Steps p.tables e below (T10.setTop (mkF m 30 #[.val (.long i0), .second, .val (.long i1), .second, .val (.long i2), .second, .val (.int i3), .val (.int i4), .val (.int (Int32.ofNat kn)), .val (.int (Int32.ofNat sn)), .unset, .unset, .unset, .unset, .unset, .unset, .unset, .unset, .unset, .unset, .unset, .unset, .unset, .unset, .unset, .unset, .unset, .unset, .unset, .unset] [(.ref b5)])) t := by
    intro t kt
    refine XS.dup X10.here hx rfl (hb hby at_30) rfl rfl ?_
    show Steps p.tables e below (T10.setTop (mkF m 31 #[.val (.long i0), .second, .val (.long i1), .second, .val (.long i2), .second, .val (.int i3), .val (.int i4), .val (.int (Int32.ofNat kn)), .val (.int (Int32.ofNat sn)), .unset, .unset, .unset, .unset, .unset, .unset, .unset, .unset, .unset, .unset, .unset, .unset, .unset, .unset, .unset, .unset, .unset, .unset, .unset, .unset] [(.ref b5), (.ref b5)])) _
    refine XS.iconst X10.here hx rfl (hb hby at_31) ?_
    show Steps p.tables e below (T10.setTop (mkF m 32 #[.val (.long i0), .second, .val (.long i1), .second, .val (.long i2), .second, .val (.int i3), .val (.int i4), .val (.int (Int32.ofNat kn)), .val (.int (Int32.ofNat sn)), .unset, .unset, .unset, .unset, .unset, .unset, .unset, .unset, .unset, .unset, .unset, .unset, .unset, .unset, .unset, .unset, .unset, .unset, .unset, .unset] [(.int (1 : Int32)), (.ref b5), (.ref b5)])) _
    refine XS.lloadN X10.here hx rfl (hb hby at_32) rfl ?_
    exact kt
  obtain ⟨clu14, Aru14, qu14, Su14, Ngu14, Hu14, Gu14⟩ := id f11
  have hinu14 : ¬ ((1 : Int32) < 0 ∨ clu14.slots.size ≤ ((1 : Int32)).toNatClampNeg) := inb_of Su14 ⟨by decide, by decide⟩
  obtain ⟨T15, h15, X15, e15, W15, st15⟩ := stJ X10 hx hZ e10 Aru14 (j := (1 : Int32)) hinu14 (g := (mkF m 33 #[.val (.long i0), .second, .val (.long i1), .second, .val (.long i2), .second, .val (.int i3), .val (.int i4), .val (.int (Int32.ofNat kn)), .val (.int (Int32.ofNat sn)), .unset, .unset, .unset, .unset, .unset, .unset, .unset, .unset, .unset, .unset, .unset, .unset, .unset, .unset, .unset, .unset, .unset, .unset, .unset, .unset] [(.long i1), (.int (1 : Int32)), (.ref b5), (.ref b5)])) rfl rfl (hb hby at_33)
  have f16 := Arv.set Aru14 qu14 Su14 Ngu14 Hu14 Gu14 rfl W15 1 rfl (Nat.le_of_ble_eq_true rfl)
  have Zs17 : n0 ≤ h15.size := by rw [W15.size]; exact Zs12
  have N15 := Fr.snoc X15 N10 g_b5
  have sg18 : ∀ t, Steps p.tables e below (T15.setTop (mkF m 38 #[.val (.long i0), .second, .val (.long i1), .second, .val (.long i2), .second, .val (.int i3), .val (.int i4), .val (.int (Int32.ofNat kn)), .val (.int (Int32.ofNat sn)), .unset, .unset, .unset, .unset, .unset, .unset, .unset, .unset, .unset, .unset, .unset, .unset, .unset, .unset, .unset, .unset, .unset, .unset, .unset, .unset] [(.long i2), (.int (2 : Int32)), (.ref b5), (.ref b5)])) t → Steps p.tables e below (T15.setTop (mkF m 34 #[.val (.long i0), .second, .val (.long i1), .second, .val (.long i2), .second, .val (.int i3), .val (.int i4), .val (.int (Int32.ofNat kn)), .val (.int (Int32.ofNat sn)), .unset, .unset, .unset, .unset, .unset, .unset, .unset, .unset, .unset, .unset, .unset, .unset, .unset, .unset, .unset, .unset, .unset, .unset, .unset, .unset] [(.ref b5)])) t := by
    intro t kt
    refine XS.dup X15.here hx rfl (hb hby at_34) rfl rfl ?_
    show Steps p.tables e below (T15.setTop (mkF m 35 #[.val (.long i0), .second, .val (.long i1), .second, .val (.long i2), .second, .val (.int i3), .val (.int i4), .val (.int (Int32.ofNat kn)), .val (.int (Int32.ofNat sn)), .unset, .unset, .unset, .unset, .unset, .unset, .unset, .unset, .unset, .unset, .unset, .unset, .unset, .unset, .unset, .unset, .unset, .unset, .unset, .unset] [(.ref b5), (.ref b5)])) _
    refine XS.iconst X15.here hx rfl (hb hby at_35) ?_
    show Steps p.tables e below (T15.setTop (mkF m 36 #[.val (.long i0), .second, .val (.long i1), .second, .val (.long i2), .second, .val (.int i3), .val (.int i4), .val (.int (Int32.ofNat kn)), .val (.int (Int32.ofNat sn)), .unset, .unset, .unset, .unset, .unset, .unset, .unset, .unset, .unset, .unset, .unset, .unset, .unset, .unset, .unset, .unset, .unset, .unset, .unset, .unset] [(.int (2 : Int32)), (.ref b5), (.ref b5)])) _
    refine XS.lload X15.here hx rfl (hb hby at_36) rfl ?_
    exact kt
  obtain ⟨clu19, Aru19, qu19, Su19, Ngu19, Hu19, Gu19⟩ := id f16
  have hinu19 : ¬ ((2 : Int32) < 0 ∨ clu19.slots.size ≤ ((2 : Int32)).toNatClampNeg) := inb_of Su19 ⟨by decide, by decide⟩
  obtain ⟨T20, h20, X20, e20, W20, st20⟩ := stJ X15 hx hZ e15 Aru19 (j := (2 : Int32)) hinu19 (g := (mkF m 38 #[.val (.long i0), .second, .val (.long i1), .second, .val (.long i2), .second, .val (.int i3), .val (.int i4), .val (.int (Int32.ofNat kn)), .val (.int (Int32.ofNat sn)), .unset, .unset, .unset, .unset, .unset, .unset, .unset, .unset, .unset, .unset, .unset, .unset, .unset, .unset, .unset, .unset, .unset, .unset, .unset, .unset] [(.long i2), (.int (2 : Int32)), (.ref b5), (.ref b5)])) rfl rfl (hb hby at_38)
  have f21 := Arv.set Aru19 qu19 Su19 Ngu19 Hu19 Gu19 rfl W20 2 rfl (Nat.le_of_ble_eq_true rfl)
  have Zs22 : n0 ≤ h20.size := by rw [W20.size]; exact Zs17
  have N20 := Fr.snoc X20 N15 g_b5
  have sg23 : ∀ t, Steps p.tables e below (T20.setTop (mkF m 41 #[.val (.long i0), .second, .val (.long i1), .second, .val (.long i2), .second, .val (.int i3), .val (.int i4), .val (.int (Int32.ofNat kn)), .val (.int (Int32.ofNat sn)), .val (.ref b5), .unset, .unset, .unset, .unset, .unset, .unset, .unset, .unset, .unset, .unset, .unset, .unset, .unset, .unset, .unset, .unset, .unset, .unset, .unset] [])) t → Steps p.tables e below (T20.setTop (mkF m 39 #[.val (.long i0), .second, .val (.long i1), .second, .val (.long i2), .second, .val (.int i3), .val (.int i4), .val (.int (Int32.ofNat kn)), .val (.int (Int32.ofNat sn)), .unset, .unset, .unset, .unset, .unset, .unset, .unset, .unset, .unset, .unset, .unset, .unset, .unset, .unset, .unset, .unset, .unset, .unset, .unset, .unset] [(.ref b5)])) t := by
    intro t kt
    refine XS.astore X20.here hx rfl (hb hby at_39) rfl rfl (l' := #[.val (.long i0), .second, .val (.long i1), .second, .val (.long i2), .second, .val (.int i3), .val (.int i4), .val (.int (Int32.ofNat kn)), .val (.int (Int32.ofNat sn)), .val (.ref b5), .unset, .unset, .unset, .unset, .unset, .unset, .unset, .unset, .unset, .unset, .unset, .unset, .unset, .unset, .unset, .unset, .unset, .unset, .unset]) rfl ?_
    exact kt
  obtain ⟨T24, h24, X24, e24, E24, A24, D24, -, st24⟩ := newO X20 hx hZ hown (hw _ (List.mem_of_getElem? (i := 2) rfl)) (hw _ (List.mem_of_getElem? (i := 3) rfl)) (hw _ (List.mem_of_getElem? (i := 4) rfl)) e20 (g := (mkF m 41 #[.val (.long i0), .second, .val (.long i1), .second, .val (.long i2), .second, .val (.int i3), .val (.int i4), .val (.int (Int32.ofNat kn)), .val (.int (Int32.ofNat sn)), .val (.ref b5), .unset, .unset, .unset, .unset, .unset, .unset, .unset, .unset, .unset, .unset, .unset, .unset, .unset, .unset, .unset, .unset, .unset, .unset, .unset] [])) rfl (hb hby at_41) (by decide) (by decide)
  obtain ⟨b25, g24⟩ : ∃ z, z = h20.size := ⟨_, rfl⟩
  rw [← g24] at A24 D24 st24
  have g_b25 : n0 ≤ b25 := Nat.le_trans Zs22 (Nat.le_of_eq g24.symm)
  have ne_b5_b25 : b5 ≠ b25 := Nat.ne_of_lt (Nat.lt_of_lt_of_le f21.lt (Nat.le_of_eq g24.symm))
  have f26 := (f21.ext E24)
  have Zs27 : n0 ≤ h24.size := Nat.le_trans Zs22 E24.1
  have f28 : Fld Z h24 b25 "com/example/cormorant/cormorant/Histogram" "buckets" "[[J" .null := D24 (Or.inr (hw _ (List.mem_of_getElem? (i := 14) rfl))) (ty := (.array (.array .long))) (by decide)
  have f29 : Fld Z h24 b25 "com/example/cormorant/cormorant/Histogram" "blockCounts" "[J" .null := D24 (Or.inr (hw _ (List.mem_of_getElem? (i := 16) rfl))) (ty := (.array .long)) (by decide)
  have f30 : Fld Z h24 b25 "com/example/cormorant/cormorant/Histogram" "sum" "J" (.long (0 : Int64)) := D24 (Or.inl (hw _ (List.mem_of_getElem? (i := 23) rfl))) (ty := .long) (by decide)
  have f31 : Fld Z h24 b25 "com/example/cormorant/cormorant/Histogram" "sumWraps" "J" (.long (0 : Int64)) := D24 (Or.inl (hw _ (List.mem_of_getElem? (i := 25) rfl))) (ty := .long) (by decide)
  have f32 : Fld Z h24 b25 "com/example/cormorant/cormorant/Histogram" "max" "J" (.long (0 : Int64)) := D24 (Or.inl (hw _ (List.mem_of_getElem? (i := 27) rfl))) (ty := .long) (by decide)
  have f33 : Fld Z h24 b25 "com/example/cormorant/cormorant/Histogram" "count" "J" (.long (0 : Int64)) := D24 (Or.inl (hw _ (List.mem_of_getElem? (i := 53) rfl))) (ty := .long) (by decide)
  have sg34 : ∀ t, Steps p.tables e below (T24.setTop (mkF m 45 #[.val (.long i0), .second, .val (.long i1), .second, .val (.long i2), .second, .val (.int i3), .val (.int i4), .val (.int (Int32.ofNat kn)), .val (.int (Int32.ofNat sn)), .val (.ref b5), .unset, .unset, .unset, .unset, .unset, .unset, .unset, .unset, .unset, .unset, .unset, .unset, .unset, .unset, .unset, .unset, .unset, .unset, .unset] [(.ref b25), (.ref b25)])) t → Steps p.tables e below (T24.setTop (mkF m 44 #[.val (.long i0), .second, .val (.long i1), .second, .val (.long i2), .second, .val (.int i3), .val (.int i4), .val (.int (Int32.ofNat kn)), .val (.int (Int32.ofNat sn)), .val (.ref b5), .unset, .unset, .unset, .unset, .unset, .unset, .unset, .unset, .unset, .unset, .unset, .unset, .unset, .unset, .unset, .unset, .unset, .unset, .unset] [(.ref b25)])) t := by
    intro t kt
    refine XS.dup X24.here hx rfl (hb hby at_44) rfl rfl ?_
    exact kt
  have In : own_nan Z h24 b5 i0 i1 i2 := by
    obtain ⟨cl, A1, -, S1, -, H1, -⟩ := f26
    have z1 : cl.slots.size = 3 := S1
    exact ⟨cl, A1, z1, H1 0 (by omega), H1 1 (by omega), H1 2 (by omega)⟩
  obtain ⟨_, _, ⟨T35, L35, k35, n35⟩, -, X35, ⟨Lc35, hQ35, l35, y35, z35⟩, st35⟩ := X24.specialBack hx (y := (⟨"com/example/cormorant/cormorant/Histogram", "<init>", "()V"⟩ : MethodName)) rfl hown (mvT hZ (hw _ (List.mem_of_getElem? (i := 5) rfl))) (mvT hZ (hw _ (List.mem_of_getElem? (i := 6) rfl))) (mvT hZ (hw _ (List.mem_of_getElem? (i := 7) rfl))) (by decide) (backOf (W := 1) (rm1 l Z a0 hw [] b25 b5 i0 i1 i2 h24 n0 Zs27 A24 f28 f29 f30 f31 f32 f33 In g_b25) hZ (hw _ (List.mem_of_getElem? (i := 7) rfl)) (hw _ (List.mem_of_getElem? (i := 4) rfl)) (by decide) (by decide)) (g := (mkF m 45 #[.val (.long i0), .second, .val (.long i1), .second, .val (.long i2), .second, .val (.int i3), .val (.int i4), .val (.int (Int32.ofNat kn)), .val (.int (Int32.ofNat sn)), .val (.ref b5), .unset, .unset, .unset, .unset, .unset, .unset, .unset, .unset, .unset, .unset, .unset, .unset, .unset, .unset, .unset, .unset, .unset, .unset, .unset] [(.ref b25), (.ref b25)])) rfl (by rw [hml]; rfl) (Steps.refl _) (a := b25) (argsL := []) (rest := [(.ref b25)]) (lenOf pd_4 rfl) rfl (by show 2 * 0 + _ ≤ _; exact Nat.le_of_eq rfl) (hb hby at_45) (fun _ _ => ⟨rfl, e24, (by decide : 2 + 2 ≤ _), (by decide : 9 + 114 ≤ _)⟩)
  dsimp only [Pt.U, Pt.locs, Pt.cells, Pt.slots] at X35 l35 y35 z35 st35 hQ35
  subst l35 y35 z35
  obtain ⟨rfl, Nq35, z35', B, D, IA0, IO0⟩ := hQ35
  have N35 := Fr.app N20 Nq35
  have Za : n0 ≤ T35.heap.size := by omega
  have hL : ∀ k, k < 3 → own_nano i0 i1 i2 k = [i0, i1, i2].getD k 0 := fun k hk => by
    match k, hk with
    | 0, _ => rfl
    | 1, _ => rfl
    | 2, _ => rfl
  have len1 : ([i0, i1, i2].take sn).length = sn := by simp; omega
  have len2 : (([i0, i1, i2].take kn).drop sn).length = kn - sn := by simp; omega
  have sg36 : ∀ t, Steps p.tables e below (T35.setTop (mkF m 57 #[.val (.long i0), .second, .val (.long i1), .second, .val (.long i2), .second, .val (.int i3), .val (.int i4), .val (.int (Int32.ofNat kn)), .val (.int (Int32.ofNat sn)), .val (.ref b5), .val (.ref b25), .unset, .unset, .unset, .unset, .unset, .unset, .unset, .unset, .unset, .unset, .unset, .unset, .unset, .unset, .unset, .unset, .unset, .unset] [(.int (Int32.ofNat sn)), (.int (0 : Int32)), (.ref b5), (.ref b25)])) t → Steps p.tables e below (T35.setTop (mkF m 48 #[.val (.long i0), .second, .val (.long i1), .second, .val (.long i2), .second, .val (.int i3), .val (.int i4), .val (.int (Int32.ofNat kn)), .val (.int (Int32.ofNat sn)), .val (.ref b5), .unset, .unset, .unset, .unset, .unset, .unset, .unset, .unset, .unset, .unset, .unset, .unset, .unset, .unset, .unset, .unset, .unset, .unset, .unset] [(.ref b25)])) t := by
    intro t kt
    refine XS.astore X35.here hx rfl (hb hby at_48) rfl rfl (l' := #[.val (.long i0), .second, .val (.long i1), .second, .val (.long i2), .second, .val (.int i3), .val (.int i4), .val (.int (Int32.ofNat kn)), .val (.int (Int32.ofNat sn)), .val (.ref b5), .val (.ref b25), .unset, .unset, .unset, .unset, .unset, .unset, .unset, .unset, .unset, .unset, .unset, .unset, .unset, .unset, .unset, .unset, .unset, .unset]) rfl ?_
    show Steps p.tables e below (T35.setTop (mkF m 50 #[.val (.long i0), .second, .val (.long i1), .second, .val (.long i2), .second, .val (.int i3), .val (.int i4), .val (.int (Int32.ofNat kn)), .val (.int (Int32.ofNat sn)), .val (.ref b5), .val (.ref b25), .unset, .unset, .unset, .unset, .unset, .unset, .unset, .unset, .unset, .unset, .unset, .unset, .unset, .unset, .unset, .unset, .unset, .unset] [])) _
    refine XS.aload X35.here hx rfl (hb hby at_50) rfl rfl ?_
    show Steps p.tables e below (T35.setTop (mkF m 52 #[.val (.long i0), .second, .val (.long i1), .second, .val (.long i2), .second, .val (.int i3), .val (.int i4), .val (.int (Int32.ofNat kn)), .val (.int (Int32.ofNat sn)), .val (.ref b5), .val (.ref b25), .unset, .unset, .unset, .unset, .unset, .unset, .unset, .unset, .unset, .unset, .unset, .unset, .unset, .unset, .unset, .unset, .unset, .unset] [(.ref b25)])) _
    refine XS.aload X35.here hx rfl (hb hby at_52) rfl rfl ?_
    show Steps p.tables e below (T35.setTop (mkF m 54 #[.val (.long i0), .second, .val (.long i1), .second, .val (.long i2), .second, .val (.int i3), .val (.int i4), .val (.int (Int32.ofNat kn)), .val (.int (Int32.ofNat sn)), .val (.ref b5), .val (.ref b25), .unset, .unset, .unset, .unset, .unset, .unset, .unset, .unset, .unset, .unset, .unset, .unset, .unset, .unset, .unset, .unset, .unset, .unset] [(.ref b5), (.ref b25)])) _
    refine XS.iconst X35.here hx rfl (hb hby at_54) ?_
    show Steps p.tables e below (T35.setTop (mkF m 55 #[.val (.long i0), .second, .val (.long i1), .second, .val (.long i2), .second, .val (.int i3), .val (.int i4), .val (.int (Int32.ofNat kn)), .val (.int (Int32.ofNat sn)), .val (.ref b5), .val (.ref b25), .unset, .unset, .unset, .unset, .unset, .unset, .unset, .unset, .unset, .unset, .unset, .unset, .unset, .unset, .unset, .unset, .unset, .unset] [(.int (0 : Int32)), (.ref b5), (.ref b25)])) _
    refine XS.iload X35.here hx rfl (hb hby at_55) rfl ?_
    exact kt
  have cv1 : ∀ t, Steps p.tables e below (T35.setTop (mkF m 57 #[.val (.long i0), .second, .val (.long i1), .second, .val (.long i2), .second, .val (.int i3), .val (.int i4), .val (.int (Int32.ofNat kn)), .val (.int (Int32.ofNat sn)), .val (.ref b5), .val (.ref b25), .unset, .unset, .unset, .unset, .unset, .unset, .unset, .unset, .unset, .unset, .unset, .unset, .unset, .unset, .unset, .unset, .unset, .unset] [(.int (Int32.ofNat (0 + ([i0, i1, i2].take sn).length))), (.int (Int32.ofNat 0)), (.ref b5), (.ref b25)])) t → Steps p.tables e below (T35.setTop (mkF m 57 #[.val (.long i0), .second, .val (.long i1), .second, .val (.long i2), .second, .val (.int i3), .val (.int i4), .val (.int (Int32.ofNat kn)), .val (.int (Int32.ofNat sn)), .val (.ref b5), .val (.ref b25), .unset, .unset, .unset, .unset, .unset, .unset, .unset, .unset, .unset, .unset, .unset, .unset, .unset, .unset, .unset, .unset, .unset, .unset] [(.int (Int32.ofNat sn)), (.int (0 : Int32)), (.ref b5), (.ref b25)])) t := fun t kt => by
    have q1 : Int32.ofNat (0 + ([i0, i1, i2].take sn).length) = Int32.ofNat sn := by rw [len1, Nat.zero_add]
    have q0 : Int32.ofNat 0 = (0 : Int32) := by decide
    rw [q1, q0] at kt
    exact kt
  obtain ⟨cq37, kq37, q37a, q37b, q37c⟩ := isOf hZ rfl IO0.1
  obtain ⟨_, _, ⟨T37, L37, k37, n37⟩, -, X37, ⟨Lc37, hQ37, l37, y37, z37⟩, st37⟩ := X35.virtualBack hx (y := (⟨"com/example/cormorant/cormorant/Histogram", "record", "([JII)V"⟩ : MethodName)) (z := (⟨"com/example/cormorant/cormorant/Histogram", "record", "([JII)V"⟩ : MethodName)) hown (mvT hZ (hw _ (List.mem_of_getElem? (i := 17) rfl))) (mvT hZ (hw _ (List.mem_of_getElem? (i := 18) rfl))) (notFace_of_selects (args := #[]) (mvT hZ (hw _ (List.mem_of_getElem? (i := 20) rfl)))) (mvT hZ (hw _ (List.mem_of_getElem? (i := 20) rfl))) (mvT hZ (hw _ (List.mem_of_getElem? (i := 19) rfl))) (by decide) (backOf (W := 0) (rm3 l Z a0 hw [] b25 b5 0 ([i0, i1, i2].take sn) B D i0 i1 i2 0 0 0 0 T35.heap n0 Za (by simp only [len1]; omega) (fun j hj => by rw [len1] at hj; rw [hL _ (by omega)]; simp only [List.getD_eq_getElem?_getD, List.getElem?_take, if_pos hj, Nat.zero_add]) IA0 IO0 g_b25) hZ (hw _ (List.mem_of_getElem? (i := 21) rfl)) (hw _ (List.mem_of_getElem? (i := 4) rfl)) (by decide) (by decide)) q37a q37c (g := (mkF m 57 #[.val (.long i0), .second, .val (.long i1), .second, .val (.long i2), .second, .val (.int i3), .val (.int i4), .val (.int (Int32.ofNat kn)), .val (.int (Int32.ofNat sn)), .val (.ref b5), .val (.ref b25), .unset, .unset, .unset, .unset, .unset, .unset, .unset, .unset, .unset, .unset, .unset, .unset, .unset, .unset, .unset, .unset, .unset, .unset] [(.int (Int32.ofNat (0 + ([i0, i1, i2].take sn).length))), (.int (Int32.ofNat 0)), (.ref b5), (.ref b25)])) rfl (by rw [hml]; rfl) (Steps.refl _) (argsL := [(.ref b5), (.int (Int32.ofNat 0)), (.int (Int32.ofNat (0 + ([i0, i1, i2].take sn).length)))]) (rest := []) (lenOf pd_5 rfl) rfl (by show 2 * 0 + _ ≤ _; exact Nat.le_of_eq rfl) (hb hby at_57) (fun _ _ => ⟨rfl, rfl, (by decide : 4 + 3 ≤ _), (by decide : 123 + 384 ≤ _)⟩)
  dsimp only [Pt.U, Pt.locs, Pt.cells, Pt.slots] at X37 l37 y37 z37 st37 hQ37
  subst l37 y37 z37
  obtain ⟨rfl, Nq37, z37', IA1, mx1, IO1⟩ := hQ37
  have N37 := Fr.app N35 Nq37
  have Zb : n0 ≤ T37.heap.size := by omega
  have sg38 : ∀ t, Steps p.tables e below (T37.setTop (mkF m 68 #[.val (.long i0), .second, .val (.long i1), .second, .val (.long i2), .second, .val (.int i3), .val (.int i4), .val (.int (Int32.ofNat kn)), .val (.int (Int32.ofNat sn)), .val (.ref b5), .val (.ref b25), .unset, .unset, .unset, .unset, .unset, .unset, .unset, .unset, .unset, .unset, .unset, .unset, .unset, .unset, .unset, .unset, .unset, .unset] [(.int (Int32.ofNat kn)), (.int (Int32.ofNat sn)), (.ref b5), (.ref b25)])) t → Steps p.tables e below (T37.setTop (mkF m 60 #[.val (.long i0), .second, .val (.long i1), .second, .val (.long i2), .second, .val (.int i3), .val (.int i4), .val (.int (Int32.ofNat kn)), .val (.int (Int32.ofNat sn)), .val (.ref b5), .val (.ref b25), .unset, .unset, .unset, .unset, .unset, .unset, .unset, .unset, .unset, .unset, .unset, .unset, .unset, .unset, .unset, .unset, .unset, .unset] [])) t := by
    intro t kt
    refine XS.aload X37.here hx rfl (hb hby at_60) rfl rfl ?_
    show Steps p.tables e below (T37.setTop (mkF m 62 #[.val (.long i0), .second, .val (.long i1), .second, .val (.long i2), .second, .val (.int i3), .val (.int i4), .val (.int (Int32.ofNat kn)), .val (.int (Int32.ofNat sn)), .val (.ref b5), .val (.ref b25), .unset, .unset, .unset, .unset, .unset, .unset, .unset, .unset, .unset, .unset, .unset, .unset, .unset, .unset, .unset, .unset, .unset, .unset] [(.ref b25)])) _
    refine XS.aload X37.here hx rfl (hb hby at_62) rfl rfl ?_
    show Steps p.tables e below (T37.setTop (mkF m 64 #[.val (.long i0), .second, .val (.long i1), .second, .val (.long i2), .second, .val (.int i3), .val (.int i4), .val (.int (Int32.ofNat kn)), .val (.int (Int32.ofNat sn)), .val (.ref b5), .val (.ref b25), .unset, .unset, .unset, .unset, .unset, .unset, .unset, .unset, .unset, .unset, .unset, .unset, .unset, .unset, .unset, .unset, .unset, .unset] [(.ref b5), (.ref b25)])) _
    refine XS.iload X37.here hx rfl (hb hby at_64) rfl ?_
    show Steps p.tables e below (T37.setTop (mkF m 66 #[.val (.long i0), .second, .val (.long i1), .second, .val (.long i2), .second, .val (.int i3), .val (.int i4), .val (.int (Int32.ofNat kn)), .val (.int (Int32.ofNat sn)), .val (.ref b5), .val (.ref b25), .unset, .unset, .unset, .unset, .unset, .unset, .unset, .unset, .unset, .unset, .unset, .unset, .unset, .unset, .unset, .unset, .unset, .unset] [(.int (Int32.ofNat sn)), (.ref b5), (.ref b25)])) _
    refine XS.iload X37.here hx rfl (hb hby at_66) rfl ?_
    exact kt
  have cv2 : ∀ t, Steps p.tables e below (T37.setTop (mkF m 68 #[.val (.long i0), .second, .val (.long i1), .second, .val (.long i2), .second, .val (.int i3), .val (.int i4), .val (.int (Int32.ofNat kn)), .val (.int (Int32.ofNat sn)), .val (.ref b5), .val (.ref b25), .unset, .unset, .unset, .unset, .unset, .unset, .unset, .unset, .unset, .unset, .unset, .unset, .unset, .unset, .unset, .unset, .unset, .unset] [(.int (Int32.ofNat (sn + (([i0, i1, i2].take kn).drop sn).length))), (.int (Int32.ofNat sn)), (.ref b5), (.ref b25)])) t → Steps p.tables e below (T37.setTop (mkF m 68 #[.val (.long i0), .second, .val (.long i1), .second, .val (.long i2), .second, .val (.int i3), .val (.int i4), .val (.int (Int32.ofNat kn)), .val (.int (Int32.ofNat sn)), .val (.ref b5), .val (.ref b25), .unset, .unset, .unset, .unset, .unset, .unset, .unset, .unset, .unset, .unset, .unset, .unset, .unset, .unset, .unset, .unset, .unset, .unset] [(.int (Int32.ofNat kn)), (.int (Int32.ofNat sn)), (.ref b5), (.ref b25)])) t := fun t kt => by
    have q1 : Int32.ofNat (sn + (([i0, i1, i2].take kn).drop sn).length) = Int32.ofNat kn := by rw [len2]; congr 1; omega
    rw [q1] at kt
    exact kt
  obtain ⟨cq39, kq39, q39a, q39b, q39c⟩ := isOf hZ rfl IO1.1
  obtain ⟨_, _, ⟨T39, L39, k39, n39⟩, -, X39, ⟨Lc39, hQ39, l39, y39, z39⟩, st39⟩ := X37.virtualBack hx (y := (⟨"com/example/cormorant/cormorant/Histogram", "record", "([JII)V"⟩ : MethodName)) (z := (⟨"com/example/cormorant/cormorant/Histogram", "record", "([JII)V"⟩ : MethodName)) hown (mvT hZ (hw _ (List.mem_of_getElem? (i := 17) rfl))) (mvT hZ (hw _ (List.mem_of_getElem? (i := 18) rfl))) (notFace_of_selects (args := #[]) (mvT hZ (hw _ (List.mem_of_getElem? (i := 20) rfl)))) (mvT hZ (hw _ (List.mem_of_getElem? (i := 20) rfl))) (mvT hZ (hw _ (List.mem_of_getElem? (i := 19) rfl))) (by decide) (backOf (W := 0) (rm3 l Z a0 hw [] b25 b5 sn (([i0, i1, i2].take kn).drop sn) B D i0 i1 i2 (own_run (0, 0) ([i0, i1, i2].take sn)).1 (own_run (0, 0) ([i0, i1, i2].take sn)).2 mx1 ((0 : Int64) + ((Int32.ofNat (0 + ([i0, i1, i2].take sn).length)) - (Int32.ofNat 0)).toInt64) T37.heap n0 Zb (by simp only [len2]; omega) (fun j hj => by rw [len2] at hj; rw [hL _ (by omega)]; simp only [List.getD_eq_getElem?_getD, List.getElem?_drop, List.getElem?_take, if_pos (show sn + j < kn by omega)]) IA1 IO1 g_b25) hZ (hw _ (List.mem_of_getElem? (i := 21) rfl)) (hw _ (List.mem_of_getElem? (i := 4) rfl)) (by decide) (by decide)) q39a q39c (g := (mkF m 68 #[.val (.long i0), .second, .val (.long i1), .second, .val (.long i2), .second, .val (.int i3), .val (.int i4), .val (.int (Int32.ofNat kn)), .val (.int (Int32.ofNat sn)), .val (.ref b5), .val (.ref b25), .unset, .unset, .unset, .unset, .unset, .unset, .unset, .unset, .unset, .unset, .unset, .unset, .unset, .unset, .unset, .unset, .unset, .unset] [(.int (Int32.ofNat (sn + (([i0, i1, i2].take kn).drop sn).length))), (.int (Int32.ofNat sn)), (.ref b5), (.ref b25)])) rfl (by rw [hml]; rfl) (Steps.refl _) (argsL := [(.ref b5), (.int (Int32.ofNat sn)), (.int (Int32.ofNat (sn + (([i0, i1, i2].take kn).drop sn).length)))]) (rest := []) (lenOf pd_5 rfl) rfl (by show 2 * 0 + _ ≤ _; exact Nat.le_of_eq rfl) (hb hby at_68) (fun _ _ => ⟨rfl, rfl, (by decide : 7 + 3 ≤ _), (by decide : 507 + 384 ≤ _)⟩)
  dsimp only [Pt.U, Pt.locs, Pt.cells, Pt.slots] at X39 l39 y39 z39 st39 hQ39
  subst l39 y39 z39
  obtain ⟨rfl, Nq39, z39', IA2, mx2, IO2⟩ := hQ39
  have N39 := Fr.app N37 Nq39
  have Zc : n0 ≤ T39.heap.size := by omega
  have sg40 : ∀ t, Steps p.tables e below (T39.setTop (mkF m 73 #[.val (.long i0), .second, .val (.long i1), .second, .val (.long i2), .second, .val (.int i3), .val (.int i4), .val (.int (Int32.ofNat kn)), .val (.int (Int32.ofNat sn)), .val (.ref b5), .val (.ref b25), .unset, .unset, .unset, .unset, .unset, .unset, .unset, .unset, .unset, .unset, .unset, .unset, .unset, .unset, .unset, .unset, .unset, .unset] [(.long i0), (.long (0 : Int64))])) t → Steps p.tables e below (T39.setTop (mkF m 71 #[.val (.long i0), .second, .val (.long i1), .second, .val (.long i2), .second, .val (.int i3), .val (.int i4), .val (.int (Int32.ofNat kn)), .val (.int (Int32.ofNat sn)), .val (.ref b5), .val (.ref b25), .unset, .unset, .unset, .unset, .unset, .unset, .unset, .unset, .unset, .unset, .unset, .unset, .unset, .unset, .unset, .unset, .unset, .unset] [])) t := by
    intro t kt
    refine XS.lconst X39.here hx rfl (hb hby at_71) ?_
    show Steps p.tables e below (T39.setTop (mkF m 72 #[.val (.long i0), .second, .val (.long i1), .second, .val (.long i2), .second, .val (.int i3), .val (.int i4), .val (.int (Int32.ofNat kn)), .val (.int (Int32.ofNat sn)), .val (.ref b5), .val (.ref b25), .unset, .unset, .unset, .unset, .unset, .unset, .unset, .unset, .unset, .unset, .unset, .unset, .unset, .unset, .unset, .unset, .unset, .unset] [(.long (0 : Int64))])) _
    refine XS.lloadN X39.here hx rfl (hb hby at_72) rfl ?_
    exact kt
  obtain ⟨_, _, ⟨T41, L41, k41, n41⟩, -, X41, ⟨Lc41, hQ41, l41, y41, z41⟩, st41⟩ := Jvm.LawKit.callS X39 hx (y := (⟨"java/lang/Math", "max", "(JJ)J"⟩ : MethodName)) hown (mvT hZ (hw _ (List.mem_of_getElem? (i := 54) rfl))) (mvT hZ (hw _ (List.mem_of_getElem? (i := 29) rfl))) (mvT hZ (hw _ (List.mem_of_getElem? (i := 30) rfl))) (mvT hZ (hw _ (List.mem_of_getElem? (i := 31) rfl))) (by decide) (backOf (W := 0) (rm4 l Z a0 hw [] (0 : Int64) i0 T39.heap n0 Zc ) hZ (hw _ (List.mem_of_getElem? (i := 31) rfl)) (hw _ (List.mem_of_getElem? (i := 30) rfl)) (by decide) (by decide)) (g := (mkF m 73 #[.val (.long i0), .second, .val (.long i1), .second, .val (.long i2), .second, .val (.int i3), .val (.int i4), .val (.int (Int32.ofNat kn)), .val (.int (Int32.ofNat sn)), .val (.ref b5), .val (.ref b25), .unset, .unset, .unset, .unset, .unset, .unset, .unset, .unset, .unset, .unset, .unset, .unset, .unset, .unset, .unset, .unset, .unset, .unset] [(.long i0), (.long (0 : Int64))])) rfl (by rw [hml]; rfl) (argsL := [(.long (0 : Int64)), (.long i0)]) (rest := []) (lenOf pd_3 rfl) rfl (by show 2 * 0 + _ ≤ _; exact Nat.le_of_eq rfl) (hb hby at_73) (fun _ _ => ⟨rfl, rfl, (by decide : 10 + 0 ≤ _), (by decide : 891 + 0 ≤ _)⟩)
  dsimp only [Pt.U, Pt.locs, Pt.cells, Pt.slots] at X41 l41 y41 z41 st41 hQ41
  subst l41 y41 z41
  obtain ⟨rfl, Nq41, eq41⟩ := hQ41
  have N41 := Fr.app N39 Nq41
  have sg42 : ∀ t, Steps p.tables e below (T41.setTop (mkF m 78 #[.val (.long i0), .second, .val (.long i1), .second, .val (.long i2), .second, .val (.int i3), .val (.int i4), .val (.int (Int32.ofNat kn)), .val (.int (Int32.ofNat sn)), .val (.ref b5), .val (.ref b25), .val (.long (own_mx (0 : Int64) i0)), .second, .unset, .unset, .unset, .unset, .unset, .unset, .unset, .unset, .unset, .unset, .unset, .unset, .unset, .unset, .unset, .unset] [])) t → Steps p.tables e below (T41.setTop (mkF m 76 #[.val (.long i0), .second, .val (.long i1), .second, .val (.long i2), .second, .val (.int i3), .val (.int i4), .val (.int (Int32.ofNat kn)), .val (.int (Int32.ofNat sn)), .val (.ref b5), .val (.ref b25), .unset, .unset, .unset, .unset, .unset, .unset, .unset, .unset, .unset, .unset, .unset, .unset, .unset, .unset, .unset, .unset, .unset, .unset] [(.long (own_mx (0 : Int64) i0))])) t := by
    intro t kt
    refine XS.lstore X41.here hx rfl (hb hby at_76) rfl (l' := #[.val (.long i0), .second, .val (.long i1), .second, .val (.long i2), .second, .val (.int i3), .val (.int i4), .val (.int (Int32.ofNat kn)), .val (.int (Int32.ofNat sn)), .val (.ref b5), .val (.ref b25), .val (.long (own_mx (0 : Int64) i0)), .second, .unset, .unset, .unset, .unset, .unset, .unset, .unset, .unset, .unset, .unset, .unset, .unset, .unset, .unset, .unset, .unset]) rfl ?_
    exact kt
  have sg43 : ∀ t, Steps p.tables e below (T41.setTop (mkF m 81 #[.val (.long i0), .second, .val (.long i1), .second, .val (.long i2), .second, .val (.int i3), .val (.int i4), .val (.int (Int32.ofNat kn)), .val (.int (Int32.ofNat sn)), .val (.ref b5), .val (.ref b25), .val (.long (own_mx (0 : Int64) i0)), .second, .unset, .unset, .unset, .unset, .unset, .unset, .unset, .unset, .unset, .unset, .unset, .unset, .unset, .unset, .unset, .unset] [(.int (2 : Int32)), (.int (Int32.ofNat kn))])) t → Steps p.tables e below (T41.setTop (mkF m 78 #[.val (.long i0), .second, .val (.long i1), .second, .val (.long i2), .second, .val (.int i3), .val (.int i4), .val (.int (Int32.ofNat kn)), .val (.int (Int32.ofNat sn)), .val (.ref b5), .val (.ref b25), .val (.long (own_mx (0 : Int64) i0)), .second, .unset, .unset, .unset, .unset, .unset, .unset, .unset, .unset, .unset, .unset, .unset, .unset, .unset, .unset, .unset, .unset] [])) t := by
    intro t kt
    refine XS.iload X41.here hx rfl (hb hby at_78) rfl ?_
    show Steps p.tables e below (T41.setTop (mkF m 80 #[.val (.long i0), .second, .val (.long i1), .second, .val (.long i2), .second, .val (.int i3), .val (.int i4), .val (.int (Int32.ofNat kn)), .val (.int (Int32.ofNat sn)), .val (.ref b5), .val (.ref b25), .val (.long (own_mx (0 : Int64) i0)), .second, .unset, .unset, .unset, .unset, .unset, .unset, .unset, .unset, .unset, .unset, .unset, .unset, .unset, .unset, .unset, .unset] [(.int (Int32.ofNat kn))])) _
    refine XS.iconst X41.here hx rfl (hb hby at_80) ?_
    exact kt
  obtain ⟨T_vb, L_vb, vb, X_vb, e_vb, N_vb, h_vb, st_vb⟩ : ∃ (T_ : State) (L_ : List Loc) (vb : Int64), Stand p l e room_1 s m #[(.long i0), (.long i1), (.long i2), (.int i3), (.int i4)] below meth c T_ L_ 10 891 ∧ T_.heap = T39.heap ∧ Fr n0 L_ ∧ vb = (if 2 ≤ kn then own_mx 0 i1 else 0) ∧ ∀ t, Steps p.tables e below (T_.setTop (mkF m 95 #[.val (.long i0), .second, .val (.long i1), .second, .val (.long i2), .second, .val (.int i3), .val (.int i4), .val (.int (Int32.ofNat kn)), .val (.int (Int32.ofNat sn)), .val (.ref b5), .val (.ref b25), .val (.long (own_mx (0 : Int64) i0)), .second, .val (.long vb), .second, .unset, .unset, .unset, .unset, .unset, .unset, .unset, .unset, .unset, .unset, .unset, .unset, .unset, .unset] [])) t → Steps p.tables e below (T41.setTop (mkF m 81 #[.val (.long i0), .second, .val (.long i1), .second, .val (.long i2), .second, .val (.int i3), .val (.int i4), .val (.int (Int32.ofNat kn)), .val (.int (Int32.ofNat sn)), .val (.ref b5), .val (.ref b25), .val (.long (own_mx (0 : Int64) i0)), .second, .unset, .unset, .unset, .unset, .unset, .unset, .unset, .unset, .unset, .unset, .unset, .unset, .unset, .unset, .unset, .unset] [(.int (2 : Int32)), (.int (Int32.ofNat kn))])) t := by
    by_cases c81 : Int32.ofNat kn < (2 : Int32)
    · have qz : (2 : Int32).toInt = 2 := by decide
      have qk : ¬ 2 ≤ kn := by have := Int32.lt_iff_toInt_lt.mp c81; omega
      have vbsg44 : ∀ t, Steps p.tables e below (T41.setTop (mkF m 95 #[.val (.long i0), .second, .val (.long i1), .second, .val (.long i2), .second, .val (.int i3), .val (.int i4), .val (.int (Int32.ofNat kn)), .val (.int (Int32.ofNat sn)), .val (.ref b5), .val (.ref b25), .val (.long (own_mx (0 : Int64) i0)), .second, .val (.long (0 : Int64)), .second, .unset, .unset, .unset, .unset, .unset, .unset, .unset, .unset, .unset, .unset, .unset, .unset, .unset, .unset] [])) t → Steps p.tables e below (T41.setTop (mkF m 81 #[.val (.long i0), .second, .val (.long i1), .second, .val (.long i2), .second, .val (.int i3), .val (.int i4), .val (.int (Int32.ofNat kn)), .val (.int (Int32.ofNat sn)), .val (.ref b5), .val (.ref b25), .val (.long (own_mx (0 : Int64) i0)), .second, .unset, .unset, .unset, .unset, .unset, .unset, .unset, .unset, .unset, .unset, .unset, .unset, .unset, .unset, .unset, .unset] [(.int (2 : Int32)), (.int (Int32.ofNat kn))])) t := by
        intro t kt
        refine XS.icmpYes X41.here hx rfl (pc0 := 81) (pc' := 92) rfl (hb hby at_81) rfl (tlt (c81 : (Int32.ofNat kn) < (2 : Int32))).1 (by decide) (by decide) ?_
        show Steps p.tables e below (T41.setTop (mkF m 92 #[.val (.long i0), .second, .val (.long i1), .second, .val (.long i2), .second, .val (.int i3), .val (.int i4), .val (.int (Int32.ofNat kn)), .val (.int (Int32.ofNat sn)), .val (.ref b5), .val (.ref b25), .val (.long (own_mx (0 : Int64) i0)), .second, .unset, .unset, .unset, .unset, .unset, .unset, .unset, .unset, .unset, .unset, .unset, .unset, .unset, .unset, .unset, .unset] [])) _
        refine XS.lconst X41.here hx rfl (hb hby at_92) ?_
        show Steps p.tables e below (T41.setTop (mkF m 93 #[.val (.long i0), .second, .val (.long i1), .second, .val (.long i2), .second, .val (.int i3), .val (.int i4), .val (.int (Int32.ofNat kn)), .val (.int (Int32.ofNat sn)), .val (.ref b5), .val (.ref b25), .val (.long (own_mx (0 : Int64) i0)), .second, .unset, .unset, .unset, .unset, .unset, .unset, .unset, .unset, .unset, .unset, .unset, .unset, .unset, .unset, .unset, .unset] [(.long (0 : Int64))])) _
        refine XS.lstore X41.here hx rfl (hb hby at_93) rfl (l' := #[.val (.long i0), .second, .val (.long i1), .second, .val (.long i2), .second, .val (.int i3), .val (.int i4), .val (.int (Int32.ofNat kn)), .val (.int (Int32.ofNat sn)), .val (.ref b5), .val (.ref b25), .val (.long (own_mx (0 : Int64) i0)), .second, .val (.long (0 : Int64)), .second, .unset, .unset, .unset, .unset, .unset, .unset, .unset, .unset, .unset, .unset, .unset, .unset, .unset, .unset]) rfl ?_
        exact kt
      refine ⟨T41, _, _, X41, eq41, N41, by rw [if_neg qk], fun t kt => ?_⟩
      refine vbsg44 _ ?_
      exact kt
    · have qz : (2 : Int32).toInt = 2 := by decide
      have qk : 2 ≤ kn := by refine Nat.not_lt.mp fun q => c81 (Int32.lt_iff_toInt_lt.mpr ?_); omega
      have vbsg44 : ∀ t, Steps p.tables e below (T41.setTop (mkF m 86 #[.val (.long i0), .second, .val (.long i1), .second, .val (.long i2), .second, .val (.int i3), .val (.int i4), .val (.int (Int32.ofNat kn)), .val (.int (Int32.ofNat sn)), .val (.ref b5), .val (.ref b25), .val (.long (own_mx (0 : Int64) i0)), .second, .unset, .unset, .unset, .unset, .unset, .unset, .unset, .unset, .unset, .unset, .unset, .unset, .unset, .unset, .unset, .unset] [(.long i1), (.long (0 : Int64))])) t → Steps p.tables e below (T41.setTop (mkF m 81 #[.val (.long i0), .second, .val (.long i1), .second, .val (.long i2), .second, .val (.int i3), .val (.int i4), .val (.int (Int32.ofNat kn)), .val (.int (Int32.ofNat sn)), .val (.ref b5), .val (.ref b25), .val (.long (own_mx (0 : Int64) i0)), .second, .unset, .unset, .unset, .unset, .unset, .unset, .unset, .unset, .unset, .unset, .unset, .unset, .unset, .unset, .unset, .unset] [(.int (2 : Int32)), (.int (Int32.ofNat kn))])) t := by
        intro t kt
        refine XS.icmpNo X41.here hx rfl (hb hby at_81) rfl (flt (c81 : ¬ ((Int32.ofNat kn) < (2 : Int32)))).1 ?_
        show Steps p.tables e below (T41.setTop (mkF m 84 #[.val (.long i0), .second, .val (.long i1), .second, .val (.long i2), .second, .val (.int i3), .val (.int i4), .val (.int (Int32.ofNat kn)), .val (.int (Int32.ofNat sn)), .val (.ref b5), .val (.ref b25), .val (.long (own_mx (0 : Int64) i0)), .second, .unset, .unset, .unset, .unset, .unset, .unset, .unset, .unset, .unset, .unset, .unset, .unset, .unset, .unset, .unset, .unset] [])) _
        refine XS.lconst X41.here hx rfl (hb hby at_84) ?_
        show Steps p.tables e below (T41.setTop (mkF m 85 #[.val (.long i0), .second, .val (.long i1), .second, .val (.long i2), .second, .val (.int i3), .val (.int i4), .val (.int (Int32.ofNat kn)), .val (.int (Int32.ofNat sn)), .val (.ref b5), .val (.ref b25), .val (.long (own_mx (0 : Int64) i0)), .second, .unset, .unset, .unset, .unset, .unset, .unset, .unset, .unset, .unset, .unset, .unset, .unset, .unset, .unset, .unset, .unset] [(.long (0 : Int64))])) _
        refine XS.lloadN X41.here hx rfl (hb hby at_85) rfl ?_
        exact kt
      obtain ⟨_, _, ⟨Tvb45, Lvb45, kvb45, nvb45⟩, -, Xvb45, ⟨Lcvb45, hQvb45, lvb45, yvb45, zvb45⟩, stvb45⟩ := Jvm.LawKit.callS X41 hx (y := (⟨"java/lang/Math", "max", "(JJ)J"⟩ : MethodName)) hown (mvT hZ (hw _ (List.mem_of_getElem? (i := 54) rfl))) (mvT hZ (hw _ (List.mem_of_getElem? (i := 29) rfl))) (mvT hZ (hw _ (List.mem_of_getElem? (i := 30) rfl))) (mvT hZ (hw _ (List.mem_of_getElem? (i := 31) rfl))) (by decide) (backOf (W := 0) (rm4 l Z a0 hw [] (0 : Int64) i1 T39.heap n0 Zc ) hZ (hw _ (List.mem_of_getElem? (i := 31) rfl)) (hw _ (List.mem_of_getElem? (i := 30) rfl)) (by decide) (by decide)) (g := (mkF m 86 #[.val (.long i0), .second, .val (.long i1), .second, .val (.long i2), .second, .val (.int i3), .val (.int i4), .val (.int (Int32.ofNat kn)), .val (.int (Int32.ofNat sn)), .val (.ref b5), .val (.ref b25), .val (.long (own_mx (0 : Int64) i0)), .second, .unset, .unset, .unset, .unset, .unset, .unset, .unset, .unset, .unset, .unset, .unset, .unset, .unset, .unset, .unset, .unset] [(.long i1), (.long (0 : Int64))])) rfl (by rw [hml]; rfl) (argsL := [(.long (0 : Int64)), (.long i1)]) (rest := []) (lenOf pd_3 rfl) rfl (by show 2 * 0 + _ ≤ _; exact Nat.le_of_eq rfl) (hb hby at_86) (fun _ _ => ⟨rfl, eq41, (by decide : 10 + 0 ≤ _), (by decide : 891 + 0 ≤ _)⟩)
      dsimp only [Pt.U, Pt.locs, Pt.cells, Pt.slots] at Xvb45 lvb45 yvb45 zvb45 stvb45 hQvb45
      subst lvb45 yvb45 zvb45
      obtain ⟨rfl, Nqvb45, eqvb45⟩ := hQvb45
      have Nvb45 := Fr.app N41 Nqvb45
      have vbsg46 : ∀ t, Steps p.tables e below (Tvb45.setTop (mkF m 95 #[.val (.long i0), .second, .val (.long i1), .second, .val (.long i2), .second, .val (.int i3), .val (.int i4), .val (.int (Int32.ofNat kn)), .val (.int (Int32.ofNat sn)), .val (.ref b5), .val (.ref b25), .val (.long (own_mx (0 : Int64) i0)), .second, .val (.long (own_mx (0 : Int64) i1)), .second, .unset, .unset, .unset, .unset, .unset, .unset, .unset, .unset, .unset, .unset, .unset, .unset, .unset, .unset] [])) t → Steps p.tables e below (Tvb45.setTop (mkF m 89 #[.val (.long i0), .second, .val (.long i1), .second, .val (.long i2), .second, .val (.int i3), .val (.int i4), .val (.int (Int32.ofNat kn)), .val (.int (Int32.ofNat sn)), .val (.ref b5), .val (.ref b25), .val (.long (own_mx (0 : Int64) i0)), .second, .unset, .unset, .unset, .unset, .unset, .unset, .unset, .unset, .unset, .unset, .unset, .unset, .unset, .unset, .unset, .unset] [(.long (own_mx (0 : Int64) i1))])) t := by
        intro t kt
        refine XS.goto Xvb45.here hx rfl (pc0 := 89) (pc' := 93) rfl (hb hby at_89) (by decide) (by decide) ?_
        show Steps p.tables e below (Tvb45.setTop (mkF m 93 #[.val (.long i0), .second, .val (.long i1), .second, .val (.long i2), .second, .val (.int i3), .val (.int i4), .val (.int (Int32.ofNat kn)), .val (.int (Int32.ofNat sn)), .val (.ref b5), .val (.ref b25), .val (.long (own_mx (0 : Int64) i0)), .second, .unset, .unset, .unset, .unset, .unset, .unset, .unset, .unset, .unset, .unset, .unset, .unset, .unset, .unset, .unset, .unset] [(.long (own_mx (0 : Int64) i1))])) _
        refine XS.lstore Xvb45.here hx rfl (hb hby at_93) rfl (l' := #[.val (.long i0), .second, .val (.long i1), .second, .val (.long i2), .second, .val (.int i3), .val (.int i4), .val (.int (Int32.ofNat kn)), .val (.int (Int32.ofNat sn)), .val (.ref b5), .val (.ref b25), .val (.long (own_mx (0 : Int64) i0)), .second, .val (.long (own_mx (0 : Int64) i1)), .second, .unset, .unset, .unset, .unset, .unset, .unset, .unset, .unset, .unset, .unset, .unset, .unset, .unset, .unset]) rfl ?_
        exact kt
      refine ⟨Tvb45, _, _, Xvb45, eqvb45, Nvb45, by rw [if_pos qk], fun t kt => ?_⟩
      refine vbsg44 _ ?_
      refine stvb45 _ ?_
      refine vbsg46 _ ?_
      exact kt
  have sg44 : ∀ t, Steps p.tables e below (T_vb.setTop (mkF m 98 #[.val (.long i0), .second, .val (.long i1), .second, .val (.long i2), .second, .val (.int i3), .val (.int i4), .val (.int (Int32.ofNat kn)), .val (.int (Int32.ofNat sn)), .val (.ref b5), .val (.ref b25), .val (.long (own_mx (0 : Int64) i0)), .second, .val (.long vb), .second, .unset, .unset, .unset, .unset, .unset, .unset, .unset, .unset, .unset, .unset, .unset, .unset, .unset, .unset] [(.int (3 : Int32)), (.int (Int32.ofNat kn))])) t → Steps p.tables e below (T_vb.setTop (mkF m 95 #[.val (.long i0), .second, .val (.long i1), .second, .val (.long i2), .second, .val (.int i3), .val (.int i4), .val (.int (Int32.ofNat kn)), .val (.int (Int32.ofNat sn)), .val (.ref b5), .val (.ref b25), .val (.long (own_mx (0 : Int64) i0)), .second, .val (.long vb), .second, .unset, .unset, .unset, .unset, .unset, .unset, .unset, .unset, .unset, .unset, .unset, .unset, .unset, .unset] [])) t := by
    intro t kt
    refine XS.iload X_vb.here hx rfl (hb hby at_95) rfl ?_
    show Steps p.tables e below (T_vb.setTop (mkF m 97 #[.val (.long i0), .second, .val (.long i1), .second, .val (.long i2), .second, .val (.int i3), .val (.int i4), .val (.int (Int32.ofNat kn)), .val (.int (Int32.ofNat sn)), .val (.ref b5), .val (.ref b25), .val (.long (own_mx (0 : Int64) i0)), .second, .val (.long vb), .second, .unset, .unset, .unset, .unset, .unset, .unset, .unset, .unset, .unset, .unset, .unset, .unset, .unset, .unset] [(.int (Int32.ofNat kn))])) _
    refine XS.iconst X_vb.here hx rfl (hb hby at_97) ?_
    exact kt
  obtain ⟨T_vc, L_vc, vc, X_vc, e_vc, N_vc, h_vc, st_vc⟩ : ∃ (T_ : State) (L_ : List Loc) (vc : Int64), Stand p l e room_1 s m #[(.long i0), (.long i1), (.long i2), (.int i3), (.int i4)] below meth c T_ L_ 10 891 ∧ T_.heap = T39.heap ∧ Fr n0 L_ ∧ vc = (if 3 ≤ kn then own_mx 0 i2 else 0) ∧ ∀ t, Steps p.tables e below (T_.setTop (mkF m 113 #[.val (.long i0), .second, .val (.long i1), .second, .val (.long i2), .second, .val (.int i3), .val (.int i4), .val (.int (Int32.ofNat kn)), .val (.int (Int32.ofNat sn)), .val (.ref b5), .val (.ref b25), .val (.long (own_mx (0 : Int64) i0)), .second, .val (.long vb), .second, .val (.long vc), .second, .unset, .unset, .unset, .unset, .unset, .unset, .unset, .unset, .unset, .unset, .unset, .unset] [])) t → Steps p.tables e below (T_vb.setTop (mkF m 98 #[.val (.long i0), .second, .val (.long i1), .second, .val (.long i2), .second, .val (.int i3), .val (.int i4), .val (.int (Int32.ofNat kn)), .val (.int (Int32.ofNat sn)), .val (.ref b5), .val (.ref b25), .val (.long (own_mx (0 : Int64) i0)), .second, .val (.long vb), .second, .unset, .unset, .unset, .unset, .unset, .unset, .unset, .unset, .unset, .unset, .unset, .unset, .unset, .unset] [(.int (3 : Int32)), (.int (Int32.ofNat kn))])) t := by
    by_cases c98 : Int32.ofNat kn < (3 : Int32)
    · have qz : (3 : Int32).toInt = 3 := by decide
      have qk : ¬ 3 ≤ kn := by have := Int32.lt_iff_toInt_lt.mp c98; omega
      have vcsg45 : ∀ t, Steps p.tables e below (T_vb.setTop (mkF m 113 #[.val (.long i0), .second, .val (.long i1), .second, .val (.long i2), .second, .val (.int i3), .val (.int i4), .val (.int (Int32.ofNat kn)), .val (.int (Int32.ofNat sn)), .val (.ref b5), .val (.ref b25), .val (.long (own_mx (0 : Int64) i0)), .second, .val (.long vb), .second, .val (.long (0 : Int64)), .second, .unset, .unset, .unset, .unset, .unset, .unset, .unset, .unset, .unset, .unset, .unset, .unset] [])) t → Steps p.tables e below (T_vb.setTop (mkF m 98 #[.val (.long i0), .second, .val (.long i1), .second, .val (.long i2), .second, .val (.int i3), .val (.int i4), .val (.int (Int32.ofNat kn)), .val (.int (Int32.ofNat sn)), .val (.ref b5), .val (.ref b25), .val (.long (own_mx (0 : Int64) i0)), .second, .val (.long vb), .second, .unset, .unset, .unset, .unset, .unset, .unset, .unset, .unset, .unset, .unset, .unset, .unset, .unset, .unset] [(.int (3 : Int32)), (.int (Int32.ofNat kn))])) t := by
        intro t kt
        refine XS.icmpYes X_vb.here hx rfl (pc0 := 98) (pc' := 110) rfl (hb hby at_98) rfl (tlt (c98 : (Int32.ofNat kn) < (3 : Int32))).1 (by decide) (by decide) ?_
        show Steps p.tables e below (T_vb.setTop (mkF m 110 #[.val (.long i0), .second, .val (.long i1), .second, .val (.long i2), .second, .val (.int i3), .val (.int i4), .val (.int (Int32.ofNat kn)), .val (.int (Int32.ofNat sn)), .val (.ref b5), .val (.ref b25), .val (.long (own_mx (0 : Int64) i0)), .second, .val (.long vb), .second, .unset, .unset, .unset, .unset, .unset, .unset, .unset, .unset, .unset, .unset, .unset, .unset, .unset, .unset] [])) _
        refine XS.lconst X_vb.here hx rfl (hb hby at_110) ?_
        show Steps p.tables e below (T_vb.setTop (mkF m 111 #[.val (.long i0), .second, .val (.long i1), .second, .val (.long i2), .second, .val (.int i3), .val (.int i4), .val (.int (Int32.ofNat kn)), .val (.int (Int32.ofNat sn)), .val (.ref b5), .val (.ref b25), .val (.long (own_mx (0 : Int64) i0)), .second, .val (.long vb), .second, .unset, .unset, .unset, .unset, .unset, .unset, .unset, .unset, .unset, .unset, .unset, .unset, .unset, .unset] [(.long (0 : Int64))])) _
        refine XS.lstore X_vb.here hx rfl (hb hby at_111) rfl (l' := #[.val (.long i0), .second, .val (.long i1), .second, .val (.long i2), .second, .val (.int i3), .val (.int i4), .val (.int (Int32.ofNat kn)), .val (.int (Int32.ofNat sn)), .val (.ref b5), .val (.ref b25), .val (.long (own_mx (0 : Int64) i0)), .second, .val (.long vb), .second, .val (.long (0 : Int64)), .second, .unset, .unset, .unset, .unset, .unset, .unset, .unset, .unset, .unset, .unset, .unset, .unset]) rfl ?_
        exact kt
      refine ⟨T_vb, _, _, X_vb, e_vb, N_vb, by rw [if_neg qk], fun t kt => ?_⟩
      refine vcsg45 _ ?_
      exact kt
    · have qz : (3 : Int32).toInt = 3 := by decide
      have qk : 3 ≤ kn := by refine Nat.not_lt.mp fun q => c98 (Int32.lt_iff_toInt_lt.mpr ?_); omega
      have vcsg45 : ∀ t, Steps p.tables e below (T_vb.setTop (mkF m 104 #[.val (.long i0), .second, .val (.long i1), .second, .val (.long i2), .second, .val (.int i3), .val (.int i4), .val (.int (Int32.ofNat kn)), .val (.int (Int32.ofNat sn)), .val (.ref b5), .val (.ref b25), .val (.long (own_mx (0 : Int64) i0)), .second, .val (.long vb), .second, .unset, .unset, .unset, .unset, .unset, .unset, .unset, .unset, .unset, .unset, .unset, .unset, .unset, .unset] [(.long i2), (.long (0 : Int64))])) t → Steps p.tables e below (T_vb.setTop (mkF m 98 #[.val (.long i0), .second, .val (.long i1), .second, .val (.long i2), .second, .val (.int i3), .val (.int i4), .val (.int (Int32.ofNat kn)), .val (.int (Int32.ofNat sn)), .val (.ref b5), .val (.ref b25), .val (.long (own_mx (0 : Int64) i0)), .second, .val (.long vb), .second, .unset, .unset, .unset, .unset, .unset, .unset, .unset, .unset, .unset, .unset, .unset, .unset, .unset, .unset] [(.int (3 : Int32)), (.int (Int32.ofNat kn))])) t := by
        intro t kt
        refine XS.icmpNo X_vb.here hx rfl (hb hby at_98) rfl (flt (c98 : ¬ ((Int32.ofNat kn) < (3 : Int32)))).1 ?_
        show Steps p.tables e below (T_vb.setTop (mkF m 101 #[.val (.long i0), .second, .val (.long i1), .second, .val (.long i2), .second, .val (.int i3), .val (.int i4), .val (.int (Int32.ofNat kn)), .val (.int (Int32.ofNat sn)), .val (.ref b5), .val (.ref b25), .val (.long (own_mx (0 : Int64) i0)), .second, .val (.long vb), .second, .unset, .unset, .unset, .unset, .unset, .unset, .unset, .unset, .unset, .unset, .unset, .unset, .unset, .unset] [])) _
        refine XS.lconst X_vb.here hx rfl (hb hby at_101) ?_
        show Steps p.tables e below (T_vb.setTop (mkF m 102 #[.val (.long i0), .second, .val (.long i1), .second, .val (.long i2), .second, .val (.int i3), .val (.int i4), .val (.int (Int32.ofNat kn)), .val (.int (Int32.ofNat sn)), .val (.ref b5), .val (.ref b25), .val (.long (own_mx (0 : Int64) i0)), .second, .val (.long vb), .second, .unset, .unset, .unset, .unset, .unset, .unset, .unset, .unset, .unset, .unset, .unset, .unset, .unset, .unset] [(.long (0 : Int64))])) _
        refine XS.lload X_vb.here hx rfl (hb hby at_102) rfl ?_
        exact kt
      obtain ⟨_, _, ⟨Tvc46, Lvc46, kvc46, nvc46⟩, -, Xvc46, ⟨Lcvc46, hQvc46, lvc46, yvc46, zvc46⟩, stvc46⟩ := Jvm.LawKit.callS X_vb hx (y := (⟨"java/lang/Math", "max", "(JJ)J"⟩ : MethodName)) hown (mvT hZ (hw _ (List.mem_of_getElem? (i := 54) rfl))) (mvT hZ (hw _ (List.mem_of_getElem? (i := 29) rfl))) (mvT hZ (hw _ (List.mem_of_getElem? (i := 30) rfl))) (mvT hZ (hw _ (List.mem_of_getElem? (i := 31) rfl))) (by decide) (backOf (W := 0) (rm4 l Z a0 hw [] (0 : Int64) i2 T39.heap n0 Zc ) hZ (hw _ (List.mem_of_getElem? (i := 31) rfl)) (hw _ (List.mem_of_getElem? (i := 30) rfl)) (by decide) (by decide)) (g := (mkF m 104 #[.val (.long i0), .second, .val (.long i1), .second, .val (.long i2), .second, .val (.int i3), .val (.int i4), .val (.int (Int32.ofNat kn)), .val (.int (Int32.ofNat sn)), .val (.ref b5), .val (.ref b25), .val (.long (own_mx (0 : Int64) i0)), .second, .val (.long vb), .second, .unset, .unset, .unset, .unset, .unset, .unset, .unset, .unset, .unset, .unset, .unset, .unset, .unset, .unset] [(.long i2), (.long (0 : Int64))])) rfl (by rw [hml]; rfl) (argsL := [(.long (0 : Int64)), (.long i2)]) (rest := []) (lenOf pd_3 rfl) rfl (by show 2 * 0 + _ ≤ _; exact Nat.le_of_eq rfl) (hb hby at_104) (fun _ _ => ⟨rfl, e_vb, (by decide : 10 + 0 ≤ _), (by decide : 891 + 0 ≤ _)⟩)
      dsimp only [Pt.U, Pt.locs, Pt.cells, Pt.slots] at Xvc46 lvc46 yvc46 zvc46 stvc46 hQvc46
      subst lvc46 yvc46 zvc46
      obtain ⟨rfl, Nqvc46, eqvc46⟩ := hQvc46
      have Nvc46 := Fr.app N_vb Nqvc46
      have vcsg47 : ∀ t, Steps p.tables e below (Tvc46.setTop (mkF m 113 #[.val (.long i0), .second, .val (.long i1), .second, .val (.long i2), .second, .val (.int i3), .val (.int i4), .val (.int (Int32.ofNat kn)), .val (.int (Int32.ofNat sn)), .val (.ref b5), .val (.ref b25), .val (.long (own_mx (0 : Int64) i0)), .second, .val (.long vb), .second, .val (.long (own_mx (0 : Int64) i2)), .second, .unset, .unset, .unset, .unset, .unset, .unset, .unset, .unset, .unset, .unset, .unset, .unset] [])) t → Steps p.tables e below (Tvc46.setTop (mkF m 107 #[.val (.long i0), .second, .val (.long i1), .second, .val (.long i2), .second, .val (.int i3), .val (.int i4), .val (.int (Int32.ofNat kn)), .val (.int (Int32.ofNat sn)), .val (.ref b5), .val (.ref b25), .val (.long (own_mx (0 : Int64) i0)), .second, .val (.long vb), .second, .unset, .unset, .unset, .unset, .unset, .unset, .unset, .unset, .unset, .unset, .unset, .unset, .unset, .unset] [(.long (own_mx (0 : Int64) i2))])) t := by
        intro t kt
        refine XS.goto Xvc46.here hx rfl (pc0 := 107) (pc' := 111) rfl (hb hby at_107) (by decide) (by decide) ?_
        show Steps p.tables e below (Tvc46.setTop (mkF m 111 #[.val (.long i0), .second, .val (.long i1), .second, .val (.long i2), .second, .val (.int i3), .val (.int i4), .val (.int (Int32.ofNat kn)), .val (.int (Int32.ofNat sn)), .val (.ref b5), .val (.ref b25), .val (.long (own_mx (0 : Int64) i0)), .second, .val (.long vb), .second, .unset, .unset, .unset, .unset, .unset, .unset, .unset, .unset, .unset, .unset, .unset, .unset, .unset, .unset] [(.long (own_mx (0 : Int64) i2))])) _
        refine XS.lstore Xvc46.here hx rfl (hb hby at_111) rfl (l' := #[.val (.long i0), .second, .val (.long i1), .second, .val (.long i2), .second, .val (.int i3), .val (.int i4), .val (.int (Int32.ofNat kn)), .val (.int (Int32.ofNat sn)), .val (.ref b5), .val (.ref b25), .val (.long (own_mx (0 : Int64) i0)), .second, .val (.long vb), .second, .val (.long (own_mx (0 : Int64) i2)), .second, .unset, .unset, .unset, .unset, .unset, .unset, .unset, .unset, .unset, .unset, .unset, .unset]) rfl ?_
        exact kt
      refine ⟨Tvc46, _, _, Xvc46, eqvc46, Nvc46, by rw [if_pos qk], fun t kt => ?_⟩
      refine vcsg45 _ ?_
      refine stvc46 _ ?_
      refine vcsg47 _ ?_
      exact kt
  obtain ⟨va, hva⟩ : ∃ z, z = own_mx (0 : Int64) i0 := ⟨_, rfl⟩
  have ga : 0 ≤ (own_mx 0 i0).toInt := (own_m0 i0).1
  have gb : 0 ≤ vb.toInt := by rw [h_vb]; split; exact (own_m0 i1).1; decide
  have gc : 0 ≤ vc.toInt := by rw [h_vc]; split; exact (own_m0 i2).1; decide
  have hrun2 : own_run (own_run (0, 0) ([i0, i1, i2].take sn)) (([i0, i1, i2].take kn).drop sn) = own_run (0, 0) ([i0, i1, i2].take kn) := by
    unfold own_run
    rw [← List.foldl_append]
    congr 1
    rw [show ([i0, i1, i2].take sn) = ([i0, i1, i2].take kn).take sn by rw [List.take_take, Nat.min_eq_left hs1]]
    exact List.take_append_drop _ _
  have hv := own_run_v ([i0, i1, i2].take kn) (0, 0) (by decide) (by decide) (by simp; omega)
  have htot : own_tot ([i0, i1, i2].take kn) = (own_mx 0 i0).toInt + vb.toInt + vc.toInt := by
    rw [h_vb, h_vc, (own_m0 i0).2]
    have m1 := (own_m0 i1).2
    have m2 := (own_m0 i2).2
    have z0 : (0 : Int64).toInt = 0 := by decide
    have hk3 : kn = 1 ∨ kn = 2 ∨ kn = 3 := by omega
    rcases hk3 with rfl | rfl | rfl <;> simp [own_tot, m1, m2, z0] <;> omega
  have hsp := own_split (own_mx 0 i0) vb vc ga gb gc
  obtain ⟨rq, hrq⟩ : ∃ z, z = own_run (0, 0) ([i0, i1, i2].take kn) := ⟨_, rfl⟩
  rw [← hrq] at hv hrun2
  have z00 : (0 : Int64).toInt = 0 := by decide
  have rR := rng64 (own_R (own_mx 0 i0) vb vc)
  have rq1 := rng64 rq.1
  have eW : rq.2 = own_W (own_mx 0 i0) vb vc := Int64.toInt_inj.mp (by have h3 := hv.2.2; rw [htot] at h3; simp only [z00] at h3; omega)
  have eR : rq.1 = own_R (own_mx 0 i0) vb vc := Int64.toInt_inj.mp (by have h3 := hv.2.2; rw [htot] at h3; simp only [z00] at h3; omega)
  have eC : (((0 : Int64) + ((Int32.ofNat (0 + ([i0, i1, i2].take sn).length)) - (Int32.ofNat 0)).toInt64) + ((Int32.ofNat (sn + (([i0, i1, i2].take kn).drop sn).length)) - (Int32.ofNat sn)).toInt64) = (Int32.ofNat kn).toInt64 := by
    rw [len1, len2]
    have hz : ∀ a : Nat, a ≤ 3 → (Int32.ofNat a).toInt = a := fun a ha => own_ofNat (by omega)
    have p0 := hz (0 + sn) (by omega)
    have p1 := hz sn (by omega)
    have p2 := hz (sn + (kn - sn)) (by omega)
    have p3 := hz 0 (by omega)
    have s1 := c_isub (Int32.ofNat (0 + sn)) (Int32.ofNat 0)
    have s2 := c_isub (Int32.ofNat (sn + (kn - sn))) (Int32.ofNat sn)
    have t1 := rng32 (Int32.ofNat (0 + sn) - Int32.ofNat 0)
    have t2 := rng32 (Int32.ofNat (sn + (kn - sn)) - Int32.ofNat sn)
    apply Int64.toInt_inj.mp
    have u1 := c_ladd (0 : Int64) ((Int32.ofNat (0 + sn) - Int32.ofNat 0).toInt64)
    have u2 := c_ladd ((0 : Int64) + (Int32.ofNat (0 + sn) - Int32.ofNat 0).toInt64) ((Int32.ofNat (sn + (kn - sn)) - Int32.ofNat sn).toInt64)
    have v1 := rng64 ((0 : Int64) + (Int32.ofNat (0 + sn) - Int32.ofNat 0).toInt64)
    have v2 := rng64 ((0 : Int64) + (Int32.ofNat (0 + sn) - Int32.ofNat 0).toInt64 + (Int32.ofNat (sn + (kn - sn)) - Int32.ofNat sn).toInt64)
    rw [c_i2l] at u1 u2
    rw [c_i2l]
    omega
  have hIO : own_obj Z T39.heap b25 B D (own_R (own_mx 0 i0) vb vc) (own_W (own_mx 0 i0) vb vc) mx2 (Int32.ofNat kn).toInt64 := by
    have q := IO2
    rw [show (own_run ((own_run (0, 0) ([i0, i1, i2].take sn)).1, (own_run (0, 0) ([i0, i1, i2].take sn)).2) (([i0, i1, i2].take kn).drop sn)) = rq from hrun2, eW, eR, eC] at q
    exact q
  have hkz64 : (Int32.ofNat kn).toInt64 ≠ 0 := by
    intro q
    have h1 := c_i2l (Int32.ofNat kn)
    rw [q] at h1
    have z0 : (0 : Int64).toInt = 0 := by decide
    omega
  have sg45 : ∀ t, Steps p.tables e below (T_vc.setTop (mkF m 164 #[.val (.long i0), .second, .val (.long i1), .second, .val (.long i2), .second, .val (.int i3), .val (.int i4), .val (.int (Int32.ofNat kn)), .val (.int (Int32.ofNat sn)), .val (.ref b5), .val (.ref b25), .val (.long (own_mx (0 : Int64) i0)), .second, .val (.long vb), .second, .val (.long vc), .second, .val (.long (((((own_mx (0 : Int64) i0).toUInt64 >>> ((32 : Int32) &&& 0x3f).toInt64.toUInt64).toInt64) + ((vb.toUInt64 >>> ((32 : Int32) &&& 0x3f).toInt64.toUInt64).toInt64)) + ((vc.toUInt64 >>> ((32 : Int32) &&& 0x3f).toInt64.toUInt64).toInt64))), .second, .val (.long ((((own_mx (0 : Int64) i0) &&& (4294967295 : Int64)) + (vb &&& (4294967295 : Int64))) + (vc &&& (4294967295 : Int64)))), .second, .val (.long ((((((own_mx (0 : Int64) i0).toUInt64 >>> ((32 : Int32) &&& 0x3f).toInt64.toUInt64).toInt64) + ((vb.toUInt64 >>> ((32 : Int32) &&& 0x3f).toInt64.toUInt64).toInt64)) + ((vc.toUInt64 >>> ((32 : Int32) &&& 0x3f).toInt64.toUInt64).toInt64)) + ((((((own_mx (0 : Int64) i0) &&& (4294967295 : Int64)) + (vb &&& (4294967295 : Int64))) + (vc &&& (4294967295 : Int64))).toUInt64 >>> ((32 : Int32) &&& 0x3f).toInt64.toUInt64).toInt64))), .second, .unset, .unset, .unset, .unset, .unset, .unset] [])) t → Steps p.tables e below (T_vc.setTop (mkF m 113 #[.val (.long i0), .second, .val (.long i1), .second, .val (.long i2), .second, .val (.int i3), .val (.int i4), .val (.int (Int32.ofNat kn)), .val (.int (Int32.ofNat sn)), .val (.ref b5), .val (.ref b25), .val (.long (own_mx (0 : Int64) i0)), .second, .val (.long vb), .second, .val (.long vc), .second, .unset, .unset, .unset, .unset, .unset, .unset, .unset, .unset, .unset, .unset, .unset, .unset] [])) t := by
    intro t kt
    refine XS.lload X_vc.here hx rfl (hb hby at_113) rfl ?_
    show Steps p.tables e below (T_vc.setTop (mkF m 115 #[.val (.long i0), .second, .val (.long i1), .second, .val (.long i2), .second, .val (.int i3), .val (.int i4), .val (.int (Int32.ofNat kn)), .val (.int (Int32.ofNat sn)), .val (.ref b5), .val (.ref b25), .val (.long (own_mx (0 : Int64) i0)), .second, .val (.long vb), .second, .val (.long vc), .second, .unset, .unset, .unset, .unset, .unset, .unset, .unset, .unset, .unset, .unset, .unset, .unset] [(.long (own_mx (0 : Int64) i0))])) _
    refine XS.bipush X_vc.here hx rfl (hb hby at_115) ?_
    show Steps p.tables e below (T_vc.setTop (mkF m 117 #[.val (.long i0), .second, .val (.long i1), .second, .val (.long i2), .second, .val (.int i3), .val (.int i4), .val (.int (Int32.ofNat kn)), .val (.int (Int32.ofNat sn)), .val (.ref b5), .val (.ref b25), .val (.long (own_mx (0 : Int64) i0)), .second, .val (.long vb), .second, .val (.long vc), .second, .unset, .unset, .unset, .unset, .unset, .unset, .unset, .unset, .unset, .unset, .unset, .unset] [(.int (32 : Int32)), (.long (own_mx (0 : Int64) i0))])) _
    refine XS.lushr X_vc.here hx rfl (hb hby at_117) rfl ?_
    show Steps p.tables e below (T_vc.setTop (mkF m 118 #[.val (.long i0), .second, .val (.long i1), .second, .val (.long i2), .second, .val (.int i3), .val (.int i4), .val (.int (Int32.ofNat kn)), .val (.int (Int32.ofNat sn)), .val (.ref b5), .val (.ref b25), .val (.long (own_mx (0 : Int64) i0)), .second, .val (.long vb), .second, .val (.long vc), .second, .unset, .unset, .unset, .unset, .unset, .unset, .unset, .unset, .unset, .unset, .unset, .unset] [(.long (((own_mx (0 : Int64) i0).toUInt64 >>> ((32 : Int32) &&& 0x3f).toInt64.toUInt64).toInt64))])) _
    refine XS.lload X_vc.here hx rfl (hb hby at_118) rfl ?_
    show Steps p.tables e below (T_vc.setTop (mkF m 120 #[.val (.long i0), .second, .val (.long i1), .second, .val (.long i2), .second, .val (.int i3), .val (.int i4), .val (.int (Int32.ofNat kn)), .val (.int (Int32.ofNat sn)), .val (.ref b5), .val (.ref b25), .val (.long (own_mx (0 : Int64) i0)), .second, .val (.long vb), .second, .val (.long vc), .second, .unset, .unset, .unset, .unset, .unset, .unset, .unset, .unset, .unset, .unset, .unset, .unset] [(.long vb), (.long (((own_mx (0 : Int64) i0).toUInt64 >>> ((32 : Int32) &&& 0x3f).toInt64.toUInt64).toInt64))])) _
    refine XS.bipush X_vc.here hx rfl (hb hby at_120) ?_
    show Steps p.tables e below (T_vc.setTop (mkF m 122 #[.val (.long i0), .second, .val (.long i1), .second, .val (.long i2), .second, .val (.int i3), .val (.int i4), .val (.int (Int32.ofNat kn)), .val (.int (Int32.ofNat sn)), .val (.ref b5), .val (.ref b25), .val (.long (own_mx (0 : Int64) i0)), .second, .val (.long vb), .second, .val (.long vc), .second, .unset, .unset, .unset, .unset, .unset, .unset, .unset, .unset, .unset, .unset, .unset, .unset] [(.int (32 : Int32)), (.long vb), (.long (((own_mx (0 : Int64) i0).toUInt64 >>> ((32 : Int32) &&& 0x3f).toInt64.toUInt64).toInt64))])) _
    refine XS.lushr X_vc.here hx rfl (hb hby at_122) rfl ?_
    show Steps p.tables e below (T_vc.setTop (mkF m 123 #[.val (.long i0), .second, .val (.long i1), .second, .val (.long i2), .second, .val (.int i3), .val (.int i4), .val (.int (Int32.ofNat kn)), .val (.int (Int32.ofNat sn)), .val (.ref b5), .val (.ref b25), .val (.long (own_mx (0 : Int64) i0)), .second, .val (.long vb), .second, .val (.long vc), .second, .unset, .unset, .unset, .unset, .unset, .unset, .unset, .unset, .unset, .unset, .unset, .unset] [(.long ((vb.toUInt64 >>> ((32 : Int32) &&& 0x3f).toInt64.toUInt64).toInt64)), (.long (((own_mx (0 : Int64) i0).toUInt64 >>> ((32 : Int32) &&& 0x3f).toInt64.toUInt64).toInt64))])) _
    refine XS.ladd X_vc.here hx rfl (hb hby at_123) rfl ?_
    show Steps p.tables e below (T_vc.setTop (mkF m 124 #[.val (.long i0), .second, .val (.long i1), .second, .val (.long i2), .second, .val (.int i3), .val (.int i4), .val (.int (Int32.ofNat kn)), .val (.int (Int32.ofNat sn)), .val (.ref b5), .val (.ref b25), .val (.long (own_mx (0 : Int64) i0)), .second, .val (.long vb), .second, .val (.long vc), .second, .unset, .unset, .unset, .unset, .unset, .unset, .unset, .unset, .unset, .unset, .unset, .unset] [(.long ((((own_mx (0 : Int64) i0).toUInt64 >>> ((32 : Int32) &&& 0x3f).toInt64.toUInt64).toInt64) + ((vb.toUInt64 >>> ((32 : Int32) &&& 0x3f).toInt64.toUInt64).toInt64)))])) _
    refine XS.lload X_vc.here hx rfl (hb hby at_124) rfl ?_
    show Steps p.tables e below (T_vc.setTop (mkF m 126 #[.val (.long i0), .second, .val (.long i1), .second, .val (.long i2), .second, .val (.int i3), .val (.int i4), .val (.int (Int32.ofNat kn)), .val (.int (Int32.ofNat sn)), .val (.ref b5), .val (.ref b25), .val (.long (own_mx (0 : Int64) i0)), .second, .val (.long vb), .second, .val (.long vc), .second, .unset, .unset, .unset, .unset, .unset, .unset, .unset, .unset, .unset, .unset, .unset, .unset] [(.long vc), (.long ((((own_mx (0 : Int64) i0).toUInt64 >>> ((32 : Int32) &&& 0x3f).toInt64.toUInt64).toInt64) + ((vb.toUInt64 >>> ((32 : Int32) &&& 0x3f).toInt64.toUInt64).toInt64)))])) _
    refine XS.bipush X_vc.here hx rfl (hb hby at_126) ?_
    show Steps p.tables e below (T_vc.setTop (mkF m 128 #[.val (.long i0), .second, .val (.long i1), .second, .val (.long i2), .second, .val (.int i3), .val (.int i4), .val (.int (Int32.ofNat kn)), .val (.int (Int32.ofNat sn)), .val (.ref b5), .val (.ref b25), .val (.long (own_mx (0 : Int64) i0)), .second, .val (.long vb), .second, .val (.long vc), .second, .unset, .unset, .unset, .unset, .unset, .unset, .unset, .unset, .unset, .unset, .unset, .unset] [(.int (32 : Int32)), (.long vc), (.long ((((own_mx (0 : Int64) i0).toUInt64 >>> ((32 : Int32) &&& 0x3f).toInt64.toUInt64).toInt64) + ((vb.toUInt64 >>> ((32 : Int32) &&& 0x3f).toInt64.toUInt64).toInt64)))])) _
    refine XS.lushr X_vc.here hx rfl (hb hby at_128) rfl ?_
    show Steps p.tables e below (T_vc.setTop (mkF m 129 #[.val (.long i0), .second, .val (.long i1), .second, .val (.long i2), .second, .val (.int i3), .val (.int i4), .val (.int (Int32.ofNat kn)), .val (.int (Int32.ofNat sn)), .val (.ref b5), .val (.ref b25), .val (.long (own_mx (0 : Int64) i0)), .second, .val (.long vb), .second, .val (.long vc), .second, .unset, .unset, .unset, .unset, .unset, .unset, .unset, .unset, .unset, .unset, .unset, .unset] [(.long ((vc.toUInt64 >>> ((32 : Int32) &&& 0x3f).toInt64.toUInt64).toInt64)), (.long ((((own_mx (0 : Int64) i0).toUInt64 >>> ((32 : Int32) &&& 0x3f).toInt64.toUInt64).toInt64) + ((vb.toUInt64 >>> ((32 : Int32) &&& 0x3f).toInt64.toUInt64).toInt64)))])) _
    refine XS.ladd X_vc.here hx rfl (hb hby at_129) rfl ?_
    show Steps p.tables e below (T_vc.setTop (mkF m 130 #[.val (.long i0), .second, .val (.long i1), .second, .val (.long i2), .second, .val (.int i3), .val (.int i4), .val (.int (Int32.ofNat kn)), .val (.int (Int32.ofNat sn)), .val (.ref b5), .val (.ref b25), .val (.long (own_mx (0 : Int64) i0)), .second, .val (.long vb), .second, .val (.long vc), .second, .unset, .unset, .unset, .unset, .unset, .unset, .unset, .unset, .unset, .unset, .unset, .unset] [(.long (((((own_mx (0 : Int64) i0).toUInt64 >>> ((32 : Int32) &&& 0x3f).toInt64.toUInt64).toInt64) + ((vb.toUInt64 >>> ((32 : Int32) &&& 0x3f).toInt64.toUInt64).toInt64)) + ((vc.toUInt64 >>> ((32 : Int32) &&& 0x3f).toInt64.toUInt64).toInt64)))])) _
    refine XS.lstore X_vc.here hx rfl (hb hby at_130) rfl (l' := #[.val (.long i0), .second, .val (.long i1), .second, .val (.long i2), .second, .val (.int i3), .val (.int i4), .val (.int (Int32.ofNat kn)), .val (.int (Int32.ofNat sn)), .val (.ref b5), .val (.ref b25), .val (.long (own_mx (0 : Int64) i0)), .second, .val (.long vb), .second, .val (.long vc), .second, .val (.long (((((own_mx (0 : Int64) i0).toUInt64 >>> ((32 : Int32) &&& 0x3f).toInt64.toUInt64).toInt64) + ((vb.toUInt64 >>> ((32 : Int32) &&& 0x3f).toInt64.toUInt64).toInt64)) + ((vc.toUInt64 >>> ((32 : Int32) &&& 0x3f).toInt64.toUInt64).toInt64))), .second, .unset, .unset, .unset, .unset, .unset, .unset, .unset, .unset, .unset, .unset]) rfl ?_
    show Steps p.tables e below (T_vc.setTop (mkF m 132 #[.val (.long i0), .second, .val (.long i1), .second, .val (.long i2), .second, .val (.int i3), .val (.int i4), .val (.int (Int32.ofNat kn)), .val (.int (Int32.ofNat sn)), .val (.ref b5), .val (.ref b25), .val (.long (own_mx (0 : Int64) i0)), .second, .val (.long vb), .second, .val (.long vc), .second, .val (.long (((((own_mx (0 : Int64) i0).toUInt64 >>> ((32 : Int32) &&& 0x3f).toInt64.toUInt64).toInt64) + ((vb.toUInt64 >>> ((32 : Int32) &&& 0x3f).toInt64.toUInt64).toInt64)) + ((vc.toUInt64 >>> ((32 : Int32) &&& 0x3f).toInt64.toUInt64).toInt64))), .second, .unset, .unset, .unset, .unset, .unset, .unset, .unset, .unset, .unset, .unset] [])) _
    refine XS.lload X_vc.here hx rfl (hb hby at_132) rfl ?_
    show Steps p.tables e below (T_vc.setTop (mkF m 134 #[.val (.long i0), .second, .val (.long i1), .second, .val (.long i2), .second, .val (.int i3), .val (.int i4), .val (.int (Int32.ofNat kn)), .val (.int (Int32.ofNat sn)), .val (.ref b5), .val (.ref b25), .val (.long (own_mx (0 : Int64) i0)), .second, .val (.long vb), .second, .val (.long vc), .second, .val (.long (((((own_mx (0 : Int64) i0).toUInt64 >>> ((32 : Int32) &&& 0x3f).toInt64.toUInt64).toInt64) + ((vb.toUInt64 >>> ((32 : Int32) &&& 0x3f).toInt64.toUInt64).toInt64)) + ((vc.toUInt64 >>> ((32 : Int32) &&& 0x3f).toInt64.toUInt64).toInt64))), .second, .unset, .unset, .unset, .unset, .unset, .unset, .unset, .unset, .unset, .unset] [(.long (own_mx (0 : Int64) i0))])) _
    refine X_vc.ldc2Long hx hown (mvT hZ (hw _ (List.mem_of_getElem? (i := 55) rfl))) (g := (mkF m 134 #[.val (.long i0), .second, .val (.long i1), .second, .val (.long i2), .second, .val (.int i3), .val (.int i4), .val (.int (Int32.ofNat kn)), .val (.int (Int32.ofNat sn)), .val (.ref b5), .val (.ref b25), .val (.long (own_mx (0 : Int64) i0)), .second, .val (.long vb), .second, .val (.long vc), .second, .val (.long (((((own_mx (0 : Int64) i0).toUInt64 >>> ((32 : Int32) &&& 0x3f).toInt64.toUInt64).toInt64) + ((vb.toUInt64 >>> ((32 : Int32) &&& 0x3f).toInt64.toUInt64).toInt64)) + ((vc.toUInt64 >>> ((32 : Int32) &&& 0x3f).toInt64.toUInt64).toInt64))), .second, .unset, .unset, .unset, .unset, .unset, .unset, .unset, .unset, .unset, .unset] [(.long (own_mx (0 : Int64) i0))])) rfl (hb hby at_134) _ ?_
    show Steps p.tables e below (T_vc.setTop (mkF m 137 #[.val (.long i0), .second, .val (.long i1), .second, .val (.long i2), .second, .val (.int i3), .val (.int i4), .val (.int (Int32.ofNat kn)), .val (.int (Int32.ofNat sn)), .val (.ref b5), .val (.ref b25), .val (.long (own_mx (0 : Int64) i0)), .second, .val (.long vb), .second, .val (.long vc), .second, .val (.long (((((own_mx (0 : Int64) i0).toUInt64 >>> ((32 : Int32) &&& 0x3f).toInt64.toUInt64).toInt64) + ((vb.toUInt64 >>> ((32 : Int32) &&& 0x3f).toInt64.toUInt64).toInt64)) + ((vc.toUInt64 >>> ((32 : Int32) &&& 0x3f).toInt64.toUInt64).toInt64))), .second, .unset, .unset, .unset, .unset, .unset, .unset, .unset, .unset, .unset, .unset] [(.long (4294967295 : Int64)), (.long (own_mx (0 : Int64) i0))])) _
    refine XS.land X_vc.here hx rfl (hb hby at_137) rfl ?_
    show Steps p.tables e below (T_vc.setTop (mkF m 138 #[.val (.long i0), .second, .val (.long i1), .second, .val (.long i2), .second, .val (.int i3), .val (.int i4), .val (.int (Int32.ofNat kn)), .val (.int (Int32.ofNat sn)), .val (.ref b5), .val (.ref b25), .val (.long (own_mx (0 : Int64) i0)), .second, .val (.long vb), .second, .val (.long vc), .second, .val (.long (((((own_mx (0 : Int64) i0).toUInt64 >>> ((32 : Int32) &&& 0x3f).toInt64.toUInt64).toInt64) + ((vb.toUInt64 >>> ((32 : Int32) &&& 0x3f).toInt64.toUInt64).toInt64)) + ((vc.toUInt64 >>> ((32 : Int32) &&& 0x3f).toInt64.toUInt64).toInt64))), .second, .unset, .unset, .unset, .unset, .unset, .unset, .unset, .unset, .unset, .unset] [(.long ((own_mx (0 : Int64) i0) &&& (4294967295 : Int64)))])) _
    refine XS.lload X_vc.here hx rfl (hb hby at_138) rfl ?_
    show Steps p.tables e below (T_vc.setTop (mkF m 140 #[.val (.long i0), .second, .val (.long i1), .second, .val (.long i2), .second, .val (.int i3), .val (.int i4), .val (.int (Int32.ofNat kn)), .val (.int (Int32.ofNat sn)), .val (.ref b5), .val (.ref b25), .val (.long (own_mx (0 : Int64) i0)), .second, .val (.long vb), .second, .val (.long vc), .second, .val (.long (((((own_mx (0 : Int64) i0).toUInt64 >>> ((32 : Int32) &&& 0x3f).toInt64.toUInt64).toInt64) + ((vb.toUInt64 >>> ((32 : Int32) &&& 0x3f).toInt64.toUInt64).toInt64)) + ((vc.toUInt64 >>> ((32 : Int32) &&& 0x3f).toInt64.toUInt64).toInt64))), .second, .unset, .unset, .unset, .unset, .unset, .unset, .unset, .unset, .unset, .unset] [(.long vb), (.long ((own_mx (0 : Int64) i0) &&& (4294967295 : Int64)))])) _
    refine X_vc.ldc2Long hx hown (mvT hZ (hw _ (List.mem_of_getElem? (i := 55) rfl))) (g := (mkF m 140 #[.val (.long i0), .second, .val (.long i1), .second, .val (.long i2), .second, .val (.int i3), .val (.int i4), .val (.int (Int32.ofNat kn)), .val (.int (Int32.ofNat sn)), .val (.ref b5), .val (.ref b25), .val (.long (own_mx (0 : Int64) i0)), .second, .val (.long vb), .second, .val (.long vc), .second, .val (.long (((((own_mx (0 : Int64) i0).toUInt64 >>> ((32 : Int32) &&& 0x3f).toInt64.toUInt64).toInt64) + ((vb.toUInt64 >>> ((32 : Int32) &&& 0x3f).toInt64.toUInt64).toInt64)) + ((vc.toUInt64 >>> ((32 : Int32) &&& 0x3f).toInt64.toUInt64).toInt64))), .second, .unset, .unset, .unset, .unset, .unset, .unset, .unset, .unset, .unset, .unset] [(.long vb), (.long ((own_mx (0 : Int64) i0) &&& (4294967295 : Int64)))])) rfl (hb hby at_140) _ ?_
    show Steps p.tables e below (T_vc.setTop (mkF m 143 #[.val (.long i0), .second, .val (.long i1), .second, .val (.long i2), .second, .val (.int i3), .val (.int i4), .val (.int (Int32.ofNat kn)), .val (.int (Int32.ofNat sn)), .val (.ref b5), .val (.ref b25), .val (.long (own_mx (0 : Int64) i0)), .second, .val (.long vb), .second, .val (.long vc), .second, .val (.long (((((own_mx (0 : Int64) i0).toUInt64 >>> ((32 : Int32) &&& 0x3f).toInt64.toUInt64).toInt64) + ((vb.toUInt64 >>> ((32 : Int32) &&& 0x3f).toInt64.toUInt64).toInt64)) + ((vc.toUInt64 >>> ((32 : Int32) &&& 0x3f).toInt64.toUInt64).toInt64))), .second, .unset, .unset, .unset, .unset, .unset, .unset, .unset, .unset, .unset, .unset] [(.long (4294967295 : Int64)), (.long vb), (.long ((own_mx (0 : Int64) i0) &&& (4294967295 : Int64)))])) _
    refine XS.land X_vc.here hx rfl (hb hby at_143) rfl ?_
    show Steps p.tables e below (T_vc.setTop (mkF m 144 #[.val (.long i0), .second, .val (.long i1), .second, .val (.long i2), .second, .val (.int i3), .val (.int i4), .val (.int (Int32.ofNat kn)), .val (.int (Int32.ofNat sn)), .val (.ref b5), .val (.ref b25), .val (.long (own_mx (0 : Int64) i0)), .second, .val (.long vb), .second, .val (.long vc), .second, .val (.long (((((own_mx (0 : Int64) i0).toUInt64 >>> ((32 : Int32) &&& 0x3f).toInt64.toUInt64).toInt64) + ((vb.toUInt64 >>> ((32 : Int32) &&& 0x3f).toInt64.toUInt64).toInt64)) + ((vc.toUInt64 >>> ((32 : Int32) &&& 0x3f).toInt64.toUInt64).toInt64))), .second, .unset, .unset, .unset, .unset, .unset, .unset, .unset, .unset, .unset, .unset] [(.long (vb &&& (4294967295 : Int64))), (.long ((own_mx (0 : Int64) i0) &&& (4294967295 : Int64)))])) _
    refine XS.ladd X_vc.here hx rfl (hb hby at_144) rfl ?_
    show Steps p.tables e below (T_vc.setTop (mkF m 145 #[.val (.long i0), .second, .val (.long i1), .second, .val (.long i2), .second, .val (.int i3), .val (.int i4), .val (.int (Int32.ofNat kn)), .val (.int (Int32.ofNat sn)), .val (.ref b5), .val (.ref b25), .val (.long (own_mx (0 : Int64) i0)), .second, .val (.long vb), .second, .val (.long vc), .second, .val (.long (((((own_mx (0 : Int64) i0).toUInt64 >>> ((32 : Int32) &&& 0x3f).toInt64.toUInt64).toInt64) + ((vb.toUInt64 >>> ((32 : Int32) &&& 0x3f).toInt64.toUInt64).toInt64)) + ((vc.toUInt64 >>> ((32 : Int32) &&& 0x3f).toInt64.toUInt64).toInt64))), .second, .unset, .unset, .unset, .unset, .unset, .unset, .unset, .unset, .unset, .unset] [(.long (((own_mx (0 : Int64) i0) &&& (4294967295 : Int64)) + (vb &&& (4294967295 : Int64))))])) _
    refine XS.lload X_vc.here hx rfl (hb hby at_145) rfl ?_
    show Steps p.tables e below (T_vc.setTop (mkF m 147 #[.val (.long i0), .second, .val (.long i1), .second, .val (.long i2), .second, .val (.int i3), .val (.int i4), .val (.int (Int32.ofNat kn)), .val (.int (Int32.ofNat sn)), .val (.ref b5), .val (.ref b25), .val (.long (own_mx (0 : Int64) i0)), .second, .val (.long vb), .second, .val (.long vc), .second, .val (.long (((((own_mx (0 : Int64) i0).toUInt64 >>> ((32 : Int32) &&& 0x3f).toInt64.toUInt64).toInt64) + ((vb.toUInt64 >>> ((32 : Int32) &&& 0x3f).toInt64.toUInt64).toInt64)) + ((vc.toUInt64 >>> ((32 : Int32) &&& 0x3f).toInt64.toUInt64).toInt64))), .second, .unset, .unset, .unset, .unset, .unset, .unset, .unset, .unset, .unset, .unset] [(.long vc), (.long (((own_mx (0 : Int64) i0) &&& (4294967295 : Int64)) + (vb &&& (4294967295 : Int64))))])) _
    refine X_vc.ldc2Long hx hown (mvT hZ (hw _ (List.mem_of_getElem? (i := 55) rfl))) (g := (mkF m 147 #[.val (.long i0), .second, .val (.long i1), .second, .val (.long i2), .second, .val (.int i3), .val (.int i4), .val (.int (Int32.ofNat kn)), .val (.int (Int32.ofNat sn)), .val (.ref b5), .val (.ref b25), .val (.long (own_mx (0 : Int64) i0)), .second, .val (.long vb), .second, .val (.long vc), .second, .val (.long (((((own_mx (0 : Int64) i0).toUInt64 >>> ((32 : Int32) &&& 0x3f).toInt64.toUInt64).toInt64) + ((vb.toUInt64 >>> ((32 : Int32) &&& 0x3f).toInt64.toUInt64).toInt64)) + ((vc.toUInt64 >>> ((32 : Int32) &&& 0x3f).toInt64.toUInt64).toInt64))), .second, .unset, .unset, .unset, .unset, .unset, .unset, .unset, .unset, .unset, .unset] [(.long vc), (.long (((own_mx (0 : Int64) i0) &&& (4294967295 : Int64)) + (vb &&& (4294967295 : Int64))))])) rfl (hb hby at_147) _ ?_
    show Steps p.tables e below (T_vc.setTop (mkF m 150 #[.val (.long i0), .second, .val (.long i1), .second, .val (.long i2), .second, .val (.int i3), .val (.int i4), .val (.int (Int32.ofNat kn)), .val (.int (Int32.ofNat sn)), .val (.ref b5), .val (.ref b25), .val (.long (own_mx (0 : Int64) i0)), .second, .val (.long vb), .second, .val (.long vc), .second, .val (.long (((((own_mx (0 : Int64) i0).toUInt64 >>> ((32 : Int32) &&& 0x3f).toInt64.toUInt64).toInt64) + ((vb.toUInt64 >>> ((32 : Int32) &&& 0x3f).toInt64.toUInt64).toInt64)) + ((vc.toUInt64 >>> ((32 : Int32) &&& 0x3f).toInt64.toUInt64).toInt64))), .second, .unset, .unset, .unset, .unset, .unset, .unset, .unset, .unset, .unset, .unset] [(.long (4294967295 : Int64)), (.long vc), (.long (((own_mx (0 : Int64) i0) &&& (4294967295 : Int64)) + (vb &&& (4294967295 : Int64))))])) _
    refine XS.land X_vc.here hx rfl (hb hby at_150) rfl ?_
    show Steps p.tables e below (T_vc.setTop (mkF m 151 #[.val (.long i0), .second, .val (.long i1), .second, .val (.long i2), .second, .val (.int i3), .val (.int i4), .val (.int (Int32.ofNat kn)), .val (.int (Int32.ofNat sn)), .val (.ref b5), .val (.ref b25), .val (.long (own_mx (0 : Int64) i0)), .second, .val (.long vb), .second, .val (.long vc), .second, .val (.long (((((own_mx (0 : Int64) i0).toUInt64 >>> ((32 : Int32) &&& 0x3f).toInt64.toUInt64).toInt64) + ((vb.toUInt64 >>> ((32 : Int32) &&& 0x3f).toInt64.toUInt64).toInt64)) + ((vc.toUInt64 >>> ((32 : Int32) &&& 0x3f).toInt64.toUInt64).toInt64))), .second, .unset, .unset, .unset, .unset, .unset, .unset, .unset, .unset, .unset, .unset] [(.long (vc &&& (4294967295 : Int64))), (.long (((own_mx (0 : Int64) i0) &&& (4294967295 : Int64)) + (vb &&& (4294967295 : Int64))))])) _
    refine XS.ladd X_vc.here hx rfl (hb hby at_151) rfl ?_
    show Steps p.tables e below (T_vc.setTop (mkF m 152 #[.val (.long i0), .second, .val (.long i1), .second, .val (.long i2), .second, .val (.int i3), .val (.int i4), .val (.int (Int32.ofNat kn)), .val (.int (Int32.ofNat sn)), .val (.ref b5), .val (.ref b25), .val (.long (own_mx (0 : Int64) i0)), .second, .val (.long vb), .second, .val (.long vc), .second, .val (.long (((((own_mx (0 : Int64) i0).toUInt64 >>> ((32 : Int32) &&& 0x3f).toInt64.toUInt64).toInt64) + ((vb.toUInt64 >>> ((32 : Int32) &&& 0x3f).toInt64.toUInt64).toInt64)) + ((vc.toUInt64 >>> ((32 : Int32) &&& 0x3f).toInt64.toUInt64).toInt64))), .second, .unset, .unset, .unset, .unset, .unset, .unset, .unset, .unset, .unset, .unset] [(.long ((((own_mx (0 : Int64) i0) &&& (4294967295 : Int64)) + (vb &&& (4294967295 : Int64))) + (vc &&& (4294967295 : Int64))))])) _
    refine XS.lstore X_vc.here hx rfl (hb hby at_152) rfl (l' := #[.val (.long i0), .second, .val (.long i1), .second, .val (.long i2), .second, .val (.int i3), .val (.int i4), .val (.int (Int32.ofNat kn)), .val (.int (Int32.ofNat sn)), .val (.ref b5), .val (.ref b25), .val (.long (own_mx (0 : Int64) i0)), .second, .val (.long vb), .second, .val (.long vc), .second, .val (.long (((((own_mx (0 : Int64) i0).toUInt64 >>> ((32 : Int32) &&& 0x3f).toInt64.toUInt64).toInt64) + ((vb.toUInt64 >>> ((32 : Int32) &&& 0x3f).toInt64.toUInt64).toInt64)) + ((vc.toUInt64 >>> ((32 : Int32) &&& 0x3f).toInt64.toUInt64).toInt64))), .second, .val (.long ((((own_mx (0 : Int64) i0) &&& (4294967295 : Int64)) + (vb &&& (4294967295 : Int64))) + (vc &&& (4294967295 : Int64)))), .second, .unset, .unset, .unset, .unset, .unset, .unset, .unset, .unset]) rfl ?_
    show Steps p.tables e below (T_vc.setTop (mkF m 154 #[.val (.long i0), .second, .val (.long i1), .second, .val (.long i2), .second, .val (.int i3), .val (.int i4), .val (.int (Int32.ofNat kn)), .val (.int (Int32.ofNat sn)), .val (.ref b5), .val (.ref b25), .val (.long (own_mx (0 : Int64) i0)), .second, .val (.long vb), .second, .val (.long vc), .second, .val (.long (((((own_mx (0 : Int64) i0).toUInt64 >>> ((32 : Int32) &&& 0x3f).toInt64.toUInt64).toInt64) + ((vb.toUInt64 >>> ((32 : Int32) &&& 0x3f).toInt64.toUInt64).toInt64)) + ((vc.toUInt64 >>> ((32 : Int32) &&& 0x3f).toInt64.toUInt64).toInt64))), .second, .val (.long ((((own_mx (0 : Int64) i0) &&& (4294967295 : Int64)) + (vb &&& (4294967295 : Int64))) + (vc &&& (4294967295 : Int64)))), .second, .unset, .unset, .unset, .unset, .unset, .unset, .unset, .unset] [])) _
    refine XS.lload X_vc.here hx rfl (hb hby at_154) rfl ?_
    show Steps p.tables e below (T_vc.setTop (mkF m 156 #[.val (.long i0), .second, .val (.long i1), .second, .val (.long i2), .second, .val (.int i3), .val (.int i4), .val (.int (Int32.ofNat kn)), .val (.int (Int32.ofNat sn)), .val (.ref b5), .val (.ref b25), .val (.long (own_mx (0 : Int64) i0)), .second, .val (.long vb), .second, .val (.long vc), .second, .val (.long (((((own_mx (0 : Int64) i0).toUInt64 >>> ((32 : Int32) &&& 0x3f).toInt64.toUInt64).toInt64) + ((vb.toUInt64 >>> ((32 : Int32) &&& 0x3f).toInt64.toUInt64).toInt64)) + ((vc.toUInt64 >>> ((32 : Int32) &&& 0x3f).toInt64.toUInt64).toInt64))), .second, .val (.long ((((own_mx (0 : Int64) i0) &&& (4294967295 : Int64)) + (vb &&& (4294967295 : Int64))) + (vc &&& (4294967295 : Int64)))), .second, .unset, .unset, .unset, .unset, .unset, .unset, .unset, .unset] [(.long (((((own_mx (0 : Int64) i0).toUInt64 >>> ((32 : Int32) &&& 0x3f).toInt64.toUInt64).toInt64) + ((vb.toUInt64 >>> ((32 : Int32) &&& 0x3f).toInt64.toUInt64).toInt64)) + ((vc.toUInt64 >>> ((32 : Int32) &&& 0x3f).toInt64.toUInt64).toInt64)))])) _
    refine XS.lload X_vc.here hx rfl (hb hby at_156) rfl ?_
    show Steps p.tables e below (T_vc.setTop (mkF m 158 #[.val (.long i0), .second, .val (.long i1), .second, .val (.long i2), .second, .val (.int i3), .val (.int i4), .val (.int (Int32.ofNat kn)), .val (.int (Int32.ofNat sn)), .val (.ref b5), .val (.ref b25), .val (.long (own_mx (0 : Int64) i0)), .second, .val (.long vb), .second, .val (.long vc), .second, .val (.long (((((own_mx (0 : Int64) i0).toUInt64 >>> ((32 : Int32) &&& 0x3f).toInt64.toUInt64).toInt64) + ((vb.toUInt64 >>> ((32 : Int32) &&& 0x3f).toInt64.toUInt64).toInt64)) + ((vc.toUInt64 >>> ((32 : Int32) &&& 0x3f).toInt64.toUInt64).toInt64))), .second, .val (.long ((((own_mx (0 : Int64) i0) &&& (4294967295 : Int64)) + (vb &&& (4294967295 : Int64))) + (vc &&& (4294967295 : Int64)))), .second, .unset, .unset, .unset, .unset, .unset, .unset, .unset, .unset] [(.long ((((own_mx (0 : Int64) i0) &&& (4294967295 : Int64)) + (vb &&& (4294967295 : Int64))) + (vc &&& (4294967295 : Int64)))), (.long (((((own_mx (0 : Int64) i0).toUInt64 >>> ((32 : Int32) &&& 0x3f).toInt64.toUInt64).toInt64) + ((vb.toUInt64 >>> ((32 : Int32) &&& 0x3f).toInt64.toUInt64).toInt64)) + ((vc.toUInt64 >>> ((32 : Int32) &&& 0x3f).toInt64.toUInt64).toInt64)))])) _
    refine XS.bipush X_vc.here hx rfl (hb hby at_158) ?_
    show Steps p.tables e below (T_vc.setTop (mkF m 160 #[.val (.long i0), .second, .val (.long i1), .second, .val (.long i2), .second, .val (.int i3), .val (.int i4), .val (.int (Int32.ofNat kn)), .val (.int (Int32.ofNat sn)), .val (.ref b5), .val (.ref b25), .val (.long (own_mx (0 : Int64) i0)), .second, .val (.long vb), .second, .val (.long vc), .second, .val (.long (((((own_mx (0 : Int64) i0).toUInt64 >>> ((32 : Int32) &&& 0x3f).toInt64.toUInt64).toInt64) + ((vb.toUInt64 >>> ((32 : Int32) &&& 0x3f).toInt64.toUInt64).toInt64)) + ((vc.toUInt64 >>> ((32 : Int32) &&& 0x3f).toInt64.toUInt64).toInt64))), .second, .val (.long ((((own_mx (0 : Int64) i0) &&& (4294967295 : Int64)) + (vb &&& (4294967295 : Int64))) + (vc &&& (4294967295 : Int64)))), .second, .unset, .unset, .unset, .unset, .unset, .unset, .unset, .unset] [(.int (32 : Int32)), (.long ((((own_mx (0 : Int64) i0) &&& (4294967295 : Int64)) + (vb &&& (4294967295 : Int64))) + (vc &&& (4294967295 : Int64)))), (.long (((((own_mx (0 : Int64) i0).toUInt64 >>> ((32 : Int32) &&& 0x3f).toInt64.toUInt64).toInt64) + ((vb.toUInt64 >>> ((32 : Int32) &&& 0x3f).toInt64.toUInt64).toInt64)) + ((vc.toUInt64 >>> ((32 : Int32) &&& 0x3f).toInt64.toUInt64).toInt64)))])) _
    refine XS.lushr X_vc.here hx rfl (hb hby at_160) rfl ?_
    show Steps p.tables e below (T_vc.setTop (mkF m 161 #[.val (.long i0), .second, .val (.long i1), .second, .val (.long i2), .second, .val (.int i3), .val (.int i4), .val (.int (Int32.ofNat kn)), .val (.int (Int32.ofNat sn)), .val (.ref b5), .val (.ref b25), .val (.long (own_mx (0 : Int64) i0)), .second, .val (.long vb), .second, .val (.long vc), .second, .val (.long (((((own_mx (0 : Int64) i0).toUInt64 >>> ((32 : Int32) &&& 0x3f).toInt64.toUInt64).toInt64) + ((vb.toUInt64 >>> ((32 : Int32) &&& 0x3f).toInt64.toUInt64).toInt64)) + ((vc.toUInt64 >>> ((32 : Int32) &&& 0x3f).toInt64.toUInt64).toInt64))), .second, .val (.long ((((own_mx (0 : Int64) i0) &&& (4294967295 : Int64)) + (vb &&& (4294967295 : Int64))) + (vc &&& (4294967295 : Int64)))), .second, .unset, .unset, .unset, .unset, .unset, .unset, .unset, .unset] [(.long ((((((own_mx (0 : Int64) i0) &&& (4294967295 : Int64)) + (vb &&& (4294967295 : Int64))) + (vc &&& (4294967295 : Int64))).toUInt64 >>> ((32 : Int32) &&& 0x3f).toInt64.toUInt64).toInt64)), (.long (((((own_mx (0 : Int64) i0).toUInt64 >>> ((32 : Int32) &&& 0x3f).toInt64.toUInt64).toInt64) + ((vb.toUInt64 >>> ((32 : Int32) &&& 0x3f).toInt64.toUInt64).toInt64)) + ((vc.toUInt64 >>> ((32 : Int32) &&& 0x3f).toInt64.toUInt64).toInt64)))])) _
    refine XS.ladd X_vc.here hx rfl (hb hby at_161) rfl ?_
    show Steps p.tables e below (T_vc.setTop (mkF m 162 #[.val (.long i0), .second, .val (.long i1), .second, .val (.long i2), .second, .val (.int i3), .val (.int i4), .val (.int (Int32.ofNat kn)), .val (.int (Int32.ofNat sn)), .val (.ref b5), .val (.ref b25), .val (.long (own_mx (0 : Int64) i0)), .second, .val (.long vb), .second, .val (.long vc), .second, .val (.long (((((own_mx (0 : Int64) i0).toUInt64 >>> ((32 : Int32) &&& 0x3f).toInt64.toUInt64).toInt64) + ((vb.toUInt64 >>> ((32 : Int32) &&& 0x3f).toInt64.toUInt64).toInt64)) + ((vc.toUInt64 >>> ((32 : Int32) &&& 0x3f).toInt64.toUInt64).toInt64))), .second, .val (.long ((((own_mx (0 : Int64) i0) &&& (4294967295 : Int64)) + (vb &&& (4294967295 : Int64))) + (vc &&& (4294967295 : Int64)))), .second, .unset, .unset, .unset, .unset, .unset, .unset, .unset, .unset] [(.long ((((((own_mx (0 : Int64) i0).toUInt64 >>> ((32 : Int32) &&& 0x3f).toInt64.toUInt64).toInt64) + ((vb.toUInt64 >>> ((32 : Int32) &&& 0x3f).toInt64.toUInt64).toInt64)) + ((vc.toUInt64 >>> ((32 : Int32) &&& 0x3f).toInt64.toUInt64).toInt64)) + ((((((own_mx (0 : Int64) i0) &&& (4294967295 : Int64)) + (vb &&& (4294967295 : Int64))) + (vc &&& (4294967295 : Int64))).toUInt64 >>> ((32 : Int32) &&& 0x3f).toInt64.toUInt64).toInt64)))])) _
    refine XS.lstore X_vc.here hx rfl (hb hby at_162) rfl (l' := #[.val (.long i0), .second, .val (.long i1), .second, .val (.long i2), .second, .val (.int i3), .val (.int i4), .val (.int (Int32.ofNat kn)), .val (.int (Int32.ofNat sn)), .val (.ref b5), .val (.ref b25), .val (.long (own_mx (0 : Int64) i0)), .second, .val (.long vb), .second, .val (.long vc), .second, .val (.long (((((own_mx (0 : Int64) i0).toUInt64 >>> ((32 : Int32) &&& 0x3f).toInt64.toUInt64).toInt64) + ((vb.toUInt64 >>> ((32 : Int32) &&& 0x3f).toInt64.toUInt64).toInt64)) + ((vc.toUInt64 >>> ((32 : Int32) &&& 0x3f).toInt64.toUInt64).toInt64))), .second, .val (.long ((((own_mx (0 : Int64) i0) &&& (4294967295 : Int64)) + (vb &&& (4294967295 : Int64))) + (vc &&& (4294967295 : Int64)))), .second, .val (.long ((((((own_mx (0 : Int64) i0).toUInt64 >>> ((32 : Int32) &&& 0x3f).toInt64.toUInt64).toInt64) + ((vb.toUInt64 >>> ((32 : Int32) &&& 0x3f).toInt64.toUInt64).toInt64)) + ((vc.toUInt64 >>> ((32 : Int32) &&& 0x3f).toInt64.toUInt64).toInt64)) + ((((((own_mx (0 : Int64) i0) &&& (4294967295 : Int64)) + (vb &&& (4294967295 : Int64))) + (vc &&& (4294967295 : Int64))).toUInt64 >>> ((32 : Int32) &&& 0x3f).toInt64.toUInt64).toInt64))), .second, .unset, .unset, .unset, .unset, .unset, .unset]) rfl ?_
    exact kt
  have sg46 : ∀ t, Steps p.tables e below (T_vc.setTop (mkF m 189 #[.val (.long i0), .second, .val (.long i1), .second, .val (.long i2), .second, .val (.int i3), .val (.int i4), .val (.int (Int32.ofNat kn)), .val (.int (Int32.ofNat sn)), .val (.ref b5), .val (.ref b25), .val (.long (own_mx (0 : Int64) i0)), .second, .val (.long vb), .second, .val (.long vc), .second, .val (.long (((((own_mx (0 : Int64) i0).toUInt64 >>> ((32 : Int32) &&& 0x3f).toInt64.toUInt64).toInt64) + ((vb.toUInt64 >>> ((32 : Int32) &&& 0x3f).toInt64.toUInt64).toInt64)) + ((vc.toUInt64 >>> ((32 : Int32) &&& 0x3f).toInt64.toUInt64).toInt64))), .second, .val (.long ((((own_mx (0 : Int64) i0) &&& (4294967295 : Int64)) + (vb &&& (4294967295 : Int64))) + (vc &&& (4294967295 : Int64)))), .second, .val (.long ((((((own_mx (0 : Int64) i0).toUInt64 >>> ((32 : Int32) &&& 0x3f).toInt64.toUInt64).toInt64) + ((vb.toUInt64 >>> ((32 : Int32) &&& 0x3f).toInt64.toUInt64).toInt64)) + ((vc.toUInt64 >>> ((32 : Int32) &&& 0x3f).toInt64.toUInt64).toInt64)) + ((((((own_mx (0 : Int64) i0) &&& (4294967295 : Int64)) + (vb &&& (4294967295 : Int64))) + (vc &&& (4294967295 : Int64))).toUInt64 >>> ((32 : Int32) &&& 0x3f).toInt64.toUInt64).toInt64))), .second, .val (.long ((((((((own_mx (0 : Int64) i0).toUInt64 >>> ((32 : Int32) &&& 0x3f).toInt64.toUInt64).toInt64) + ((vb.toUInt64 >>> ((32 : Int32) &&& 0x3f).toInt64.toUInt64).toInt64)) + ((vc.toUInt64 >>> ((32 : Int32) &&& 0x3f).toInt64.toUInt64).toInt64)) + ((((((own_mx (0 : Int64) i0) &&& (4294967295 : Int64)) + (vb &&& (4294967295 : Int64))) + (vc &&& (4294967295 : Int64))).toUInt64 >>> ((32 : Int32) &&& 0x3f).toInt64.toUInt64).toInt64)).toUInt64 >>> ((31 : Int32) &&& 0x3f).toInt64.toUInt64).toInt64)), .second, .val (.long (((((((((own_mx (0 : Int64) i0).toUInt64 >>> ((32 : Int32) &&& 0x3f).toInt64.toUInt64).toInt64) + ((vb.toUInt64 >>> ((32 : Int32) &&& 0x3f).toInt64.toUInt64).toInt64)) + ((vc.toUInt64 >>> ((32 : Int32) &&& 0x3f).toInt64.toUInt64).toInt64)) + ((((((own_mx (0 : Int64) i0) &&& (4294967295 : Int64)) + (vb &&& (4294967295 : Int64))) + (vc &&& (4294967295 : Int64))).toUInt64 >>> ((32 : Int32) &&& 0x3f).toInt64.toUInt64).toInt64)) &&& (2147483647 : Int64)) <<< ((32 : Int32) &&& 0x3f).toInt64) ||| (((((own_mx (0 : Int64) i0) &&& (4294967295 : Int64)) + (vb &&& (4294967295 : Int64))) + (vc &&& (4294967295 : Int64))) &&& (4294967295 : Int64)))), .second, .unset, .unset] [])) t → Steps p.tables e below (T_vc.setTop (mkF m 164 #[.val (.long i0), .second, .val (.long i1), .second, .val (.long i2), .second, .val (.int i3), .val (.int i4), .val (.int (Int32.ofNat kn)), .val (.int (Int32.ofNat sn)), .val (.ref b5), .val (.ref b25), .val (.long (own_mx (0 : Int64) i0)), .second, .val (.long vb), .second, .val (.long vc), .second, .val (.long (((((own_mx (0 : Int64) i0).toUInt64 >>> ((32 : Int32) &&& 0x3f).toInt64.toUInt64).toInt64) + ((vb.toUInt64 >>> ((32 : Int32) &&& 0x3f).toInt64.toUInt64).toInt64)) + ((vc.toUInt64 >>> ((32 : Int32) &&& 0x3f).toInt64.toUInt64).toInt64))), .second, .val (.long ((((own_mx (0 : Int64) i0) &&& (4294967295 : Int64)) + (vb &&& (4294967295 : Int64))) + (vc &&& (4294967295 : Int64)))), .second, .val (.long ((((((own_mx (0 : Int64) i0).toUInt64 >>> ((32 : Int32) &&& 0x3f).toInt64.toUInt64).toInt64) + ((vb.toUInt64 >>> ((32 : Int32) &&& 0x3f).toInt64.toUInt64).toInt64)) + ((vc.toUInt64 >>> ((32 : Int32) &&& 0x3f).toInt64.toUInt64).toInt64)) + ((((((own_mx (0 : Int64) i0) &&& (4294967295 : Int64)) + (vb &&& (4294967295 : Int64))) + (vc &&& (4294967295 : Int64))).toUInt64 >>> ((32 : Int32) &&& 0x3f).toInt64.toUInt64).toInt64))), .second, .unset, .unset, .unset, .unset, .unset, .unset] [])) t := by
    intro t kt
    refine XS.lload X_vc.here hx rfl (hb hby at_164) rfl ?_
    show Steps p.tables e below (T_vc.setTop (mkF m 166 #[.val (.long i0), .second, .val (.long i1), .second, .val (.long i2), .second, .val (.int i3), .val (.int i4), .val (.int (Int32.ofNat kn)), .val (.int (Int32.ofNat sn)), .val (.ref b5), .val (.ref b25), .val (.long (own_mx (0 : Int64) i0)), .second, .val (.long vb), .second, .val (.long vc), .second, .val (.long (((((own_mx (0 : Int64) i0).toUInt64 >>> ((32 : Int32) &&& 0x3f).toInt64.toUInt64).toInt64) + ((vb.toUInt64 >>> ((32 : Int32) &&& 0x3f).toInt64.toUInt64).toInt64)) + ((vc.toUInt64 >>> ((32 : Int32) &&& 0x3f).toInt64.toUInt64).toInt64))), .second, .val (.long ((((own_mx (0 : Int64) i0) &&& (4294967295 : Int64)) + (vb &&& (4294967295 : Int64))) + (vc &&& (4294967295 : Int64)))), .second, .val (.long ((((((own_mx (0 : Int64) i0).toUInt64 >>> ((32 : Int32) &&& 0x3f).toInt64.toUInt64).toInt64) + ((vb.toUInt64 >>> ((32 : Int32) &&& 0x3f).toInt64.toUInt64).toInt64)) + ((vc.toUInt64 >>> ((32 : Int32) &&& 0x3f).toInt64.toUInt64).toInt64)) + ((((((own_mx (0 : Int64) i0) &&& (4294967295 : Int64)) + (vb &&& (4294967295 : Int64))) + (vc &&& (4294967295 : Int64))).toUInt64 >>> ((32 : Int32) &&& 0x3f).toInt64.toUInt64).toInt64))), .second, .unset, .unset, .unset, .unset, .unset, .unset] [(.long ((((((own_mx (0 : Int64) i0).toUInt64 >>> ((32 : Int32) &&& 0x3f).toInt64.toUInt64).toInt64) + ((vb.toUInt64 >>> ((32 : Int32) &&& 0x3f).toInt64.toUInt64).toInt64)) + ((vc.toUInt64 >>> ((32 : Int32) &&& 0x3f).toInt64.toUInt64).toInt64)) + ((((((own_mx (0 : Int64) i0) &&& (4294967295 : Int64)) + (vb &&& (4294967295 : Int64))) + (vc &&& (4294967295 : Int64))).toUInt64 >>> ((32 : Int32) &&& 0x3f).toInt64.toUInt64).toInt64)))])) _
    refine XS.bipush X_vc.here hx rfl (hb hby at_166) ?_
    show Steps p.tables e below (T_vc.setTop (mkF m 168 #[.val (.long i0), .second, .val (.long i1), .second, .val (.long i2), .second, .val (.int i3), .val (.int i4), .val (.int (Int32.ofNat kn)), .val (.int (Int32.ofNat sn)), .val (.ref b5), .val (.ref b25), .val (.long (own_mx (0 : Int64) i0)), .second, .val (.long vb), .second, .val (.long vc), .second, .val (.long (((((own_mx (0 : Int64) i0).toUInt64 >>> ((32 : Int32) &&& 0x3f).toInt64.toUInt64).toInt64) + ((vb.toUInt64 >>> ((32 : Int32) &&& 0x3f).toInt64.toUInt64).toInt64)) + ((vc.toUInt64 >>> ((32 : Int32) &&& 0x3f).toInt64.toUInt64).toInt64))), .second, .val (.long ((((own_mx (0 : Int64) i0) &&& (4294967295 : Int64)) + (vb &&& (4294967295 : Int64))) + (vc &&& (4294967295 : Int64)))), .second, .val (.long ((((((own_mx (0 : Int64) i0).toUInt64 >>> ((32 : Int32) &&& 0x3f).toInt64.toUInt64).toInt64) + ((vb.toUInt64 >>> ((32 : Int32) &&& 0x3f).toInt64.toUInt64).toInt64)) + ((vc.toUInt64 >>> ((32 : Int32) &&& 0x3f).toInt64.toUInt64).toInt64)) + ((((((own_mx (0 : Int64) i0) &&& (4294967295 : Int64)) + (vb &&& (4294967295 : Int64))) + (vc &&& (4294967295 : Int64))).toUInt64 >>> ((32 : Int32) &&& 0x3f).toInt64.toUInt64).toInt64))), .second, .unset, .unset, .unset, .unset, .unset, .unset] [(.int (31 : Int32)), (.long ((((((own_mx (0 : Int64) i0).toUInt64 >>> ((32 : Int32) &&& 0x3f).toInt64.toUInt64).toInt64) + ((vb.toUInt64 >>> ((32 : Int32) &&& 0x3f).toInt64.toUInt64).toInt64)) + ((vc.toUInt64 >>> ((32 : Int32) &&& 0x3f).toInt64.toUInt64).toInt64)) + ((((((own_mx (0 : Int64) i0) &&& (4294967295 : Int64)) + (vb &&& (4294967295 : Int64))) + (vc &&& (4294967295 : Int64))).toUInt64 >>> ((32 : Int32) &&& 0x3f).toInt64.toUInt64).toInt64)))])) _
    refine XS.lushr X_vc.here hx rfl (hb hby at_168) rfl ?_
    show Steps p.tables e below (T_vc.setTop (mkF m 169 #[.val (.long i0), .second, .val (.long i1), .second, .val (.long i2), .second, .val (.int i3), .val (.int i4), .val (.int (Int32.ofNat kn)), .val (.int (Int32.ofNat sn)), .val (.ref b5), .val (.ref b25), .val (.long (own_mx (0 : Int64) i0)), .second, .val (.long vb), .second, .val (.long vc), .second, .val (.long (((((own_mx (0 : Int64) i0).toUInt64 >>> ((32 : Int32) &&& 0x3f).toInt64.toUInt64).toInt64) + ((vb.toUInt64 >>> ((32 : Int32) &&& 0x3f).toInt64.toUInt64).toInt64)) + ((vc.toUInt64 >>> ((32 : Int32) &&& 0x3f).toInt64.toUInt64).toInt64))), .second, .val (.long ((((own_mx (0 : Int64) i0) &&& (4294967295 : Int64)) + (vb &&& (4294967295 : Int64))) + (vc &&& (4294967295 : Int64)))), .second, .val (.long ((((((own_mx (0 : Int64) i0).toUInt64 >>> ((32 : Int32) &&& 0x3f).toInt64.toUInt64).toInt64) + ((vb.toUInt64 >>> ((32 : Int32) &&& 0x3f).toInt64.toUInt64).toInt64)) + ((vc.toUInt64 >>> ((32 : Int32) &&& 0x3f).toInt64.toUInt64).toInt64)) + ((((((own_mx (0 : Int64) i0) &&& (4294967295 : Int64)) + (vb &&& (4294967295 : Int64))) + (vc &&& (4294967295 : Int64))).toUInt64 >>> ((32 : Int32) &&& 0x3f).toInt64.toUInt64).toInt64))), .second, .unset, .unset, .unset, .unset, .unset, .unset] [(.long ((((((((own_mx (0 : Int64) i0).toUInt64 >>> ((32 : Int32) &&& 0x3f).toInt64.toUInt64).toInt64) + ((vb.toUInt64 >>> ((32 : Int32) &&& 0x3f).toInt64.toUInt64).toInt64)) + ((vc.toUInt64 >>> ((32 : Int32) &&& 0x3f).toInt64.toUInt64).toInt64)) + ((((((own_mx (0 : Int64) i0) &&& (4294967295 : Int64)) + (vb &&& (4294967295 : Int64))) + (vc &&& (4294967295 : Int64))).toUInt64 >>> ((32 : Int32) &&& 0x3f).toInt64.toUInt64).toInt64)).toUInt64 >>> ((31 : Int32) &&& 0x3f).toInt64.toUInt64).toInt64))])) _
    refine XS.lstore X_vc.here hx rfl (hb hby at_169) rfl (l' := #[.val (.long i0), .second, .val (.long i1), .second, .val (.long i2), .second, .val (.int i3), .val (.int i4), .val (.int (Int32.ofNat kn)), .val (.int (Int32.ofNat sn)), .val (.ref b5), .val (.ref b25), .val (.long (own_mx (0 : Int64) i0)), .second, .val (.long vb), .second, .val (.long vc), .second, .val (.long (((((own_mx (0 : Int64) i0).toUInt64 >>> ((32 : Int32) &&& 0x3f).toInt64.toUInt64).toInt64) + ((vb.toUInt64 >>> ((32 : Int32) &&& 0x3f).toInt64.toUInt64).toInt64)) + ((vc.toUInt64 >>> ((32 : Int32) &&& 0x3f).toInt64.toUInt64).toInt64))), .second, .val (.long ((((own_mx (0 : Int64) i0) &&& (4294967295 : Int64)) + (vb &&& (4294967295 : Int64))) + (vc &&& (4294967295 : Int64)))), .second, .val (.long ((((((own_mx (0 : Int64) i0).toUInt64 >>> ((32 : Int32) &&& 0x3f).toInt64.toUInt64).toInt64) + ((vb.toUInt64 >>> ((32 : Int32) &&& 0x3f).toInt64.toUInt64).toInt64)) + ((vc.toUInt64 >>> ((32 : Int32) &&& 0x3f).toInt64.toUInt64).toInt64)) + ((((((own_mx (0 : Int64) i0) &&& (4294967295 : Int64)) + (vb &&& (4294967295 : Int64))) + (vc &&& (4294967295 : Int64))).toUInt64 >>> ((32 : Int32) &&& 0x3f).toInt64.toUInt64).toInt64))), .second, .val (.long ((((((((own_mx (0 : Int64) i0).toUInt64 >>> ((32 : Int32) &&& 0x3f).toInt64.toUInt64).toInt64) + ((vb.toUInt64 >>> ((32 : Int32) &&& 0x3f).toInt64.toUInt64).toInt64)) + ((vc.toUInt64 >>> ((32 : Int32) &&& 0x3f).toInt64.toUInt64).toInt64)) + ((((((own_mx (0 : Int64) i0) &&& (4294967295 : Int64)) + (vb &&& (4294967295 : Int64))) + (vc &&& (4294967295 : Int64))).toUInt64 >>> ((32 : Int32) &&& 0x3f).toInt64.toUInt64).toInt64)).toUInt64 >>> ((31 : Int32) &&& 0x3f).toInt64.toUInt64).toInt64)), .second, .unset, .unset, .unset, .unset]) rfl ?_
    show Steps p.tables e below (T_vc.setTop (mkF m 171 #[.val (.long i0), .second, .val (.long i1), .second, .val (.long i2), .second, .val (.int i3), .val (.int i4), .val (.int (Int32.ofNat kn)), .val (.int (Int32.ofNat sn)), .val (.ref b5), .val (.ref b25), .val (.long (own_mx (0 : Int64) i0)), .second, .val (.long vb), .second, .val (.long vc), .second, .val (.long (((((own_mx (0 : Int64) i0).toUInt64 >>> ((32 : Int32) &&& 0x3f).toInt64.toUInt64).toInt64) + ((vb.toUInt64 >>> ((32 : Int32) &&& 0x3f).toInt64.toUInt64).toInt64)) + ((vc.toUInt64 >>> ((32 : Int32) &&& 0x3f).toInt64.toUInt64).toInt64))), .second, .val (.long ((((own_mx (0 : Int64) i0) &&& (4294967295 : Int64)) + (vb &&& (4294967295 : Int64))) + (vc &&& (4294967295 : Int64)))), .second, .val (.long ((((((own_mx (0 : Int64) i0).toUInt64 >>> ((32 : Int32) &&& 0x3f).toInt64.toUInt64).toInt64) + ((vb.toUInt64 >>> ((32 : Int32) &&& 0x3f).toInt64.toUInt64).toInt64)) + ((vc.toUInt64 >>> ((32 : Int32) &&& 0x3f).toInt64.toUInt64).toInt64)) + ((((((own_mx (0 : Int64) i0) &&& (4294967295 : Int64)) + (vb &&& (4294967295 : Int64))) + (vc &&& (4294967295 : Int64))).toUInt64 >>> ((32 : Int32) &&& 0x3f).toInt64.toUInt64).toInt64))), .second, .val (.long ((((((((own_mx (0 : Int64) i0).toUInt64 >>> ((32 : Int32) &&& 0x3f).toInt64.toUInt64).toInt64) + ((vb.toUInt64 >>> ((32 : Int32) &&& 0x3f).toInt64.toUInt64).toInt64)) + ((vc.toUInt64 >>> ((32 : Int32) &&& 0x3f).toInt64.toUInt64).toInt64)) + ((((((own_mx (0 : Int64) i0) &&& (4294967295 : Int64)) + (vb &&& (4294967295 : Int64))) + (vc &&& (4294967295 : Int64))).toUInt64 >>> ((32 : Int32) &&& 0x3f).toInt64.toUInt64).toInt64)).toUInt64 >>> ((31 : Int32) &&& 0x3f).toInt64.toUInt64).toInt64)), .second, .unset, .unset, .unset, .unset] [])) _
    refine XS.lload X_vc.here hx rfl (hb hby at_171) rfl ?_
    show Steps p.tables e below (T_vc.setTop (mkF m 173 #[.val (.long i0), .second, .val (.long i1), .second, .val (.long i2), .second, .val (.int i3), .val (.int i4), .val (.int (Int32.ofNat kn)), .val (.int (Int32.ofNat sn)), .val (.ref b5), .val (.ref b25), .val (.long (own_mx (0 : Int64) i0)), .second, .val (.long vb), .second, .val (.long vc), .second, .val (.long (((((own_mx (0 : Int64) i0).toUInt64 >>> ((32 : Int32) &&& 0x3f).toInt64.toUInt64).toInt64) + ((vb.toUInt64 >>> ((32 : Int32) &&& 0x3f).toInt64.toUInt64).toInt64)) + ((vc.toUInt64 >>> ((32 : Int32) &&& 0x3f).toInt64.toUInt64).toInt64))), .second, .val (.long ((((own_mx (0 : Int64) i0) &&& (4294967295 : Int64)) + (vb &&& (4294967295 : Int64))) + (vc &&& (4294967295 : Int64)))), .second, .val (.long ((((((own_mx (0 : Int64) i0).toUInt64 >>> ((32 : Int32) &&& 0x3f).toInt64.toUInt64).toInt64) + ((vb.toUInt64 >>> ((32 : Int32) &&& 0x3f).toInt64.toUInt64).toInt64)) + ((vc.toUInt64 >>> ((32 : Int32) &&& 0x3f).toInt64.toUInt64).toInt64)) + ((((((own_mx (0 : Int64) i0) &&& (4294967295 : Int64)) + (vb &&& (4294967295 : Int64))) + (vc &&& (4294967295 : Int64))).toUInt64 >>> ((32 : Int32) &&& 0x3f).toInt64.toUInt64).toInt64))), .second, .val (.long ((((((((own_mx (0 : Int64) i0).toUInt64 >>> ((32 : Int32) &&& 0x3f).toInt64.toUInt64).toInt64) + ((vb.toUInt64 >>> ((32 : Int32) &&& 0x3f).toInt64.toUInt64).toInt64)) + ((vc.toUInt64 >>> ((32 : Int32) &&& 0x3f).toInt64.toUInt64).toInt64)) + ((((((own_mx (0 : Int64) i0) &&& (4294967295 : Int64)) + (vb &&& (4294967295 : Int64))) + (vc &&& (4294967295 : Int64))).toUInt64 >>> ((32 : Int32) &&& 0x3f).toInt64.toUInt64).toInt64)).toUInt64 >>> ((31 : Int32) &&& 0x3f).toInt64.toUInt64).toInt64)), .second, .unset, .unset, .unset, .unset] [(.long ((((((own_mx (0 : Int64) i0).toUInt64 >>> ((32 : Int32) &&& 0x3f).toInt64.toUInt64).toInt64) + ((vb.toUInt64 >>> ((32 : Int32) &&& 0x3f).toInt64.toUInt64).toInt64)) + ((vc.toUInt64 >>> ((32 : Int32) &&& 0x3f).toInt64.toUInt64).toInt64)) + ((((((own_mx (0 : Int64) i0) &&& (4294967295 : Int64)) + (vb &&& (4294967295 : Int64))) + (vc &&& (4294967295 : Int64))).toUInt64 >>> ((32 : Int32) &&& 0x3f).toInt64.toUInt64).toInt64)))])) _
    refine X_vc.ldc2Long hx hown (mvT hZ (hw _ (List.mem_of_getElem? (i := 56) rfl))) (g := (mkF m 173 #[.val (.long i0), .second, .val (.long i1), .second, .val (.long i2), .second, .val (.int i3), .val (.int i4), .val (.int (Int32.ofNat kn)), .val (.int (Int32.ofNat sn)), .val (.ref b5), .val (.ref b25), .val (.long (own_mx (0 : Int64) i0)), .second, .val (.long vb), .second, .val (.long vc), .second, .val (.long (((((own_mx (0 : Int64) i0).toUInt64 >>> ((32 : Int32) &&& 0x3f).toInt64.toUInt64).toInt64) + ((vb.toUInt64 >>> ((32 : Int32) &&& 0x3f).toInt64.toUInt64).toInt64)) + ((vc.toUInt64 >>> ((32 : Int32) &&& 0x3f).toInt64.toUInt64).toInt64))), .second, .val (.long ((((own_mx (0 : Int64) i0) &&& (4294967295 : Int64)) + (vb &&& (4294967295 : Int64))) + (vc &&& (4294967295 : Int64)))), .second, .val (.long ((((((own_mx (0 : Int64) i0).toUInt64 >>> ((32 : Int32) &&& 0x3f).toInt64.toUInt64).toInt64) + ((vb.toUInt64 >>> ((32 : Int32) &&& 0x3f).toInt64.toUInt64).toInt64)) + ((vc.toUInt64 >>> ((32 : Int32) &&& 0x3f).toInt64.toUInt64).toInt64)) + ((((((own_mx (0 : Int64) i0) &&& (4294967295 : Int64)) + (vb &&& (4294967295 : Int64))) + (vc &&& (4294967295 : Int64))).toUInt64 >>> ((32 : Int32) &&& 0x3f).toInt64.toUInt64).toInt64))), .second, .val (.long ((((((((own_mx (0 : Int64) i0).toUInt64 >>> ((32 : Int32) &&& 0x3f).toInt64.toUInt64).toInt64) + ((vb.toUInt64 >>> ((32 : Int32) &&& 0x3f).toInt64.toUInt64).toInt64)) + ((vc.toUInt64 >>> ((32 : Int32) &&& 0x3f).toInt64.toUInt64).toInt64)) + ((((((own_mx (0 : Int64) i0) &&& (4294967295 : Int64)) + (vb &&& (4294967295 : Int64))) + (vc &&& (4294967295 : Int64))).toUInt64 >>> ((32 : Int32) &&& 0x3f).toInt64.toUInt64).toInt64)).toUInt64 >>> ((31 : Int32) &&& 0x3f).toInt64.toUInt64).toInt64)), .second, .unset, .unset, .unset, .unset] [(.long ((((((own_mx (0 : Int64) i0).toUInt64 >>> ((32 : Int32) &&& 0x3f).toInt64.toUInt64).toInt64) + ((vb.toUInt64 >>> ((32 : Int32) &&& 0x3f).toInt64.toUInt64).toInt64)) + ((vc.toUInt64 >>> ((32 : Int32) &&& 0x3f).toInt64.toUInt64).toInt64)) + ((((((own_mx (0 : Int64) i0) &&& (4294967295 : Int64)) + (vb &&& (4294967295 : Int64))) + (vc &&& (4294967295 : Int64))).toUInt64 >>> ((32 : Int32) &&& 0x3f).toInt64.toUInt64).toInt64)))])) rfl (hb hby at_173) _ ?_
    show Steps p.tables e below (T_vc.setTop (mkF m 176 #[.val (.long i0), .second, .val (.long i1), .second, .val (.long i2), .second, .val (.int i3), .val (.int i4), .val (.int (Int32.ofNat kn)), .val (.int (Int32.ofNat sn)), .val (.ref b5), .val (.ref b25), .val (.long (own_mx (0 : Int64) i0)), .second, .val (.long vb), .second, .val (.long vc), .second, .val (.long (((((own_mx (0 : Int64) i0).toUInt64 >>> ((32 : Int32) &&& 0x3f).toInt64.toUInt64).toInt64) + ((vb.toUInt64 >>> ((32 : Int32) &&& 0x3f).toInt64.toUInt64).toInt64)) + ((vc.toUInt64 >>> ((32 : Int32) &&& 0x3f).toInt64.toUInt64).toInt64))), .second, .val (.long ((((own_mx (0 : Int64) i0) &&& (4294967295 : Int64)) + (vb &&& (4294967295 : Int64))) + (vc &&& (4294967295 : Int64)))), .second, .val (.long ((((((own_mx (0 : Int64) i0).toUInt64 >>> ((32 : Int32) &&& 0x3f).toInt64.toUInt64).toInt64) + ((vb.toUInt64 >>> ((32 : Int32) &&& 0x3f).toInt64.toUInt64).toInt64)) + ((vc.toUInt64 >>> ((32 : Int32) &&& 0x3f).toInt64.toUInt64).toInt64)) + ((((((own_mx (0 : Int64) i0) &&& (4294967295 : Int64)) + (vb &&& (4294967295 : Int64))) + (vc &&& (4294967295 : Int64))).toUInt64 >>> ((32 : Int32) &&& 0x3f).toInt64.toUInt64).toInt64))), .second, .val (.long ((((((((own_mx (0 : Int64) i0).toUInt64 >>> ((32 : Int32) &&& 0x3f).toInt64.toUInt64).toInt64) + ((vb.toUInt64 >>> ((32 : Int32) &&& 0x3f).toInt64.toUInt64).toInt64)) + ((vc.toUInt64 >>> ((32 : Int32) &&& 0x3f).toInt64.toUInt64).toInt64)) + ((((((own_mx (0 : Int64) i0) &&& (4294967295 : Int64)) + (vb &&& (4294967295 : Int64))) + (vc &&& (4294967295 : Int64))).toUInt64 >>> ((32 : Int32) &&& 0x3f).toInt64.toUInt64).toInt64)).toUInt64 >>> ((31 : Int32) &&& 0x3f).toInt64.toUInt64).toInt64)), .second, .unset, .unset, .unset, .unset] [(.long (2147483647 : Int64)), (.long ((((((own_mx (0 : Int64) i0).toUInt64 >>> ((32 : Int32) &&& 0x3f).toInt64.toUInt64).toInt64) + ((vb.toUInt64 >>> ((32 : Int32) &&& 0x3f).toInt64.toUInt64).toInt64)) + ((vc.toUInt64 >>> ((32 : Int32) &&& 0x3f).toInt64.toUInt64).toInt64)) + ((((((own_mx (0 : Int64) i0) &&& (4294967295 : Int64)) + (vb &&& (4294967295 : Int64))) + (vc &&& (4294967295 : Int64))).toUInt64 >>> ((32 : Int32) &&& 0x3f).toInt64.toUInt64).toInt64)))])) _
    refine XS.land X_vc.here hx rfl (hb hby at_176) rfl ?_
    show Steps p.tables e below (T_vc.setTop (mkF m 177 #[.val (.long i0), .second, .val (.long i1), .second, .val (.long i2), .second, .val (.int i3), .val (.int i4), .val (.int (Int32.ofNat kn)), .val (.int (Int32.ofNat sn)), .val (.ref b5), .val (.ref b25), .val (.long (own_mx (0 : Int64) i0)), .second, .val (.long vb), .second, .val (.long vc), .second, .val (.long (((((own_mx (0 : Int64) i0).toUInt64 >>> ((32 : Int32) &&& 0x3f).toInt64.toUInt64).toInt64) + ((vb.toUInt64 >>> ((32 : Int32) &&& 0x3f).toInt64.toUInt64).toInt64)) + ((vc.toUInt64 >>> ((32 : Int32) &&& 0x3f).toInt64.toUInt64).toInt64))), .second, .val (.long ((((own_mx (0 : Int64) i0) &&& (4294967295 : Int64)) + (vb &&& (4294967295 : Int64))) + (vc &&& (4294967295 : Int64)))), .second, .val (.long ((((((own_mx (0 : Int64) i0).toUInt64 >>> ((32 : Int32) &&& 0x3f).toInt64.toUInt64).toInt64) + ((vb.toUInt64 >>> ((32 : Int32) &&& 0x3f).toInt64.toUInt64).toInt64)) + ((vc.toUInt64 >>> ((32 : Int32) &&& 0x3f).toInt64.toUInt64).toInt64)) + ((((((own_mx (0 : Int64) i0) &&& (4294967295 : Int64)) + (vb &&& (4294967295 : Int64))) + (vc &&& (4294967295 : Int64))).toUInt64 >>> ((32 : Int32) &&& 0x3f).toInt64.toUInt64).toInt64))), .second, .val (.long ((((((((own_mx (0 : Int64) i0).toUInt64 >>> ((32 : Int32) &&& 0x3f).toInt64.toUInt64).toInt64) + ((vb.toUInt64 >>> ((32 : Int32) &&& 0x3f).toInt64.toUInt64).toInt64)) + ((vc.toUInt64 >>> ((32 : Int32) &&& 0x3f).toInt64.toUInt64).toInt64)) + ((((((own_mx (0 : Int64) i0) &&& (4294967295 : Int64)) + (vb &&& (4294967295 : Int64))) + (vc &&& (4294967295 : Int64))).toUInt64 >>> ((32 : Int32) &&& 0x3f).toInt64.toUInt64).toInt64)).toUInt64 >>> ((31 : Int32) &&& 0x3f).toInt64.toUInt64).toInt64)), .second, .unset, .unset, .unset, .unset] [(.long (((((((own_mx (0 : Int64) i0).toUInt64 >>> ((32 : Int32) &&& 0x3f).toInt64.toUInt64).toInt64) + ((vb.toUInt64 >>> ((32 : Int32) &&& 0x3f).toInt64.toUInt64).toInt64)) + ((vc.toUInt64 >>> ((32 : Int32) &&& 0x3f).toInt64.toUInt64).toInt64)) + ((((((own_mx (0 : Int64) i0) &&& (4294967295 : Int64)) + (vb &&& (4294967295 : Int64))) + (vc &&& (4294967295 : Int64))).toUInt64 >>> ((32 : Int32) &&& 0x3f).toInt64.toUInt64).toInt64)) &&& (2147483647 : Int64)))])) _
    refine XS.bipush X_vc.here hx rfl (hb hby at_177) ?_
    show Steps p.tables e below (T_vc.setTop (mkF m 179 #[.val (.long i0), .second, .val (.long i1), .second, .val (.long i2), .second, .val (.int i3), .val (.int i4), .val (.int (Int32.ofNat kn)), .val (.int (Int32.ofNat sn)), .val (.ref b5), .val (.ref b25), .val (.long (own_mx (0 : Int64) i0)), .second, .val (.long vb), .second, .val (.long vc), .second, .val (.long (((((own_mx (0 : Int64) i0).toUInt64 >>> ((32 : Int32) &&& 0x3f).toInt64.toUInt64).toInt64) + ((vb.toUInt64 >>> ((32 : Int32) &&& 0x3f).toInt64.toUInt64).toInt64)) + ((vc.toUInt64 >>> ((32 : Int32) &&& 0x3f).toInt64.toUInt64).toInt64))), .second, .val (.long ((((own_mx (0 : Int64) i0) &&& (4294967295 : Int64)) + (vb &&& (4294967295 : Int64))) + (vc &&& (4294967295 : Int64)))), .second, .val (.long ((((((own_mx (0 : Int64) i0).toUInt64 >>> ((32 : Int32) &&& 0x3f).toInt64.toUInt64).toInt64) + ((vb.toUInt64 >>> ((32 : Int32) &&& 0x3f).toInt64.toUInt64).toInt64)) + ((vc.toUInt64 >>> ((32 : Int32) &&& 0x3f).toInt64.toUInt64).toInt64)) + ((((((own_mx (0 : Int64) i0) &&& (4294967295 : Int64)) + (vb &&& (4294967295 : Int64))) + (vc &&& (4294967295 : Int64))).toUInt64 >>> ((32 : Int32) &&& 0x3f).toInt64.toUInt64).toInt64))), .second, .val (.long ((((((((own_mx (0 : Int64) i0).toUInt64 >>> ((32 : Int32) &&& 0x3f).toInt64.toUInt64).toInt64) + ((vb.toUInt64 >>> ((32 : Int32) &&& 0x3f).toInt64.toUInt64).toInt64)) + ((vc.toUInt64 >>> ((32 : Int32) &&& 0x3f).toInt64.toUInt64).toInt64)) + ((((((own_mx (0 : Int64) i0) &&& (4294967295 : Int64)) + (vb &&& (4294967295 : Int64))) + (vc &&& (4294967295 : Int64))).toUInt64 >>> ((32 : Int32) &&& 0x3f).toInt64.toUInt64).toInt64)).toUInt64 >>> ((31 : Int32) &&& 0x3f).toInt64.toUInt64).toInt64)), .second, .unset, .unset, .unset, .unset] [(.int (32 : Int32)), (.long (((((((own_mx (0 : Int64) i0).toUInt64 >>> ((32 : Int32) &&& 0x3f).toInt64.toUInt64).toInt64) + ((vb.toUInt64 >>> ((32 : Int32) &&& 0x3f).toInt64.toUInt64).toInt64)) + ((vc.toUInt64 >>> ((32 : Int32) &&& 0x3f).toInt64.toUInt64).toInt64)) + ((((((own_mx (0 : Int64) i0) &&& (4294967295 : Int64)) + (vb &&& (4294967295 : Int64))) + (vc &&& (4294967295 : Int64))).toUInt64 >>> ((32 : Int32) &&& 0x3f).toInt64.toUInt64).toInt64)) &&& (2147483647 : Int64)))])) _
    refine XS.lshl X_vc.here hx rfl (hb hby at_179) rfl ?_
    show Steps p.tables e below (T_vc.setTop (mkF m 180 #[.val (.long i0), .second, .val (.long i1), .second, .val (.long i2), .second, .val (.int i3), .val (.int i4), .val (.int (Int32.ofNat kn)), .val (.int (Int32.ofNat sn)), .val (.ref b5), .val (.ref b25), .val (.long (own_mx (0 : Int64) i0)), .second, .val (.long vb), .second, .val (.long vc), .second, .val (.long (((((own_mx (0 : Int64) i0).toUInt64 >>> ((32 : Int32) &&& 0x3f).toInt64.toUInt64).toInt64) + ((vb.toUInt64 >>> ((32 : Int32) &&& 0x3f).toInt64.toUInt64).toInt64)) + ((vc.toUInt64 >>> ((32 : Int32) &&& 0x3f).toInt64.toUInt64).toInt64))), .second, .val (.long ((((own_mx (0 : Int64) i0) &&& (4294967295 : Int64)) + (vb &&& (4294967295 : Int64))) + (vc &&& (4294967295 : Int64)))), .second, .val (.long ((((((own_mx (0 : Int64) i0).toUInt64 >>> ((32 : Int32) &&& 0x3f).toInt64.toUInt64).toInt64) + ((vb.toUInt64 >>> ((32 : Int32) &&& 0x3f).toInt64.toUInt64).toInt64)) + ((vc.toUInt64 >>> ((32 : Int32) &&& 0x3f).toInt64.toUInt64).toInt64)) + ((((((own_mx (0 : Int64) i0) &&& (4294967295 : Int64)) + (vb &&& (4294967295 : Int64))) + (vc &&& (4294967295 : Int64))).toUInt64 >>> ((32 : Int32) &&& 0x3f).toInt64.toUInt64).toInt64))), .second, .val (.long ((((((((own_mx (0 : Int64) i0).toUInt64 >>> ((32 : Int32) &&& 0x3f).toInt64.toUInt64).toInt64) + ((vb.toUInt64 >>> ((32 : Int32) &&& 0x3f).toInt64.toUInt64).toInt64)) + ((vc.toUInt64 >>> ((32 : Int32) &&& 0x3f).toInt64.toUInt64).toInt64)) + ((((((own_mx (0 : Int64) i0) &&& (4294967295 : Int64)) + (vb &&& (4294967295 : Int64))) + (vc &&& (4294967295 : Int64))).toUInt64 >>> ((32 : Int32) &&& 0x3f).toInt64.toUInt64).toInt64)).toUInt64 >>> ((31 : Int32) &&& 0x3f).toInt64.toUInt64).toInt64)), .second, .unset, .unset, .unset, .unset] [(.long ((((((((own_mx (0 : Int64) i0).toUInt64 >>> ((32 : Int32) &&& 0x3f).toInt64.toUInt64).toInt64) + ((vb.toUInt64 >>> ((32 : Int32) &&& 0x3f).toInt64.toUInt64).toInt64)) + ((vc.toUInt64 >>> ((32 : Int32) &&& 0x3f).toInt64.toUInt64).toInt64)) + ((((((own_mx (0 : Int64) i0) &&& (4294967295 : Int64)) + (vb &&& (4294967295 : Int64))) + (vc &&& (4294967295 : Int64))).toUInt64 >>> ((32 : Int32) &&& 0x3f).toInt64.toUInt64).toInt64)) &&& (2147483647 : Int64)) <<< ((32 : Int32) &&& 0x3f).toInt64))])) _
    refine XS.lload X_vc.here hx rfl (hb hby at_180) rfl ?_
    show Steps p.tables e below (T_vc.setTop (mkF m 182 #[.val (.long i0), .second, .val (.long i1), .second, .val (.long i2), .second, .val (.int i3), .val (.int i4), .val (.int (Int32.ofNat kn)), .val (.int (Int32.ofNat sn)), .val (.ref b5), .val (.ref b25), .val (.long (own_mx (0 : Int64) i0)), .second, .val (.long vb), .second, .val (.long vc), .second, .val (.long (((((own_mx (0 : Int64) i0).toUInt64 >>> ((32 : Int32) &&& 0x3f).toInt64.toUInt64).toInt64) + ((vb.toUInt64 >>> ((32 : Int32) &&& 0x3f).toInt64.toUInt64).toInt64)) + ((vc.toUInt64 >>> ((32 : Int32) &&& 0x3f).toInt64.toUInt64).toInt64))), .second, .val (.long ((((own_mx (0 : Int64) i0) &&& (4294967295 : Int64)) + (vb &&& (4294967295 : Int64))) + (vc &&& (4294967295 : Int64)))), .second, .val (.long ((((((own_mx (0 : Int64) i0).toUInt64 >>> ((32 : Int32) &&& 0x3f).toInt64.toUInt64).toInt64) + ((vb.toUInt64 >>> ((32 : Int32) &&& 0x3f).toInt64.toUInt64).toInt64)) + ((vc.toUInt64 >>> ((32 : Int32) &&& 0x3f).toInt64.toUInt64).toInt64)) + ((((((own_mx (0 : Int64) i0) &&& (4294967295 : Int64)) + (vb &&& (4294967295 : Int64))) + (vc &&& (4294967295 : Int64))).toUInt64 >>> ((32 : Int32) &&& 0x3f).toInt64.toUInt64).toInt64))), .second, .val (.long ((((((((own_mx (0 : Int64) i0).toUInt64 >>> ((32 : Int32) &&& 0x3f).toInt64.toUInt64).toInt64) + ((vb.toUInt64 >>> ((32 : Int32) &&& 0x3f).toInt64.toUInt64).toInt64)) + ((vc.toUInt64 >>> ((32 : Int32) &&& 0x3f).toInt64.toUInt64).toInt64)) + ((((((own_mx (0 : Int64) i0) &&& (4294967295 : Int64)) + (vb &&& (4294967295 : Int64))) + (vc &&& (4294967295 : Int64))).toUInt64 >>> ((32 : Int32) &&& 0x3f).toInt64.toUInt64).toInt64)).toUInt64 >>> ((31 : Int32) &&& 0x3f).toInt64.toUInt64).toInt64)), .second, .unset, .unset, .unset, .unset] [(.long ((((own_mx (0 : Int64) i0) &&& (4294967295 : Int64)) + (vb &&& (4294967295 : Int64))) + (vc &&& (4294967295 : Int64)))), (.long ((((((((own_mx (0 : Int64) i0).toUInt64 >>> ((32 : Int32) &&& 0x3f).toInt64.toUInt64).toInt64) + ((vb.toUInt64 >>> ((32 : Int32) &&& 0x3f).toInt64.toUInt64).toInt64)) + ((vc.toUInt64 >>> ((32 : Int32) &&& 0x3f).toInt64.toUInt64).toInt64)) + ((((((own_mx (0 : Int64) i0) &&& (4294967295 : Int64)) + (vb &&& (4294967295 : Int64))) + (vc &&& (4294967295 : Int64))).toUInt64 >>> ((32 : Int32) &&& 0x3f).toInt64.toUInt64).toInt64)) &&& (2147483647 : Int64)) <<< ((32 : Int32) &&& 0x3f).toInt64))])) _
    refine X_vc.ldc2Long hx hown (mvT hZ (hw _ (List.mem_of_getElem? (i := 55) rfl))) (g := (mkF m 182 #[.val (.long i0), .second, .val (.long i1), .second, .val (.long i2), .second, .val (.int i3), .val (.int i4), .val (.int (Int32.ofNat kn)), .val (.int (Int32.ofNat sn)), .val (.ref b5), .val (.ref b25), .val (.long (own_mx (0 : Int64) i0)), .second, .val (.long vb), .second, .val (.long vc), .second, .val (.long (((((own_mx (0 : Int64) i0).toUInt64 >>> ((32 : Int32) &&& 0x3f).toInt64.toUInt64).toInt64) + ((vb.toUInt64 >>> ((32 : Int32) &&& 0x3f).toInt64.toUInt64).toInt64)) + ((vc.toUInt64 >>> ((32 : Int32) &&& 0x3f).toInt64.toUInt64).toInt64))), .second, .val (.long ((((own_mx (0 : Int64) i0) &&& (4294967295 : Int64)) + (vb &&& (4294967295 : Int64))) + (vc &&& (4294967295 : Int64)))), .second, .val (.long ((((((own_mx (0 : Int64) i0).toUInt64 >>> ((32 : Int32) &&& 0x3f).toInt64.toUInt64).toInt64) + ((vb.toUInt64 >>> ((32 : Int32) &&& 0x3f).toInt64.toUInt64).toInt64)) + ((vc.toUInt64 >>> ((32 : Int32) &&& 0x3f).toInt64.toUInt64).toInt64)) + ((((((own_mx (0 : Int64) i0) &&& (4294967295 : Int64)) + (vb &&& (4294967295 : Int64))) + (vc &&& (4294967295 : Int64))).toUInt64 >>> ((32 : Int32) &&& 0x3f).toInt64.toUInt64).toInt64))), .second, .val (.long ((((((((own_mx (0 : Int64) i0).toUInt64 >>> ((32 : Int32) &&& 0x3f).toInt64.toUInt64).toInt64) + ((vb.toUInt64 >>> ((32 : Int32) &&& 0x3f).toInt64.toUInt64).toInt64)) + ((vc.toUInt64 >>> ((32 : Int32) &&& 0x3f).toInt64.toUInt64).toInt64)) + ((((((own_mx (0 : Int64) i0) &&& (4294967295 : Int64)) + (vb &&& (4294967295 : Int64))) + (vc &&& (4294967295 : Int64))).toUInt64 >>> ((32 : Int32) &&& 0x3f).toInt64.toUInt64).toInt64)).toUInt64 >>> ((31 : Int32) &&& 0x3f).toInt64.toUInt64).toInt64)), .second, .unset, .unset, .unset, .unset] [(.long ((((own_mx (0 : Int64) i0) &&& (4294967295 : Int64)) + (vb &&& (4294967295 : Int64))) + (vc &&& (4294967295 : Int64)))), (.long ((((((((own_mx (0 : Int64) i0).toUInt64 >>> ((32 : Int32) &&& 0x3f).toInt64.toUInt64).toInt64) + ((vb.toUInt64 >>> ((32 : Int32) &&& 0x3f).toInt64.toUInt64).toInt64)) + ((vc.toUInt64 >>> ((32 : Int32) &&& 0x3f).toInt64.toUInt64).toInt64)) + ((((((own_mx (0 : Int64) i0) &&& (4294967295 : Int64)) + (vb &&& (4294967295 : Int64))) + (vc &&& (4294967295 : Int64))).toUInt64 >>> ((32 : Int32) &&& 0x3f).toInt64.toUInt64).toInt64)) &&& (2147483647 : Int64)) <<< ((32 : Int32) &&& 0x3f).toInt64))])) rfl (hb hby at_182) _ ?_
    show Steps p.tables e below (T_vc.setTop (mkF m 185 #[.val (.long i0), .second, .val (.long i1), .second, .val (.long i2), .second, .val (.int i3), .val (.int i4), .val (.int (Int32.ofNat kn)), .val (.int (Int32.ofNat sn)), .val (.ref b5), .val (.ref b25), .val (.long (own_mx (0 : Int64) i0)), .second, .val (.long vb), .second, .val (.long vc), .second, .val (.long (((((own_mx (0 : Int64) i0).toUInt64 >>> ((32 : Int32) &&& 0x3f).toInt64.toUInt64).toInt64) + ((vb.toUInt64 >>> ((32 : Int32) &&& 0x3f).toInt64.toUInt64).toInt64)) + ((vc.toUInt64 >>> ((32 : Int32) &&& 0x3f).toInt64.toUInt64).toInt64))), .second, .val (.long ((((own_mx (0 : Int64) i0) &&& (4294967295 : Int64)) + (vb &&& (4294967295 : Int64))) + (vc &&& (4294967295 : Int64)))), .second, .val (.long ((((((own_mx (0 : Int64) i0).toUInt64 >>> ((32 : Int32) &&& 0x3f).toInt64.toUInt64).toInt64) + ((vb.toUInt64 >>> ((32 : Int32) &&& 0x3f).toInt64.toUInt64).toInt64)) + ((vc.toUInt64 >>> ((32 : Int32) &&& 0x3f).toInt64.toUInt64).toInt64)) + ((((((own_mx (0 : Int64) i0) &&& (4294967295 : Int64)) + (vb &&& (4294967295 : Int64))) + (vc &&& (4294967295 : Int64))).toUInt64 >>> ((32 : Int32) &&& 0x3f).toInt64.toUInt64).toInt64))), .second, .val (.long ((((((((own_mx (0 : Int64) i0).toUInt64 >>> ((32 : Int32) &&& 0x3f).toInt64.toUInt64).toInt64) + ((vb.toUInt64 >>> ((32 : Int32) &&& 0x3f).toInt64.toUInt64).toInt64)) + ((vc.toUInt64 >>> ((32 : Int32) &&& 0x3f).toInt64.toUInt64).toInt64)) + ((((((own_mx (0 : Int64) i0) &&& (4294967295 : Int64)) + (vb &&& (4294967295 : Int64))) + (vc &&& (4294967295 : Int64))).toUInt64 >>> ((32 : Int32) &&& 0x3f).toInt64.toUInt64).toInt64)).toUInt64 >>> ((31 : Int32) &&& 0x3f).toInt64.toUInt64).toInt64)), .second, .unset, .unset, .unset, .unset] [(.long (4294967295 : Int64)), (.long ((((own_mx (0 : Int64) i0) &&& (4294967295 : Int64)) + (vb &&& (4294967295 : Int64))) + (vc &&& (4294967295 : Int64)))), (.long ((((((((own_mx (0 : Int64) i0).toUInt64 >>> ((32 : Int32) &&& 0x3f).toInt64.toUInt64).toInt64) + ((vb.toUInt64 >>> ((32 : Int32) &&& 0x3f).toInt64.toUInt64).toInt64)) + ((vc.toUInt64 >>> ((32 : Int32) &&& 0x3f).toInt64.toUInt64).toInt64)) + ((((((own_mx (0 : Int64) i0) &&& (4294967295 : Int64)) + (vb &&& (4294967295 : Int64))) + (vc &&& (4294967295 : Int64))).toUInt64 >>> ((32 : Int32) &&& 0x3f).toInt64.toUInt64).toInt64)) &&& (2147483647 : Int64)) <<< ((32 : Int32) &&& 0x3f).toInt64))])) _
    refine XS.land X_vc.here hx rfl (hb hby at_185) rfl ?_
    show Steps p.tables e below (T_vc.setTop (mkF m 186 #[.val (.long i0), .second, .val (.long i1), .second, .val (.long i2), .second, .val (.int i3), .val (.int i4), .val (.int (Int32.ofNat kn)), .val (.int (Int32.ofNat sn)), .val (.ref b5), .val (.ref b25), .val (.long (own_mx (0 : Int64) i0)), .second, .val (.long vb), .second, .val (.long vc), .second, .val (.long (((((own_mx (0 : Int64) i0).toUInt64 >>> ((32 : Int32) &&& 0x3f).toInt64.toUInt64).toInt64) + ((vb.toUInt64 >>> ((32 : Int32) &&& 0x3f).toInt64.toUInt64).toInt64)) + ((vc.toUInt64 >>> ((32 : Int32) &&& 0x3f).toInt64.toUInt64).toInt64))), .second, .val (.long ((((own_mx (0 : Int64) i0) &&& (4294967295 : Int64)) + (vb &&& (4294967295 : Int64))) + (vc &&& (4294967295 : Int64)))), .second, .val (.long ((((((own_mx (0 : Int64) i0).toUInt64 >>> ((32 : Int32) &&& 0x3f).toInt64.toUInt64).toInt64) + ((vb.toUInt64 >>> ((32 : Int32) &&& 0x3f).toInt64.toUInt64).toInt64)) + ((vc.toUInt64 >>> ((32 : Int32) &&& 0x3f).toInt64.toUInt64).toInt64)) + ((((((own_mx (0 : Int64) i0) &&& (4294967295 : Int64)) + (vb &&& (4294967295 : Int64))) + (vc &&& (4294967295 : Int64))).toUInt64 >>> ((32 : Int32) &&& 0x3f).toInt64.toUInt64).toInt64))), .second, .val (.long ((((((((own_mx (0 : Int64) i0).toUInt64 >>> ((32 : Int32) &&& 0x3f).toInt64.toUInt64).toInt64) + ((vb.toUInt64 >>> ((32 : Int32) &&& 0x3f).toInt64.toUInt64).toInt64)) + ((vc.toUInt64 >>> ((32 : Int32) &&& 0x3f).toInt64.toUInt64).toInt64)) + ((((((own_mx (0 : Int64) i0) &&& (4294967295 : Int64)) + (vb &&& (4294967295 : Int64))) + (vc &&& (4294967295 : Int64))).toUInt64 >>> ((32 : Int32) &&& 0x3f).toInt64.toUInt64).toInt64)).toUInt64 >>> ((31 : Int32) &&& 0x3f).toInt64.toUInt64).toInt64)), .second, .unset, .unset, .unset, .unset] [(.long (((((own_mx (0 : Int64) i0) &&& (4294967295 : Int64)) + (vb &&& (4294967295 : Int64))) + (vc &&& (4294967295 : Int64))) &&& (4294967295 : Int64))), (.long ((((((((own_mx (0 : Int64) i0).toUInt64 >>> ((32 : Int32) &&& 0x3f).toInt64.toUInt64).toInt64) + ((vb.toUInt64 >>> ((32 : Int32) &&& 0x3f).toInt64.toUInt64).toInt64)) + ((vc.toUInt64 >>> ((32 : Int32) &&& 0x3f).toInt64.toUInt64).toInt64)) + ((((((own_mx (0 : Int64) i0) &&& (4294967295 : Int64)) + (vb &&& (4294967295 : Int64))) + (vc &&& (4294967295 : Int64))).toUInt64 >>> ((32 : Int32) &&& 0x3f).toInt64.toUInt64).toInt64)) &&& (2147483647 : Int64)) <<< ((32 : Int32) &&& 0x3f).toInt64))])) _
    refine XS.lor X_vc.here hx rfl (hb hby at_186) rfl ?_
    show Steps p.tables e below (T_vc.setTop (mkF m 187 #[.val (.long i0), .second, .val (.long i1), .second, .val (.long i2), .second, .val (.int i3), .val (.int i4), .val (.int (Int32.ofNat kn)), .val (.int (Int32.ofNat sn)), .val (.ref b5), .val (.ref b25), .val (.long (own_mx (0 : Int64) i0)), .second, .val (.long vb), .second, .val (.long vc), .second, .val (.long (((((own_mx (0 : Int64) i0).toUInt64 >>> ((32 : Int32) &&& 0x3f).toInt64.toUInt64).toInt64) + ((vb.toUInt64 >>> ((32 : Int32) &&& 0x3f).toInt64.toUInt64).toInt64)) + ((vc.toUInt64 >>> ((32 : Int32) &&& 0x3f).toInt64.toUInt64).toInt64))), .second, .val (.long ((((own_mx (0 : Int64) i0) &&& (4294967295 : Int64)) + (vb &&& (4294967295 : Int64))) + (vc &&& (4294967295 : Int64)))), .second, .val (.long ((((((own_mx (0 : Int64) i0).toUInt64 >>> ((32 : Int32) &&& 0x3f).toInt64.toUInt64).toInt64) + ((vb.toUInt64 >>> ((32 : Int32) &&& 0x3f).toInt64.toUInt64).toInt64)) + ((vc.toUInt64 >>> ((32 : Int32) &&& 0x3f).toInt64.toUInt64).toInt64)) + ((((((own_mx (0 : Int64) i0) &&& (4294967295 : Int64)) + (vb &&& (4294967295 : Int64))) + (vc &&& (4294967295 : Int64))).toUInt64 >>> ((32 : Int32) &&& 0x3f).toInt64.toUInt64).toInt64))), .second, .val (.long ((((((((own_mx (0 : Int64) i0).toUInt64 >>> ((32 : Int32) &&& 0x3f).toInt64.toUInt64).toInt64) + ((vb.toUInt64 >>> ((32 : Int32) &&& 0x3f).toInt64.toUInt64).toInt64)) + ((vc.toUInt64 >>> ((32 : Int32) &&& 0x3f).toInt64.toUInt64).toInt64)) + ((((((own_mx (0 : Int64) i0) &&& (4294967295 : Int64)) + (vb &&& (4294967295 : Int64))) + (vc &&& (4294967295 : Int64))).toUInt64 >>> ((32 : Int32) &&& 0x3f).toInt64.toUInt64).toInt64)).toUInt64 >>> ((31 : Int32) &&& 0x3f).toInt64.toUInt64).toInt64)), .second, .unset, .unset, .unset, .unset] [(.long (((((((((own_mx (0 : Int64) i0).toUInt64 >>> ((32 : Int32) &&& 0x3f).toInt64.toUInt64).toInt64) + ((vb.toUInt64 >>> ((32 : Int32) &&& 0x3f).toInt64.toUInt64).toInt64)) + ((vc.toUInt64 >>> ((32 : Int32) &&& 0x3f).toInt64.toUInt64).toInt64)) + ((((((own_mx (0 : Int64) i0) &&& (4294967295 : Int64)) + (vb &&& (4294967295 : Int64))) + (vc &&& (4294967295 : Int64))).toUInt64 >>> ((32 : Int32) &&& 0x3f).toInt64.toUInt64).toInt64)) &&& (2147483647 : Int64)) <<< ((32 : Int32) &&& 0x3f).toInt64) ||| (((((own_mx (0 : Int64) i0) &&& (4294967295 : Int64)) + (vb &&& (4294967295 : Int64))) + (vc &&& (4294967295 : Int64))) &&& (4294967295 : Int64))))])) _
    refine XS.lstore X_vc.here hx rfl (hb hby at_187) rfl (l' := #[.val (.long i0), .second, .val (.long i1), .second, .val (.long i2), .second, .val (.int i3), .val (.int i4), .val (.int (Int32.ofNat kn)), .val (.int (Int32.ofNat sn)), .val (.ref b5), .val (.ref b25), .val (.long (own_mx (0 : Int64) i0)), .second, .val (.long vb), .second, .val (.long vc), .second, .val (.long (((((own_mx (0 : Int64) i0).toUInt64 >>> ((32 : Int32) &&& 0x3f).toInt64.toUInt64).toInt64) + ((vb.toUInt64 >>> ((32 : Int32) &&& 0x3f).toInt64.toUInt64).toInt64)) + ((vc.toUInt64 >>> ((32 : Int32) &&& 0x3f).toInt64.toUInt64).toInt64))), .second, .val (.long ((((own_mx (0 : Int64) i0) &&& (4294967295 : Int64)) + (vb &&& (4294967295 : Int64))) + (vc &&& (4294967295 : Int64)))), .second, .val (.long ((((((own_mx (0 : Int64) i0).toUInt64 >>> ((32 : Int32) &&& 0x3f).toInt64.toUInt64).toInt64) + ((vb.toUInt64 >>> ((32 : Int32) &&& 0x3f).toInt64.toUInt64).toInt64)) + ((vc.toUInt64 >>> ((32 : Int32) &&& 0x3f).toInt64.toUInt64).toInt64)) + ((((((own_mx (0 : Int64) i0) &&& (4294967295 : Int64)) + (vb &&& (4294967295 : Int64))) + (vc &&& (4294967295 : Int64))).toUInt64 >>> ((32 : Int32) &&& 0x3f).toInt64.toUInt64).toInt64))), .second, .val (.long ((((((((own_mx (0 : Int64) i0).toUInt64 >>> ((32 : Int32) &&& 0x3f).toInt64.toUInt64).toInt64) + ((vb.toUInt64 >>> ((32 : Int32) &&& 0x3f).toInt64.toUInt64).toInt64)) + ((vc.toUInt64 >>> ((32 : Int32) &&& 0x3f).toInt64.toUInt64).toInt64)) + ((((((own_mx (0 : Int64) i0) &&& (4294967295 : Int64)) + (vb &&& (4294967295 : Int64))) + (vc &&& (4294967295 : Int64))).toUInt64 >>> ((32 : Int32) &&& 0x3f).toInt64.toUInt64).toInt64)).toUInt64 >>> ((31 : Int32) &&& 0x3f).toInt64.toUInt64).toInt64)), .second, .val (.long (((((((((own_mx (0 : Int64) i0).toUInt64 >>> ((32 : Int32) &&& 0x3f).toInt64.toUInt64).toInt64) + ((vb.toUInt64 >>> ((32 : Int32) &&& 0x3f).toInt64.toUInt64).toInt64)) + ((vc.toUInt64 >>> ((32 : Int32) &&& 0x3f).toInt64.toUInt64).toInt64)) + ((((((own_mx (0 : Int64) i0) &&& (4294967295 : Int64)) + (vb &&& (4294967295 : Int64))) + (vc &&& (4294967295 : Int64))).toUInt64 >>> ((32 : Int32) &&& 0x3f).toInt64.toUInt64).toInt64)) &&& (2147483647 : Int64)) <<< ((32 : Int32) &&& 0x3f).toInt64) ||| (((((own_mx (0 : Int64) i0) &&& (4294967295 : Int64)) + (vb &&& (4294967295 : Int64))) + (vc &&& (4294967295 : Int64))) &&& (4294967295 : Int64)))), .second, .unset, .unset]) rfl ?_
    exact kt
  have sg47 : ∀ t, Steps p.tables e below (T_vc.setTop (mkF m 208 #[.val (.long i0), .second, .val (.long i1), .second, .val (.long i2), .second, .val (.int i3), .val (.int i4), .val (.int (Int32.ofNat kn)), .val (.int (Int32.ofNat sn)), .val (.ref b5), .val (.ref b25), .val (.long (own_mx (0 : Int64) i0)), .second, .val (.long vb), .second, .val (.long vc), .second, .val (.long (((((own_mx (0 : Int64) i0).toUInt64 >>> ((32 : Int32) &&& 0x3f).toInt64.toUInt64).toInt64) + ((vb.toUInt64 >>> ((32 : Int32) &&& 0x3f).toInt64.toUInt64).toInt64)) + ((vc.toUInt64 >>> ((32 : Int32) &&& 0x3f).toInt64.toUInt64).toInt64))), .second, .val (.long ((((own_mx (0 : Int64) i0) &&& (4294967295 : Int64)) + (vb &&& (4294967295 : Int64))) + (vc &&& (4294967295 : Int64)))), .second, .val (.long ((((((own_mx (0 : Int64) i0).toUInt64 >>> ((32 : Int32) &&& 0x3f).toInt64.toUInt64).toInt64) + ((vb.toUInt64 >>> ((32 : Int32) &&& 0x3f).toInt64.toUInt64).toInt64)) + ((vc.toUInt64 >>> ((32 : Int32) &&& 0x3f).toInt64.toUInt64).toInt64)) + ((((((own_mx (0 : Int64) i0) &&& (4294967295 : Int64)) + (vb &&& (4294967295 : Int64))) + (vc &&& (4294967295 : Int64))).toUInt64 >>> ((32 : Int32) &&& 0x3f).toInt64.toUInt64).toInt64))), .second, .val (.long ((((((((own_mx (0 : Int64) i0).toUInt64 >>> ((32 : Int32) &&& 0x3f).toInt64.toUInt64).toInt64) + ((vb.toUInt64 >>> ((32 : Int32) &&& 0x3f).toInt64.toUInt64).toInt64)) + ((vc.toUInt64 >>> ((32 : Int32) &&& 0x3f).toInt64.toUInt64).toInt64)) + ((((((own_mx (0 : Int64) i0) &&& (4294967295 : Int64)) + (vb &&& (4294967295 : Int64))) + (vc &&& (4294967295 : Int64))).toUInt64 >>> ((32 : Int32) &&& 0x3f).toInt64.toUInt64).toInt64)).toUInt64 >>> ((31 : Int32) &&& 0x3f).toInt64.toUInt64).toInt64)), .second, .val (.long (((((((((own_mx (0 : Int64) i0).toUInt64 >>> ((32 : Int32) &&& 0x3f).toInt64.toUInt64).toInt64) + ((vb.toUInt64 >>> ((32 : Int32) &&& 0x3f).toInt64.toUInt64).toInt64)) + ((vc.toUInt64 >>> ((32 : Int32) &&& 0x3f).toInt64.toUInt64).toInt64)) + ((((((own_mx (0 : Int64) i0) &&& (4294967295 : Int64)) + (vb &&& (4294967295 : Int64))) + (vc &&& (4294967295 : Int64))).toUInt64 >>> ((32 : Int32) &&& 0x3f).toInt64.toUInt64).toInt64)) &&& (2147483647 : Int64)) <<< ((32 : Int32) &&& 0x3f).toInt64) ||| (((((own_mx (0 : Int64) i0) &&& (4294967295 : Int64)) + (vb &&& (4294967295 : Int64))) + (vc &&& (4294967295 : Int64))) &&& (4294967295 : Int64)))), .second, .val (.double (own_mn (own_W (own_mx 0 i0) vb vc) (own_R (own_mx 0 i0) vb vc) (Int32.ofNat kn).toInt64)), .second] [(.ref b25)])) t → Steps p.tables e below (T_vc.setTop (mkF m 189 #[.val (.long i0), .second, .val (.long i1), .second, .val (.long i2), .second, .val (.int i3), .val (.int i4), .val (.int (Int32.ofNat kn)), .val (.int (Int32.ofNat sn)), .val (.ref b5), .val (.ref b25), .val (.long (own_mx (0 : Int64) i0)), .second, .val (.long vb), .second, .val (.long vc), .second, .val (.long (((((own_mx (0 : Int64) i0).toUInt64 >>> ((32 : Int32) &&& 0x3f).toInt64.toUInt64).toInt64) + ((vb.toUInt64 >>> ((32 : Int32) &&& 0x3f).toInt64.toUInt64).toInt64)) + ((vc.toUInt64 >>> ((32 : Int32) &&& 0x3f).toInt64.toUInt64).toInt64))), .second, .val (.long ((((own_mx (0 : Int64) i0) &&& (4294967295 : Int64)) + (vb &&& (4294967295 : Int64))) + (vc &&& (4294967295 : Int64)))), .second, .val (.long ((((((own_mx (0 : Int64) i0).toUInt64 >>> ((32 : Int32) &&& 0x3f).toInt64.toUInt64).toInt64) + ((vb.toUInt64 >>> ((32 : Int32) &&& 0x3f).toInt64.toUInt64).toInt64)) + ((vc.toUInt64 >>> ((32 : Int32) &&& 0x3f).toInt64.toUInt64).toInt64)) + ((((((own_mx (0 : Int64) i0) &&& (4294967295 : Int64)) + (vb &&& (4294967295 : Int64))) + (vc &&& (4294967295 : Int64))).toUInt64 >>> ((32 : Int32) &&& 0x3f).toInt64.toUInt64).toInt64))), .second, .val (.long ((((((((own_mx (0 : Int64) i0).toUInt64 >>> ((32 : Int32) &&& 0x3f).toInt64.toUInt64).toInt64) + ((vb.toUInt64 >>> ((32 : Int32) &&& 0x3f).toInt64.toUInt64).toInt64)) + ((vc.toUInt64 >>> ((32 : Int32) &&& 0x3f).toInt64.toUInt64).toInt64)) + ((((((own_mx (0 : Int64) i0) &&& (4294967295 : Int64)) + (vb &&& (4294967295 : Int64))) + (vc &&& (4294967295 : Int64))).toUInt64 >>> ((32 : Int32) &&& 0x3f).toInt64.toUInt64).toInt64)).toUInt64 >>> ((31 : Int32) &&& 0x3f).toInt64.toUInt64).toInt64)), .second, .val (.long (((((((((own_mx (0 : Int64) i0).toUInt64 >>> ((32 : Int32) &&& 0x3f).toInt64.toUInt64).toInt64) + ((vb.toUInt64 >>> ((32 : Int32) &&& 0x3f).toInt64.toUInt64).toInt64)) + ((vc.toUInt64 >>> ((32 : Int32) &&& 0x3f).toInt64.toUInt64).toInt64)) + ((((((own_mx (0 : Int64) i0) &&& (4294967295 : Int64)) + (vb &&& (4294967295 : Int64))) + (vc &&& (4294967295 : Int64))).toUInt64 >>> ((32 : Int32) &&& 0x3f).toInt64.toUInt64).toInt64)) &&& (2147483647 : Int64)) <<< ((32 : Int32) &&& 0x3f).toInt64) ||| (((((own_mx (0 : Int64) i0) &&& (4294967295 : Int64)) + (vb &&& (4294967295 : Int64))) + (vc &&& (4294967295 : Int64))) &&& (4294967295 : Int64)))), .second, .unset, .unset] [])) t := by
    intro t kt
    refine XS.lload X_vc.here hx rfl (hb hby at_189) rfl ?_
    show Steps p.tables e below (T_vc.setTop (mkF m 191 #[.val (.long i0), .second, .val (.long i1), .second, .val (.long i2), .second, .val (.int i3), .val (.int i4), .val (.int (Int32.ofNat kn)), .val (.int (Int32.ofNat sn)), .val (.ref b5), .val (.ref b25), .val (.long (own_mx (0 : Int64) i0)), .second, .val (.long vb), .second, .val (.long vc), .second, .val (.long (((((own_mx (0 : Int64) i0).toUInt64 >>> ((32 : Int32) &&& 0x3f).toInt64.toUInt64).toInt64) + ((vb.toUInt64 >>> ((32 : Int32) &&& 0x3f).toInt64.toUInt64).toInt64)) + ((vc.toUInt64 >>> ((32 : Int32) &&& 0x3f).toInt64.toUInt64).toInt64))), .second, .val (.long ((((own_mx (0 : Int64) i0) &&& (4294967295 : Int64)) + (vb &&& (4294967295 : Int64))) + (vc &&& (4294967295 : Int64)))), .second, .val (.long ((((((own_mx (0 : Int64) i0).toUInt64 >>> ((32 : Int32) &&& 0x3f).toInt64.toUInt64).toInt64) + ((vb.toUInt64 >>> ((32 : Int32) &&& 0x3f).toInt64.toUInt64).toInt64)) + ((vc.toUInt64 >>> ((32 : Int32) &&& 0x3f).toInt64.toUInt64).toInt64)) + ((((((own_mx (0 : Int64) i0) &&& (4294967295 : Int64)) + (vb &&& (4294967295 : Int64))) + (vc &&& (4294967295 : Int64))).toUInt64 >>> ((32 : Int32) &&& 0x3f).toInt64.toUInt64).toInt64))), .second, .val (.long ((((((((own_mx (0 : Int64) i0).toUInt64 >>> ((32 : Int32) &&& 0x3f).toInt64.toUInt64).toInt64) + ((vb.toUInt64 >>> ((32 : Int32) &&& 0x3f).toInt64.toUInt64).toInt64)) + ((vc.toUInt64 >>> ((32 : Int32) &&& 0x3f).toInt64.toUInt64).toInt64)) + ((((((own_mx (0 : Int64) i0) &&& (4294967295 : Int64)) + (vb &&& (4294967295 : Int64))) + (vc &&& (4294967295 : Int64))).toUInt64 >>> ((32 : Int32) &&& 0x3f).toInt64.toUInt64).toInt64)).toUInt64 >>> ((31 : Int32) &&& 0x3f).toInt64.toUInt64).toInt64)), .second, .val (.long (((((((((own_mx (0 : Int64) i0).toUInt64 >>> ((32 : Int32) &&& 0x3f).toInt64.toUInt64).toInt64) + ((vb.toUInt64 >>> ((32 : Int32) &&& 0x3f).toInt64.toUInt64).toInt64)) + ((vc.toUInt64 >>> ((32 : Int32) &&& 0x3f).toInt64.toUInt64).toInt64)) + ((((((own_mx (0 : Int64) i0) &&& (4294967295 : Int64)) + (vb &&& (4294967295 : Int64))) + (vc &&& (4294967295 : Int64))).toUInt64 >>> ((32 : Int32) &&& 0x3f).toInt64.toUInt64).toInt64)) &&& (2147483647 : Int64)) <<< ((32 : Int32) &&& 0x3f).toInt64) ||| (((((own_mx (0 : Int64) i0) &&& (4294967295 : Int64)) + (vb &&& (4294967295 : Int64))) + (vc &&& (4294967295 : Int64))) &&& (4294967295 : Int64)))), .second, .unset, .unset] [(.long ((((((((own_mx (0 : Int64) i0).toUInt64 >>> ((32 : Int32) &&& 0x3f).toInt64.toUInt64).toInt64) + ((vb.toUInt64 >>> ((32 : Int32) &&& 0x3f).toInt64.toUInt64).toInt64)) + ((vc.toUInt64 >>> ((32 : Int32) &&& 0x3f).toInt64.toUInt64).toInt64)) + ((((((own_mx (0 : Int64) i0) &&& (4294967295 : Int64)) + (vb &&& (4294967295 : Int64))) + (vc &&& (4294967295 : Int64))).toUInt64 >>> ((32 : Int32) &&& 0x3f).toInt64.toUInt64).toInt64)).toUInt64 >>> ((31 : Int32) &&& 0x3f).toInt64.toUInt64).toInt64))])) _
    refine XS.l2dS X_vc.here hx rfl (hb hby at_191) rfl (v := (FP.l2d ((((((((own_mx (0 : Int64) i0).toUInt64 >>> ((32 : Int32) &&& 0x3f).toInt64.toUInt64).toInt64) + ((vb.toUInt64 >>> ((32 : Int32) &&& 0x3f).toInt64.toUInt64).toInt64)) + ((vc.toUInt64 >>> ((32 : Int32) &&& 0x3f).toInt64.toUInt64).toInt64)) + ((((((own_mx (0 : Int64) i0) &&& (4294967295 : Int64)) + (vb &&& (4294967295 : Int64))) + (vc &&& (4294967295 : Int64))).toUInt64 >>> ((32 : Int32) &&& 0x3f).toInt64.toUInt64).toInt64)).toUInt64 >>> ((31 : Int32) &&& 0x3f).toInt64.toUInt64).toInt64))) rfl ?_
    show Steps p.tables e below (T_vc.setTop (mkF m 192 #[.val (.long i0), .second, .val (.long i1), .second, .val (.long i2), .second, .val (.int i3), .val (.int i4), .val (.int (Int32.ofNat kn)), .val (.int (Int32.ofNat sn)), .val (.ref b5), .val (.ref b25), .val (.long (own_mx (0 : Int64) i0)), .second, .val (.long vb), .second, .val (.long vc), .second, .val (.long (((((own_mx (0 : Int64) i0).toUInt64 >>> ((32 : Int32) &&& 0x3f).toInt64.toUInt64).toInt64) + ((vb.toUInt64 >>> ((32 : Int32) &&& 0x3f).toInt64.toUInt64).toInt64)) + ((vc.toUInt64 >>> ((32 : Int32) &&& 0x3f).toInt64.toUInt64).toInt64))), .second, .val (.long ((((own_mx (0 : Int64) i0) &&& (4294967295 : Int64)) + (vb &&& (4294967295 : Int64))) + (vc &&& (4294967295 : Int64)))), .second, .val (.long ((((((own_mx (0 : Int64) i0).toUInt64 >>> ((32 : Int32) &&& 0x3f).toInt64.toUInt64).toInt64) + ((vb.toUInt64 >>> ((32 : Int32) &&& 0x3f).toInt64.toUInt64).toInt64)) + ((vc.toUInt64 >>> ((32 : Int32) &&& 0x3f).toInt64.toUInt64).toInt64)) + ((((((own_mx (0 : Int64) i0) &&& (4294967295 : Int64)) + (vb &&& (4294967295 : Int64))) + (vc &&& (4294967295 : Int64))).toUInt64 >>> ((32 : Int32) &&& 0x3f).toInt64.toUInt64).toInt64))), .second, .val (.long ((((((((own_mx (0 : Int64) i0).toUInt64 >>> ((32 : Int32) &&& 0x3f).toInt64.toUInt64).toInt64) + ((vb.toUInt64 >>> ((32 : Int32) &&& 0x3f).toInt64.toUInt64).toInt64)) + ((vc.toUInt64 >>> ((32 : Int32) &&& 0x3f).toInt64.toUInt64).toInt64)) + ((((((own_mx (0 : Int64) i0) &&& (4294967295 : Int64)) + (vb &&& (4294967295 : Int64))) + (vc &&& (4294967295 : Int64))).toUInt64 >>> ((32 : Int32) &&& 0x3f).toInt64.toUInt64).toInt64)).toUInt64 >>> ((31 : Int32) &&& 0x3f).toInt64.toUInt64).toInt64)), .second, .val (.long (((((((((own_mx (0 : Int64) i0).toUInt64 >>> ((32 : Int32) &&& 0x3f).toInt64.toUInt64).toInt64) + ((vb.toUInt64 >>> ((32 : Int32) &&& 0x3f).toInt64.toUInt64).toInt64)) + ((vc.toUInt64 >>> ((32 : Int32) &&& 0x3f).toInt64.toUInt64).toInt64)) + ((((((own_mx (0 : Int64) i0) &&& (4294967295 : Int64)) + (vb &&& (4294967295 : Int64))) + (vc &&& (4294967295 : Int64))).toUInt64 >>> ((32 : Int32) &&& 0x3f).toInt64.toUInt64).toInt64)) &&& (2147483647 : Int64)) <<< ((32 : Int32) &&& 0x3f).toInt64) ||| (((((own_mx (0 : Int64) i0) &&& (4294967295 : Int64)) + (vb &&& (4294967295 : Int64))) + (vc &&& (4294967295 : Int64))) &&& (4294967295 : Int64)))), .second, .unset, .unset] [(.double (FP.l2d ((((((((own_mx (0 : Int64) i0).toUInt64 >>> ((32 : Int32) &&& 0x3f).toInt64.toUInt64).toInt64) + ((vb.toUInt64 >>> ((32 : Int32) &&& 0x3f).toInt64.toUInt64).toInt64)) + ((vc.toUInt64 >>> ((32 : Int32) &&& 0x3f).toInt64.toUInt64).toInt64)) + ((((((own_mx (0 : Int64) i0) &&& (4294967295 : Int64)) + (vb &&& (4294967295 : Int64))) + (vc &&& (4294967295 : Int64))).toUInt64 >>> ((32 : Int32) &&& 0x3f).toInt64.toUInt64).toInt64)).toUInt64 >>> ((31 : Int32) &&& 0x3f).toInt64.toUInt64).toInt64)))])) _
    refine X_vc.ldc2DoubleC hx hown (mvT hZ (hw _ (List.mem_of_getElem? (i := 57) rfl))) (g := (mkF m 192 #[.val (.long i0), .second, .val (.long i1), .second, .val (.long i2), .second, .val (.int i3), .val (.int i4), .val (.int (Int32.ofNat kn)), .val (.int (Int32.ofNat sn)), .val (.ref b5), .val (.ref b25), .val (.long (own_mx (0 : Int64) i0)), .second, .val (.long vb), .second, .val (.long vc), .second, .val (.long (((((own_mx (0 : Int64) i0).toUInt64 >>> ((32 : Int32) &&& 0x3f).toInt64.toUInt64).toInt64) + ((vb.toUInt64 >>> ((32 : Int32) &&& 0x3f).toInt64.toUInt64).toInt64)) + ((vc.toUInt64 >>> ((32 : Int32) &&& 0x3f).toInt64.toUInt64).toInt64))), .second, .val (.long ((((own_mx (0 : Int64) i0) &&& (4294967295 : Int64)) + (vb &&& (4294967295 : Int64))) + (vc &&& (4294967295 : Int64)))), .second, .val (.long ((((((own_mx (0 : Int64) i0).toUInt64 >>> ((32 : Int32) &&& 0x3f).toInt64.toUInt64).toInt64) + ((vb.toUInt64 >>> ((32 : Int32) &&& 0x3f).toInt64.toUInt64).toInt64)) + ((vc.toUInt64 >>> ((32 : Int32) &&& 0x3f).toInt64.toUInt64).toInt64)) + ((((((own_mx (0 : Int64) i0) &&& (4294967295 : Int64)) + (vb &&& (4294967295 : Int64))) + (vc &&& (4294967295 : Int64))).toUInt64 >>> ((32 : Int32) &&& 0x3f).toInt64.toUInt64).toInt64))), .second, .val (.long ((((((((own_mx (0 : Int64) i0).toUInt64 >>> ((32 : Int32) &&& 0x3f).toInt64.toUInt64).toInt64) + ((vb.toUInt64 >>> ((32 : Int32) &&& 0x3f).toInt64.toUInt64).toInt64)) + ((vc.toUInt64 >>> ((32 : Int32) &&& 0x3f).toInt64.toUInt64).toInt64)) + ((((((own_mx (0 : Int64) i0) &&& (4294967295 : Int64)) + (vb &&& (4294967295 : Int64))) + (vc &&& (4294967295 : Int64))).toUInt64 >>> ((32 : Int32) &&& 0x3f).toInt64.toUInt64).toInt64)).toUInt64 >>> ((31 : Int32) &&& 0x3f).toInt64.toUInt64).toInt64)), .second, .val (.long (((((((((own_mx (0 : Int64) i0).toUInt64 >>> ((32 : Int32) &&& 0x3f).toInt64.toUInt64).toInt64) + ((vb.toUInt64 >>> ((32 : Int32) &&& 0x3f).toInt64.toUInt64).toInt64)) + ((vc.toUInt64 >>> ((32 : Int32) &&& 0x3f).toInt64.toUInt64).toInt64)) + ((((((own_mx (0 : Int64) i0) &&& (4294967295 : Int64)) + (vb &&& (4294967295 : Int64))) + (vc &&& (4294967295 : Int64))).toUInt64 >>> ((32 : Int32) &&& 0x3f).toInt64.toUInt64).toInt64)) &&& (2147483647 : Int64)) <<< ((32 : Int32) &&& 0x3f).toInt64) ||| (((((own_mx (0 : Int64) i0) &&& (4294967295 : Int64)) + (vb &&& (4294967295 : Int64))) + (vc &&& (4294967295 : Int64))) &&& (4294967295 : Int64)))), .second, .unset, .unset] [(.double (FP.l2d ((((((((own_mx (0 : Int64) i0).toUInt64 >>> ((32 : Int32) &&& 0x3f).toInt64.toUInt64).toInt64) + ((vb.toUInt64 >>> ((32 : Int32) &&& 0x3f).toInt64.toUInt64).toInt64)) + ((vc.toUInt64 >>> ((32 : Int32) &&& 0x3f).toInt64.toUInt64).toInt64)) + ((((((own_mx (0 : Int64) i0) &&& (4294967295 : Int64)) + (vb &&& (4294967295 : Int64))) + (vc &&& (4294967295 : Int64))).toUInt64 >>> ((32 : Int32) &&& 0x3f).toInt64.toUInt64).toInt64)).toUInt64 >>> ((31 : Int32) &&& 0x3f).toInt64.toUInt64).toInt64)))])) rfl (hb hby at_192) _ ?_
    show Steps p.tables e below (T_vc.setTop (mkF m 195 #[.val (.long i0), .second, .val (.long i1), .second, .val (.long i2), .second, .val (.int i3), .val (.int i4), .val (.int (Int32.ofNat kn)), .val (.int (Int32.ofNat sn)), .val (.ref b5), .val (.ref b25), .val (.long (own_mx (0 : Int64) i0)), .second, .val (.long vb), .second, .val (.long vc), .second, .val (.long (((((own_mx (0 : Int64) i0).toUInt64 >>> ((32 : Int32) &&& 0x3f).toInt64.toUInt64).toInt64) + ((vb.toUInt64 >>> ((32 : Int32) &&& 0x3f).toInt64.toUInt64).toInt64)) + ((vc.toUInt64 >>> ((32 : Int32) &&& 0x3f).toInt64.toUInt64).toInt64))), .second, .val (.long ((((own_mx (0 : Int64) i0) &&& (4294967295 : Int64)) + (vb &&& (4294967295 : Int64))) + (vc &&& (4294967295 : Int64)))), .second, .val (.long ((((((own_mx (0 : Int64) i0).toUInt64 >>> ((32 : Int32) &&& 0x3f).toInt64.toUInt64).toInt64) + ((vb.toUInt64 >>> ((32 : Int32) &&& 0x3f).toInt64.toUInt64).toInt64)) + ((vc.toUInt64 >>> ((32 : Int32) &&& 0x3f).toInt64.toUInt64).toInt64)) + ((((((own_mx (0 : Int64) i0) &&& (4294967295 : Int64)) + (vb &&& (4294967295 : Int64))) + (vc &&& (4294967295 : Int64))).toUInt64 >>> ((32 : Int32) &&& 0x3f).toInt64.toUInt64).toInt64))), .second, .val (.long ((((((((own_mx (0 : Int64) i0).toUInt64 >>> ((32 : Int32) &&& 0x3f).toInt64.toUInt64).toInt64) + ((vb.toUInt64 >>> ((32 : Int32) &&& 0x3f).toInt64.toUInt64).toInt64)) + ((vc.toUInt64 >>> ((32 : Int32) &&& 0x3f).toInt64.toUInt64).toInt64)) + ((((((own_mx (0 : Int64) i0) &&& (4294967295 : Int64)) + (vb &&& (4294967295 : Int64))) + (vc &&& (4294967295 : Int64))).toUInt64 >>> ((32 : Int32) &&& 0x3f).toInt64.toUInt64).toInt64)).toUInt64 >>> ((31 : Int32) &&& 0x3f).toInt64.toUInt64).toInt64)), .second, .val (.long (((((((((own_mx (0 : Int64) i0).toUInt64 >>> ((32 : Int32) &&& 0x3f).toInt64.toUInt64).toInt64) + ((vb.toUInt64 >>> ((32 : Int32) &&& 0x3f).toInt64.toUInt64).toInt64)) + ((vc.toUInt64 >>> ((32 : Int32) &&& 0x3f).toInt64.toUInt64).toInt64)) + ((((((own_mx (0 : Int64) i0) &&& (4294967295 : Int64)) + (vb &&& (4294967295 : Int64))) + (vc &&& (4294967295 : Int64))).toUInt64 >>> ((32 : Int32) &&& 0x3f).toInt64.toUInt64).toInt64)) &&& (2147483647 : Int64)) <<< ((32 : Int32) &&& 0x3f).toInt64) ||| (((((own_mx (0 : Int64) i0) &&& (4294967295 : Int64)) + (vb &&& (4294967295 : Int64))) + (vc &&& (4294967295 : Int64))) &&& (4294967295 : Int64)))), .second, .unset, .unset] [(.double (4890909195324358656 : UInt64)), (.double (FP.l2d ((((((((own_mx (0 : Int64) i0).toUInt64 >>> ((32 : Int32) &&& 0x3f).toInt64.toUInt64).toInt64) + ((vb.toUInt64 >>> ((32 : Int32) &&& 0x3f).toInt64.toUInt64).toInt64)) + ((vc.toUInt64 >>> ((32 : Int32) &&& 0x3f).toInt64.toUInt64).toInt64)) + ((((((own_mx (0 : Int64) i0) &&& (4294967295 : Int64)) + (vb &&& (4294967295 : Int64))) + (vc &&& (4294967295 : Int64))).toUInt64 >>> ((32 : Int32) &&& 0x3f).toInt64.toUInt64).toInt64)).toUInt64 >>> ((31 : Int32) &&& 0x3f).toInt64.toUInt64).toInt64)))])) _
    refine XS.dmulS X_vc.here hx rfl (hb hby at_195) rfl (own_k1 _) (v := (FP.dmul (FP.l2d ((((((((own_mx (0 : Int64) i0).toUInt64 >>> ((32 : Int32) &&& 0x3f).toInt64.toUInt64).toInt64) + ((vb.toUInt64 >>> ((32 : Int32) &&& 0x3f).toInt64.toUInt64).toInt64)) + ((vc.toUInt64 >>> ((32 : Int32) &&& 0x3f).toInt64.toUInt64).toInt64)) + ((((((own_mx (0 : Int64) i0) &&& (4294967295 : Int64)) + (vb &&& (4294967295 : Int64))) + (vc &&& (4294967295 : Int64))).toUInt64 >>> ((32 : Int32) &&& 0x3f).toInt64.toUInt64).toInt64)).toUInt64 >>> ((31 : Int32) &&& 0x3f).toInt64.toUInt64).toInt64)) (4890909195324358656 : UInt64))) rfl ?_
    show Steps p.tables e below (T_vc.setTop (mkF m 196 #[.val (.long i0), .second, .val (.long i1), .second, .val (.long i2), .second, .val (.int i3), .val (.int i4), .val (.int (Int32.ofNat kn)), .val (.int (Int32.ofNat sn)), .val (.ref b5), .val (.ref b25), .val (.long (own_mx (0 : Int64) i0)), .second, .val (.long vb), .second, .val (.long vc), .second, .val (.long (((((own_mx (0 : Int64) i0).toUInt64 >>> ((32 : Int32) &&& 0x3f).toInt64.toUInt64).toInt64) + ((vb.toUInt64 >>> ((32 : Int32) &&& 0x3f).toInt64.toUInt64).toInt64)) + ((vc.toUInt64 >>> ((32 : Int32) &&& 0x3f).toInt64.toUInt64).toInt64))), .second, .val (.long ((((own_mx (0 : Int64) i0) &&& (4294967295 : Int64)) + (vb &&& (4294967295 : Int64))) + (vc &&& (4294967295 : Int64)))), .second, .val (.long ((((((own_mx (0 : Int64) i0).toUInt64 >>> ((32 : Int32) &&& 0x3f).toInt64.toUInt64).toInt64) + ((vb.toUInt64 >>> ((32 : Int32) &&& 0x3f).toInt64.toUInt64).toInt64)) + ((vc.toUInt64 >>> ((32 : Int32) &&& 0x3f).toInt64.toUInt64).toInt64)) + ((((((own_mx (0 : Int64) i0) &&& (4294967295 : Int64)) + (vb &&& (4294967295 : Int64))) + (vc &&& (4294967295 : Int64))).toUInt64 >>> ((32 : Int32) &&& 0x3f).toInt64.toUInt64).toInt64))), .second, .val (.long ((((((((own_mx (0 : Int64) i0).toUInt64 >>> ((32 : Int32) &&& 0x3f).toInt64.toUInt64).toInt64) + ((vb.toUInt64 >>> ((32 : Int32) &&& 0x3f).toInt64.toUInt64).toInt64)) + ((vc.toUInt64 >>> ((32 : Int32) &&& 0x3f).toInt64.toUInt64).toInt64)) + ((((((own_mx (0 : Int64) i0) &&& (4294967295 : Int64)) + (vb &&& (4294967295 : Int64))) + (vc &&& (4294967295 : Int64))).toUInt64 >>> ((32 : Int32) &&& 0x3f).toInt64.toUInt64).toInt64)).toUInt64 >>> ((31 : Int32) &&& 0x3f).toInt64.toUInt64).toInt64)), .second, .val (.long (((((((((own_mx (0 : Int64) i0).toUInt64 >>> ((32 : Int32) &&& 0x3f).toInt64.toUInt64).toInt64) + ((vb.toUInt64 >>> ((32 : Int32) &&& 0x3f).toInt64.toUInt64).toInt64)) + ((vc.toUInt64 >>> ((32 : Int32) &&& 0x3f).toInt64.toUInt64).toInt64)) + ((((((own_mx (0 : Int64) i0) &&& (4294967295 : Int64)) + (vb &&& (4294967295 : Int64))) + (vc &&& (4294967295 : Int64))).toUInt64 >>> ((32 : Int32) &&& 0x3f).toInt64.toUInt64).toInt64)) &&& (2147483647 : Int64)) <<< ((32 : Int32) &&& 0x3f).toInt64) ||| (((((own_mx (0 : Int64) i0) &&& (4294967295 : Int64)) + (vb &&& (4294967295 : Int64))) + (vc &&& (4294967295 : Int64))) &&& (4294967295 : Int64)))), .second, .unset, .unset] [(.double (FP.dmul (FP.l2d ((((((((own_mx (0 : Int64) i0).toUInt64 >>> ((32 : Int32) &&& 0x3f).toInt64.toUInt64).toInt64) + ((vb.toUInt64 >>> ((32 : Int32) &&& 0x3f).toInt64.toUInt64).toInt64)) + ((vc.toUInt64 >>> ((32 : Int32) &&& 0x3f).toInt64.toUInt64).toInt64)) + ((((((own_mx (0 : Int64) i0) &&& (4294967295 : Int64)) + (vb &&& (4294967295 : Int64))) + (vc &&& (4294967295 : Int64))).toUInt64 >>> ((32 : Int32) &&& 0x3f).toInt64.toUInt64).toInt64)).toUInt64 >>> ((31 : Int32) &&& 0x3f).toInt64.toUInt64).toInt64)) (4890909195324358656 : UInt64)))])) _
    refine XS.lload X_vc.here hx rfl (hb hby at_196) rfl ?_
    show Steps p.tables e below (T_vc.setTop (mkF m 198 #[.val (.long i0), .second, .val (.long i1), .second, .val (.long i2), .second, .val (.int i3), .val (.int i4), .val (.int (Int32.ofNat kn)), .val (.int (Int32.ofNat sn)), .val (.ref b5), .val (.ref b25), .val (.long (own_mx (0 : Int64) i0)), .second, .val (.long vb), .second, .val (.long vc), .second, .val (.long (((((own_mx (0 : Int64) i0).toUInt64 >>> ((32 : Int32) &&& 0x3f).toInt64.toUInt64).toInt64) + ((vb.toUInt64 >>> ((32 : Int32) &&& 0x3f).toInt64.toUInt64).toInt64)) + ((vc.toUInt64 >>> ((32 : Int32) &&& 0x3f).toInt64.toUInt64).toInt64))), .second, .val (.long ((((own_mx (0 : Int64) i0) &&& (4294967295 : Int64)) + (vb &&& (4294967295 : Int64))) + (vc &&& (4294967295 : Int64)))), .second, .val (.long ((((((own_mx (0 : Int64) i0).toUInt64 >>> ((32 : Int32) &&& 0x3f).toInt64.toUInt64).toInt64) + ((vb.toUInt64 >>> ((32 : Int32) &&& 0x3f).toInt64.toUInt64).toInt64)) + ((vc.toUInt64 >>> ((32 : Int32) &&& 0x3f).toInt64.toUInt64).toInt64)) + ((((((own_mx (0 : Int64) i0) &&& (4294967295 : Int64)) + (vb &&& (4294967295 : Int64))) + (vc &&& (4294967295 : Int64))).toUInt64 >>> ((32 : Int32) &&& 0x3f).toInt64.toUInt64).toInt64))), .second, .val (.long ((((((((own_mx (0 : Int64) i0).toUInt64 >>> ((32 : Int32) &&& 0x3f).toInt64.toUInt64).toInt64) + ((vb.toUInt64 >>> ((32 : Int32) &&& 0x3f).toInt64.toUInt64).toInt64)) + ((vc.toUInt64 >>> ((32 : Int32) &&& 0x3f).toInt64.toUInt64).toInt64)) + ((((((own_mx (0 : Int64) i0) &&& (4294967295 : Int64)) + (vb &&& (4294967295 : Int64))) + (vc &&& (4294967295 : Int64))).toUInt64 >>> ((32 : Int32) &&& 0x3f).toInt64.toUInt64).toInt64)).toUInt64 >>> ((31 : Int32) &&& 0x3f).toInt64.toUInt64).toInt64)), .second, .val (.long (((((((((own_mx (0 : Int64) i0).toUInt64 >>> ((32 : Int32) &&& 0x3f).toInt64.toUInt64).toInt64) + ((vb.toUInt64 >>> ((32 : Int32) &&& 0x3f).toInt64.toUInt64).toInt64)) + ((vc.toUInt64 >>> ((32 : Int32) &&& 0x3f).toInt64.toUInt64).toInt64)) + ((((((own_mx (0 : Int64) i0) &&& (4294967295 : Int64)) + (vb &&& (4294967295 : Int64))) + (vc &&& (4294967295 : Int64))).toUInt64 >>> ((32 : Int32) &&& 0x3f).toInt64.toUInt64).toInt64)) &&& (2147483647 : Int64)) <<< ((32 : Int32) &&& 0x3f).toInt64) ||| (((((own_mx (0 : Int64) i0) &&& (4294967295 : Int64)) + (vb &&& (4294967295 : Int64))) + (vc &&& (4294967295 : Int64))) &&& (4294967295 : Int64)))), .second, .unset, .unset] [(.long (((((((((own_mx (0 : Int64) i0).toUInt64 >>> ((32 : Int32) &&& 0x3f).toInt64.toUInt64).toInt64) + ((vb.toUInt64 >>> ((32 : Int32) &&& 0x3f).toInt64.toUInt64).toInt64)) + ((vc.toUInt64 >>> ((32 : Int32) &&& 0x3f).toInt64.toUInt64).toInt64)) + ((((((own_mx (0 : Int64) i0) &&& (4294967295 : Int64)) + (vb &&& (4294967295 : Int64))) + (vc &&& (4294967295 : Int64))).toUInt64 >>> ((32 : Int32) &&& 0x3f).toInt64.toUInt64).toInt64)) &&& (2147483647 : Int64)) <<< ((32 : Int32) &&& 0x3f).toInt64) ||| (((((own_mx (0 : Int64) i0) &&& (4294967295 : Int64)) + (vb &&& (4294967295 : Int64))) + (vc &&& (4294967295 : Int64))) &&& (4294967295 : Int64)))), (.double (FP.dmul (FP.l2d ((((((((own_mx (0 : Int64) i0).toUInt64 >>> ((32 : Int32) &&& 0x3f).toInt64.toUInt64).toInt64) + ((vb.toUInt64 >>> ((32 : Int32) &&& 0x3f).toInt64.toUInt64).toInt64)) + ((vc.toUInt64 >>> ((32 : Int32) &&& 0x3f).toInt64.toUInt64).toInt64)) + ((((((own_mx (0 : Int64) i0) &&& (4294967295 : Int64)) + (vb &&& (4294967295 : Int64))) + (vc &&& (4294967295 : Int64))).toUInt64 >>> ((32 : Int32) &&& 0x3f).toInt64.toUInt64).toInt64)).toUInt64 >>> ((31 : Int32) &&& 0x3f).toInt64.toUInt64).toInt64)) (4890909195324358656 : UInt64)))])) _
    refine XS.l2dS X_vc.here hx rfl (hb hby at_198) rfl (v := (FP.l2d (((((((((own_mx (0 : Int64) i0).toUInt64 >>> ((32 : Int32) &&& 0x3f).toInt64.toUInt64).toInt64) + ((vb.toUInt64 >>> ((32 : Int32) &&& 0x3f).toInt64.toUInt64).toInt64)) + ((vc.toUInt64 >>> ((32 : Int32) &&& 0x3f).toInt64.toUInt64).toInt64)) + ((((((own_mx (0 : Int64) i0) &&& (4294967295 : Int64)) + (vb &&& (4294967295 : Int64))) + (vc &&& (4294967295 : Int64))).toUInt64 >>> ((32 : Int32) &&& 0x3f).toInt64.toUInt64).toInt64)) &&& (2147483647 : Int64)) <<< ((32 : Int32) &&& 0x3f).toInt64) ||| (((((own_mx (0 : Int64) i0) &&& (4294967295 : Int64)) + (vb &&& (4294967295 : Int64))) + (vc &&& (4294967295 : Int64))) &&& (4294967295 : Int64))))) rfl ?_
    show Steps p.tables e below (T_vc.setTop (mkF m 199 #[.val (.long i0), .second, .val (.long i1), .second, .val (.long i2), .second, .val (.int i3), .val (.int i4), .val (.int (Int32.ofNat kn)), .val (.int (Int32.ofNat sn)), .val (.ref b5), .val (.ref b25), .val (.long (own_mx (0 : Int64) i0)), .second, .val (.long vb), .second, .val (.long vc), .second, .val (.long (((((own_mx (0 : Int64) i0).toUInt64 >>> ((32 : Int32) &&& 0x3f).toInt64.toUInt64).toInt64) + ((vb.toUInt64 >>> ((32 : Int32) &&& 0x3f).toInt64.toUInt64).toInt64)) + ((vc.toUInt64 >>> ((32 : Int32) &&& 0x3f).toInt64.toUInt64).toInt64))), .second, .val (.long ((((own_mx (0 : Int64) i0) &&& (4294967295 : Int64)) + (vb &&& (4294967295 : Int64))) + (vc &&& (4294967295 : Int64)))), .second, .val (.long ((((((own_mx (0 : Int64) i0).toUInt64 >>> ((32 : Int32) &&& 0x3f).toInt64.toUInt64).toInt64) + ((vb.toUInt64 >>> ((32 : Int32) &&& 0x3f).toInt64.toUInt64).toInt64)) + ((vc.toUInt64 >>> ((32 : Int32) &&& 0x3f).toInt64.toUInt64).toInt64)) + ((((((own_mx (0 : Int64) i0) &&& (4294967295 : Int64)) + (vb &&& (4294967295 : Int64))) + (vc &&& (4294967295 : Int64))).toUInt64 >>> ((32 : Int32) &&& 0x3f).toInt64.toUInt64).toInt64))), .second, .val (.long ((((((((own_mx (0 : Int64) i0).toUInt64 >>> ((32 : Int32) &&& 0x3f).toInt64.toUInt64).toInt64) + ((vb.toUInt64 >>> ((32 : Int32) &&& 0x3f).toInt64.toUInt64).toInt64)) + ((vc.toUInt64 >>> ((32 : Int32) &&& 0x3f).toInt64.toUInt64).toInt64)) + ((((((own_mx (0 : Int64) i0) &&& (4294967295 : Int64)) + (vb &&& (4294967295 : Int64))) + (vc &&& (4294967295 : Int64))).toUInt64 >>> ((32 : Int32) &&& 0x3f).toInt64.toUInt64).toInt64)).toUInt64 >>> ((31 : Int32) &&& 0x3f).toInt64.toUInt64).toInt64)), .second, .val (.long (((((((((own_mx (0 : Int64) i0).toUInt64 >>> ((32 : Int32) &&& 0x3f).toInt64.toUInt64).toInt64) + ((vb.toUInt64 >>> ((32 : Int32) &&& 0x3f).toInt64.toUInt64).toInt64)) + ((vc.toUInt64 >>> ((32 : Int32) &&& 0x3f).toInt64.toUInt64).toInt64)) + ((((((own_mx (0 : Int64) i0) &&& (4294967295 : Int64)) + (vb &&& (4294967295 : Int64))) + (vc &&& (4294967295 : Int64))).toUInt64 >>> ((32 : Int32) &&& 0x3f).toInt64.toUInt64).toInt64)) &&& (2147483647 : Int64)) <<< ((32 : Int32) &&& 0x3f).toInt64) ||| (((((own_mx (0 : Int64) i0) &&& (4294967295 : Int64)) + (vb &&& (4294967295 : Int64))) + (vc &&& (4294967295 : Int64))) &&& (4294967295 : Int64)))), .second, .unset, .unset] [(.double (FP.l2d (((((((((own_mx (0 : Int64) i0).toUInt64 >>> ((32 : Int32) &&& 0x3f).toInt64.toUInt64).toInt64) + ((vb.toUInt64 >>> ((32 : Int32) &&& 0x3f).toInt64.toUInt64).toInt64)) + ((vc.toUInt64 >>> ((32 : Int32) &&& 0x3f).toInt64.toUInt64).toInt64)) + ((((((own_mx (0 : Int64) i0) &&& (4294967295 : Int64)) + (vb &&& (4294967295 : Int64))) + (vc &&& (4294967295 : Int64))).toUInt64 >>> ((32 : Int32) &&& 0x3f).toInt64.toUInt64).toInt64)) &&& (2147483647 : Int64)) <<< ((32 : Int32) &&& 0x3f).toInt64) ||| (((((own_mx (0 : Int64) i0) &&& (4294967295 : Int64)) + (vb &&& (4294967295 : Int64))) + (vc &&& (4294967295 : Int64))) &&& (4294967295 : Int64))))), (.double (FP.dmul (FP.l2d ((((((((own_mx (0 : Int64) i0).toUInt64 >>> ((32 : Int32) &&& 0x3f).toInt64.toUInt64).toInt64) + ((vb.toUInt64 >>> ((32 : Int32) &&& 0x3f).toInt64.toUInt64).toInt64)) + ((vc.toUInt64 >>> ((32 : Int32) &&& 0x3f).toInt64.toUInt64).toInt64)) + ((((((own_mx (0 : Int64) i0) &&& (4294967295 : Int64)) + (vb &&& (4294967295 : Int64))) + (vc &&& (4294967295 : Int64))).toUInt64 >>> ((32 : Int32) &&& 0x3f).toInt64.toUInt64).toInt64)).toUInt64 >>> ((31 : Int32) &&& 0x3f).toInt64.toUInt64).toInt64)) (4890909195324358656 : UInt64)))])) _
    refine XS.daddS X_vc.here hx rfl (hb hby at_199) rfl (own_k2 _ _) (v := (FP.dadd (FP.dmul (FP.l2d ((((((((own_mx (0 : Int64) i0).toUInt64 >>> ((32 : Int32) &&& 0x3f).toInt64.toUInt64).toInt64) + ((vb.toUInt64 >>> ((32 : Int32) &&& 0x3f).toInt64.toUInt64).toInt64)) + ((vc.toUInt64 >>> ((32 : Int32) &&& 0x3f).toInt64.toUInt64).toInt64)) + ((((((own_mx (0 : Int64) i0) &&& (4294967295 : Int64)) + (vb &&& (4294967295 : Int64))) + (vc &&& (4294967295 : Int64))).toUInt64 >>> ((32 : Int32) &&& 0x3f).toInt64.toUInt64).toInt64)).toUInt64 >>> ((31 : Int32) &&& 0x3f).toInt64.toUInt64).toInt64)) (4890909195324358656 : UInt64)) (FP.l2d (((((((((own_mx (0 : Int64) i0).toUInt64 >>> ((32 : Int32) &&& 0x3f).toInt64.toUInt64).toInt64) + ((vb.toUInt64 >>> ((32 : Int32) &&& 0x3f).toInt64.toUInt64).toInt64)) + ((vc.toUInt64 >>> ((32 : Int32) &&& 0x3f).toInt64.toUInt64).toInt64)) + ((((((own_mx (0 : Int64) i0) &&& (4294967295 : Int64)) + (vb &&& (4294967295 : Int64))) + (vc &&& (4294967295 : Int64))).toUInt64 >>> ((32 : Int32) &&& 0x3f).toInt64.toUInt64).toInt64)) &&& (2147483647 : Int64)) <<< ((32 : Int32) &&& 0x3f).toInt64) ||| (((((own_mx (0 : Int64) i0) &&& (4294967295 : Int64)) + (vb &&& (4294967295 : Int64))) + (vc &&& (4294967295 : Int64))) &&& (4294967295 : Int64)))))) rfl ?_
    show Steps p.tables e below (T_vc.setTop (mkF m 200 #[.val (.long i0), .second, .val (.long i1), .second, .val (.long i2), .second, .val (.int i3), .val (.int i4), .val (.int (Int32.ofNat kn)), .val (.int (Int32.ofNat sn)), .val (.ref b5), .val (.ref b25), .val (.long (own_mx (0 : Int64) i0)), .second, .val (.long vb), .second, .val (.long vc), .second, .val (.long (((((own_mx (0 : Int64) i0).toUInt64 >>> ((32 : Int32) &&& 0x3f).toInt64.toUInt64).toInt64) + ((vb.toUInt64 >>> ((32 : Int32) &&& 0x3f).toInt64.toUInt64).toInt64)) + ((vc.toUInt64 >>> ((32 : Int32) &&& 0x3f).toInt64.toUInt64).toInt64))), .second, .val (.long ((((own_mx (0 : Int64) i0) &&& (4294967295 : Int64)) + (vb &&& (4294967295 : Int64))) + (vc &&& (4294967295 : Int64)))), .second, .val (.long ((((((own_mx (0 : Int64) i0).toUInt64 >>> ((32 : Int32) &&& 0x3f).toInt64.toUInt64).toInt64) + ((vb.toUInt64 >>> ((32 : Int32) &&& 0x3f).toInt64.toUInt64).toInt64)) + ((vc.toUInt64 >>> ((32 : Int32) &&& 0x3f).toInt64.toUInt64).toInt64)) + ((((((own_mx (0 : Int64) i0) &&& (4294967295 : Int64)) + (vb &&& (4294967295 : Int64))) + (vc &&& (4294967295 : Int64))).toUInt64 >>> ((32 : Int32) &&& 0x3f).toInt64.toUInt64).toInt64))), .second, .val (.long ((((((((own_mx (0 : Int64) i0).toUInt64 >>> ((32 : Int32) &&& 0x3f).toInt64.toUInt64).toInt64) + ((vb.toUInt64 >>> ((32 : Int32) &&& 0x3f).toInt64.toUInt64).toInt64)) + ((vc.toUInt64 >>> ((32 : Int32) &&& 0x3f).toInt64.toUInt64).toInt64)) + ((((((own_mx (0 : Int64) i0) &&& (4294967295 : Int64)) + (vb &&& (4294967295 : Int64))) + (vc &&& (4294967295 : Int64))).toUInt64 >>> ((32 : Int32) &&& 0x3f).toInt64.toUInt64).toInt64)).toUInt64 >>> ((31 : Int32) &&& 0x3f).toInt64.toUInt64).toInt64)), .second, .val (.long (((((((((own_mx (0 : Int64) i0).toUInt64 >>> ((32 : Int32) &&& 0x3f).toInt64.toUInt64).toInt64) + ((vb.toUInt64 >>> ((32 : Int32) &&& 0x3f).toInt64.toUInt64).toInt64)) + ((vc.toUInt64 >>> ((32 : Int32) &&& 0x3f).toInt64.toUInt64).toInt64)) + ((((((own_mx (0 : Int64) i0) &&& (4294967295 : Int64)) + (vb &&& (4294967295 : Int64))) + (vc &&& (4294967295 : Int64))).toUInt64 >>> ((32 : Int32) &&& 0x3f).toInt64.toUInt64).toInt64)) &&& (2147483647 : Int64)) <<< ((32 : Int32) &&& 0x3f).toInt64) ||| (((((own_mx (0 : Int64) i0) &&& (4294967295 : Int64)) + (vb &&& (4294967295 : Int64))) + (vc &&& (4294967295 : Int64))) &&& (4294967295 : Int64)))), .second, .unset, .unset] [(.double (FP.dadd (FP.dmul (FP.l2d ((((((((own_mx (0 : Int64) i0).toUInt64 >>> ((32 : Int32) &&& 0x3f).toInt64.toUInt64).toInt64) + ((vb.toUInt64 >>> ((32 : Int32) &&& 0x3f).toInt64.toUInt64).toInt64)) + ((vc.toUInt64 >>> ((32 : Int32) &&& 0x3f).toInt64.toUInt64).toInt64)) + ((((((own_mx (0 : Int64) i0) &&& (4294967295 : Int64)) + (vb &&& (4294967295 : Int64))) + (vc &&& (4294967295 : Int64))).toUInt64 >>> ((32 : Int32) &&& 0x3f).toInt64.toUInt64).toInt64)).toUInt64 >>> ((31 : Int32) &&& 0x3f).toInt64.toUInt64).toInt64)) (4890909195324358656 : UInt64)) (FP.l2d (((((((((own_mx (0 : Int64) i0).toUInt64 >>> ((32 : Int32) &&& 0x3f).toInt64.toUInt64).toInt64) + ((vb.toUInt64 >>> ((32 : Int32) &&& 0x3f).toInt64.toUInt64).toInt64)) + ((vc.toUInt64 >>> ((32 : Int32) &&& 0x3f).toInt64.toUInt64).toInt64)) + ((((((own_mx (0 : Int64) i0) &&& (4294967295 : Int64)) + (vb &&& (4294967295 : Int64))) + (vc &&& (4294967295 : Int64))).toUInt64 >>> ((32 : Int32) &&& 0x3f).toInt64.toUInt64).toInt64)) &&& (2147483647 : Int64)) <<< ((32 : Int32) &&& 0x3f).toInt64) ||| (((((own_mx (0 : Int64) i0) &&& (4294967295 : Int64)) + (vb &&& (4294967295 : Int64))) + (vc &&& (4294967295 : Int64))) &&& (4294967295 : Int64))))))])) _
    refine XS.iload X_vc.here hx rfl (hb hby at_200) rfl ?_
    show Steps p.tables e below (T_vc.setTop (mkF m 202 #[.val (.long i0), .second, .val (.long i1), .second, .val (.long i2), .second, .val (.int i3), .val (.int i4), .val (.int (Int32.ofNat kn)), .val (.int (Int32.ofNat sn)), .val (.ref b5), .val (.ref b25), .val (.long (own_mx (0 : Int64) i0)), .second, .val (.long vb), .second, .val (.long vc), .second, .val (.long (((((own_mx (0 : Int64) i0).toUInt64 >>> ((32 : Int32) &&& 0x3f).toInt64.toUInt64).toInt64) + ((vb.toUInt64 >>> ((32 : Int32) &&& 0x3f).toInt64.toUInt64).toInt64)) + ((vc.toUInt64 >>> ((32 : Int32) &&& 0x3f).toInt64.toUInt64).toInt64))), .second, .val (.long ((((own_mx (0 : Int64) i0) &&& (4294967295 : Int64)) + (vb &&& (4294967295 : Int64))) + (vc &&& (4294967295 : Int64)))), .second, .val (.long ((((((own_mx (0 : Int64) i0).toUInt64 >>> ((32 : Int32) &&& 0x3f).toInt64.toUInt64).toInt64) + ((vb.toUInt64 >>> ((32 : Int32) &&& 0x3f).toInt64.toUInt64).toInt64)) + ((vc.toUInt64 >>> ((32 : Int32) &&& 0x3f).toInt64.toUInt64).toInt64)) + ((((((own_mx (0 : Int64) i0) &&& (4294967295 : Int64)) + (vb &&& (4294967295 : Int64))) + (vc &&& (4294967295 : Int64))).toUInt64 >>> ((32 : Int32) &&& 0x3f).toInt64.toUInt64).toInt64))), .second, .val (.long ((((((((own_mx (0 : Int64) i0).toUInt64 >>> ((32 : Int32) &&& 0x3f).toInt64.toUInt64).toInt64) + ((vb.toUInt64 >>> ((32 : Int32) &&& 0x3f).toInt64.toUInt64).toInt64)) + ((vc.toUInt64 >>> ((32 : Int32) &&& 0x3f).toInt64.toUInt64).toInt64)) + ((((((own_mx (0 : Int64) i0) &&& (4294967295 : Int64)) + (vb &&& (4294967295 : Int64))) + (vc &&& (4294967295 : Int64))).toUInt64 >>> ((32 : Int32) &&& 0x3f).toInt64.toUInt64).toInt64)).toUInt64 >>> ((31 : Int32) &&& 0x3f).toInt64.toUInt64).toInt64)), .second, .val (.long (((((((((own_mx (0 : Int64) i0).toUInt64 >>> ((32 : Int32) &&& 0x3f).toInt64.toUInt64).toInt64) + ((vb.toUInt64 >>> ((32 : Int32) &&& 0x3f).toInt64.toUInt64).toInt64)) + ((vc.toUInt64 >>> ((32 : Int32) &&& 0x3f).toInt64.toUInt64).toInt64)) + ((((((own_mx (0 : Int64) i0) &&& (4294967295 : Int64)) + (vb &&& (4294967295 : Int64))) + (vc &&& (4294967295 : Int64))).toUInt64 >>> ((32 : Int32) &&& 0x3f).toInt64.toUInt64).toInt64)) &&& (2147483647 : Int64)) <<< ((32 : Int32) &&& 0x3f).toInt64) ||| (((((own_mx (0 : Int64) i0) &&& (4294967295 : Int64)) + (vb &&& (4294967295 : Int64))) + (vc &&& (4294967295 : Int64))) &&& (4294967295 : Int64)))), .second, .unset, .unset] [(.int (Int32.ofNat kn)), (.double (FP.dadd (FP.dmul (FP.l2d ((((((((own_mx (0 : Int64) i0).toUInt64 >>> ((32 : Int32) &&& 0x3f).toInt64.toUInt64).toInt64) + ((vb.toUInt64 >>> ((32 : Int32) &&& 0x3f).toInt64.toUInt64).toInt64)) + ((vc.toUInt64 >>> ((32 : Int32) &&& 0x3f).toInt64.toUInt64).toInt64)) + ((((((own_mx (0 : Int64) i0) &&& (4294967295 : Int64)) + (vb &&& (4294967295 : Int64))) + (vc &&& (4294967295 : Int64))).toUInt64 >>> ((32 : Int32) &&& 0x3f).toInt64.toUInt64).toInt64)).toUInt64 >>> ((31 : Int32) &&& 0x3f).toInt64.toUInt64).toInt64)) (4890909195324358656 : UInt64)) (FP.l2d (((((((((own_mx (0 : Int64) i0).toUInt64 >>> ((32 : Int32) &&& 0x3f).toInt64.toUInt64).toInt64) + ((vb.toUInt64 >>> ((32 : Int32) &&& 0x3f).toInt64.toUInt64).toInt64)) + ((vc.toUInt64 >>> ((32 : Int32) &&& 0x3f).toInt64.toUInt64).toInt64)) + ((((((own_mx (0 : Int64) i0) &&& (4294967295 : Int64)) + (vb &&& (4294967295 : Int64))) + (vc &&& (4294967295 : Int64))).toUInt64 >>> ((32 : Int32) &&& 0x3f).toInt64.toUInt64).toInt64)) &&& (2147483647 : Int64)) <<< ((32 : Int32) &&& 0x3f).toInt64) ||| (((((own_mx (0 : Int64) i0) &&& (4294967295 : Int64)) + (vb &&& (4294967295 : Int64))) + (vc &&& (4294967295 : Int64))) &&& (4294967295 : Int64))))))])) _
    refine XS.i2dS X_vc.here hx rfl (hb hby at_202) rfl (v := (FP.l2d (Int32.ofNat kn).toInt64)) (i2d_w _) ?_
    show Steps p.tables e below (T_vc.setTop (mkF m 203 #[.val (.long i0), .second, .val (.long i1), .second, .val (.long i2), .second, .val (.int i3), .val (.int i4), .val (.int (Int32.ofNat kn)), .val (.int (Int32.ofNat sn)), .val (.ref b5), .val (.ref b25), .val (.long (own_mx (0 : Int64) i0)), .second, .val (.long vb), .second, .val (.long vc), .second, .val (.long (((((own_mx (0 : Int64) i0).toUInt64 >>> ((32 : Int32) &&& 0x3f).toInt64.toUInt64).toInt64) + ((vb.toUInt64 >>> ((32 : Int32) &&& 0x3f).toInt64.toUInt64).toInt64)) + ((vc.toUInt64 >>> ((32 : Int32) &&& 0x3f).toInt64.toUInt64).toInt64))), .second, .val (.long ((((own_mx (0 : Int64) i0) &&& (4294967295 : Int64)) + (vb &&& (4294967295 : Int64))) + (vc &&& (4294967295 : Int64)))), .second, .val (.long ((((((own_mx (0 : Int64) i0).toUInt64 >>> ((32 : Int32) &&& 0x3f).toInt64.toUInt64).toInt64) + ((vb.toUInt64 >>> ((32 : Int32) &&& 0x3f).toInt64.toUInt64).toInt64)) + ((vc.toUInt64 >>> ((32 : Int32) &&& 0x3f).toInt64.toUInt64).toInt64)) + ((((((own_mx (0 : Int64) i0) &&& (4294967295 : Int64)) + (vb &&& (4294967295 : Int64))) + (vc &&& (4294967295 : Int64))).toUInt64 >>> ((32 : Int32) &&& 0x3f).toInt64.toUInt64).toInt64))), .second, .val (.long ((((((((own_mx (0 : Int64) i0).toUInt64 >>> ((32 : Int32) &&& 0x3f).toInt64.toUInt64).toInt64) + ((vb.toUInt64 >>> ((32 : Int32) &&& 0x3f).toInt64.toUInt64).toInt64)) + ((vc.toUInt64 >>> ((32 : Int32) &&& 0x3f).toInt64.toUInt64).toInt64)) + ((((((own_mx (0 : Int64) i0) &&& (4294967295 : Int64)) + (vb &&& (4294967295 : Int64))) + (vc &&& (4294967295 : Int64))).toUInt64 >>> ((32 : Int32) &&& 0x3f).toInt64.toUInt64).toInt64)).toUInt64 >>> ((31 : Int32) &&& 0x3f).toInt64.toUInt64).toInt64)), .second, .val (.long (((((((((own_mx (0 : Int64) i0).toUInt64 >>> ((32 : Int32) &&& 0x3f).toInt64.toUInt64).toInt64) + ((vb.toUInt64 >>> ((32 : Int32) &&& 0x3f).toInt64.toUInt64).toInt64)) + ((vc.toUInt64 >>> ((32 : Int32) &&& 0x3f).toInt64.toUInt64).toInt64)) + ((((((own_mx (0 : Int64) i0) &&& (4294967295 : Int64)) + (vb &&& (4294967295 : Int64))) + (vc &&& (4294967295 : Int64))).toUInt64 >>> ((32 : Int32) &&& 0x3f).toInt64.toUInt64).toInt64)) &&& (2147483647 : Int64)) <<< ((32 : Int32) &&& 0x3f).toInt64) ||| (((((own_mx (0 : Int64) i0) &&& (4294967295 : Int64)) + (vb &&& (4294967295 : Int64))) + (vc &&& (4294967295 : Int64))) &&& (4294967295 : Int64)))), .second, .unset, .unset] [(.double (FP.l2d (Int32.ofNat kn).toInt64)), (.double (FP.dadd (FP.dmul (FP.l2d ((((((((own_mx (0 : Int64) i0).toUInt64 >>> ((32 : Int32) &&& 0x3f).toInt64.toUInt64).toInt64) + ((vb.toUInt64 >>> ((32 : Int32) &&& 0x3f).toInt64.toUInt64).toInt64)) + ((vc.toUInt64 >>> ((32 : Int32) &&& 0x3f).toInt64.toUInt64).toInt64)) + ((((((own_mx (0 : Int64) i0) &&& (4294967295 : Int64)) + (vb &&& (4294967295 : Int64))) + (vc &&& (4294967295 : Int64))).toUInt64 >>> ((32 : Int32) &&& 0x3f).toInt64.toUInt64).toInt64)).toUInt64 >>> ((31 : Int32) &&& 0x3f).toInt64.toUInt64).toInt64)) (4890909195324358656 : UInt64)) (FP.l2d (((((((((own_mx (0 : Int64) i0).toUInt64 >>> ((32 : Int32) &&& 0x3f).toInt64.toUInt64).toInt64) + ((vb.toUInt64 >>> ((32 : Int32) &&& 0x3f).toInt64.toUInt64).toInt64)) + ((vc.toUInt64 >>> ((32 : Int32) &&& 0x3f).toInt64.toUInt64).toInt64)) + ((((((own_mx (0 : Int64) i0) &&& (4294967295 : Int64)) + (vb &&& (4294967295 : Int64))) + (vc &&& (4294967295 : Int64))).toUInt64 >>> ((32 : Int32) &&& 0x3f).toInt64.toUInt64).toInt64)) &&& (2147483647 : Int64)) <<< ((32 : Int32) &&& 0x3f).toInt64) ||| (((((own_mx (0 : Int64) i0) &&& (4294967295 : Int64)) + (vb &&& (4294967295 : Int64))) + (vc &&& (4294967295 : Int64))) &&& (4294967295 : Int64))))))])) _
    refine XS.ddivS X_vc.here hx rfl (hb hby at_203) rfl (own_k3 (own_W (own_mx 0 i0) vb vc) (own_R (own_mx 0 i0) vb vc) hkz64) (v := (own_mn (own_W (own_mx 0 i0) vb vc) (own_R (own_mx 0 i0) vb vc) (Int32.ofNat kn).toInt64)) rfl ?_
    show Steps p.tables e below (T_vc.setTop (mkF m 204 #[.val (.long i0), .second, .val (.long i1), .second, .val (.long i2), .second, .val (.int i3), .val (.int i4), .val (.int (Int32.ofNat kn)), .val (.int (Int32.ofNat sn)), .val (.ref b5), .val (.ref b25), .val (.long (own_mx (0 : Int64) i0)), .second, .val (.long vb), .second, .val (.long vc), .second, .val (.long (((((own_mx (0 : Int64) i0).toUInt64 >>> ((32 : Int32) &&& 0x3f).toInt64.toUInt64).toInt64) + ((vb.toUInt64 >>> ((32 : Int32) &&& 0x3f).toInt64.toUInt64).toInt64)) + ((vc.toUInt64 >>> ((32 : Int32) &&& 0x3f).toInt64.toUInt64).toInt64))), .second, .val (.long ((((own_mx (0 : Int64) i0) &&& (4294967295 : Int64)) + (vb &&& (4294967295 : Int64))) + (vc &&& (4294967295 : Int64)))), .second, .val (.long ((((((own_mx (0 : Int64) i0).toUInt64 >>> ((32 : Int32) &&& 0x3f).toInt64.toUInt64).toInt64) + ((vb.toUInt64 >>> ((32 : Int32) &&& 0x3f).toInt64.toUInt64).toInt64)) + ((vc.toUInt64 >>> ((32 : Int32) &&& 0x3f).toInt64.toUInt64).toInt64)) + ((((((own_mx (0 : Int64) i0) &&& (4294967295 : Int64)) + (vb &&& (4294967295 : Int64))) + (vc &&& (4294967295 : Int64))).toUInt64 >>> ((32 : Int32) &&& 0x3f).toInt64.toUInt64).toInt64))), .second, .val (.long ((((((((own_mx (0 : Int64) i0).toUInt64 >>> ((32 : Int32) &&& 0x3f).toInt64.toUInt64).toInt64) + ((vb.toUInt64 >>> ((32 : Int32) &&& 0x3f).toInt64.toUInt64).toInt64)) + ((vc.toUInt64 >>> ((32 : Int32) &&& 0x3f).toInt64.toUInt64).toInt64)) + ((((((own_mx (0 : Int64) i0) &&& (4294967295 : Int64)) + (vb &&& (4294967295 : Int64))) + (vc &&& (4294967295 : Int64))).toUInt64 >>> ((32 : Int32) &&& 0x3f).toInt64.toUInt64).toInt64)).toUInt64 >>> ((31 : Int32) &&& 0x3f).toInt64.toUInt64).toInt64)), .second, .val (.long (((((((((own_mx (0 : Int64) i0).toUInt64 >>> ((32 : Int32) &&& 0x3f).toInt64.toUInt64).toInt64) + ((vb.toUInt64 >>> ((32 : Int32) &&& 0x3f).toInt64.toUInt64).toInt64)) + ((vc.toUInt64 >>> ((32 : Int32) &&& 0x3f).toInt64.toUInt64).toInt64)) + ((((((own_mx (0 : Int64) i0) &&& (4294967295 : Int64)) + (vb &&& (4294967295 : Int64))) + (vc &&& (4294967295 : Int64))).toUInt64 >>> ((32 : Int32) &&& 0x3f).toInt64.toUInt64).toInt64)) &&& (2147483647 : Int64)) <<< ((32 : Int32) &&& 0x3f).toInt64) ||| (((((own_mx (0 : Int64) i0) &&& (4294967295 : Int64)) + (vb &&& (4294967295 : Int64))) + (vc &&& (4294967295 : Int64))) &&& (4294967295 : Int64)))), .second, .unset, .unset] [(.double (own_mn (own_W (own_mx 0 i0) vb vc) (own_R (own_mx 0 i0) vb vc) (Int32.ofNat kn).toInt64))])) _
    refine XS.dstore X_vc.here hx rfl (hb hby at_204) rfl (l' := #[.val (.long i0), .second, .val (.long i1), .second, .val (.long i2), .second, .val (.int i3), .val (.int i4), .val (.int (Int32.ofNat kn)), .val (.int (Int32.ofNat sn)), .val (.ref b5), .val (.ref b25), .val (.long (own_mx (0 : Int64) i0)), .second, .val (.long vb), .second, .val (.long vc), .second, .val (.long (((((own_mx (0 : Int64) i0).toUInt64 >>> ((32 : Int32) &&& 0x3f).toInt64.toUInt64).toInt64) + ((vb.toUInt64 >>> ((32 : Int32) &&& 0x3f).toInt64.toUInt64).toInt64)) + ((vc.toUInt64 >>> ((32 : Int32) &&& 0x3f).toInt64.toUInt64).toInt64))), .second, .val (.long ((((own_mx (0 : Int64) i0) &&& (4294967295 : Int64)) + (vb &&& (4294967295 : Int64))) + (vc &&& (4294967295 : Int64)))), .second, .val (.long ((((((own_mx (0 : Int64) i0).toUInt64 >>> ((32 : Int32) &&& 0x3f).toInt64.toUInt64).toInt64) + ((vb.toUInt64 >>> ((32 : Int32) &&& 0x3f).toInt64.toUInt64).toInt64)) + ((vc.toUInt64 >>> ((32 : Int32) &&& 0x3f).toInt64.toUInt64).toInt64)) + ((((((own_mx (0 : Int64) i0) &&& (4294967295 : Int64)) + (vb &&& (4294967295 : Int64))) + (vc &&& (4294967295 : Int64))).toUInt64 >>> ((32 : Int32) &&& 0x3f).toInt64.toUInt64).toInt64))), .second, .val (.long ((((((((own_mx (0 : Int64) i0).toUInt64 >>> ((32 : Int32) &&& 0x3f).toInt64.toUInt64).toInt64) + ((vb.toUInt64 >>> ((32 : Int32) &&& 0x3f).toInt64.toUInt64).toInt64)) + ((vc.toUInt64 >>> ((32 : Int32) &&& 0x3f).toInt64.toUInt64).toInt64)) + ((((((own_mx (0 : Int64) i0) &&& (4294967295 : Int64)) + (vb &&& (4294967295 : Int64))) + (vc &&& (4294967295 : Int64))).toUInt64 >>> ((32 : Int32) &&& 0x3f).toInt64.toUInt64).toInt64)).toUInt64 >>> ((31 : Int32) &&& 0x3f).toInt64.toUInt64).toInt64)), .second, .val (.long (((((((((own_mx (0 : Int64) i0).toUInt64 >>> ((32 : Int32) &&& 0x3f).toInt64.toUInt64).toInt64) + ((vb.toUInt64 >>> ((32 : Int32) &&& 0x3f).toInt64.toUInt64).toInt64)) + ((vc.toUInt64 >>> ((32 : Int32) &&& 0x3f).toInt64.toUInt64).toInt64)) + ((((((own_mx (0 : Int64) i0) &&& (4294967295 : Int64)) + (vb &&& (4294967295 : Int64))) + (vc &&& (4294967295 : Int64))).toUInt64 >>> ((32 : Int32) &&& 0x3f).toInt64.toUInt64).toInt64)) &&& (2147483647 : Int64)) <<< ((32 : Int32) &&& 0x3f).toInt64) ||| (((((own_mx (0 : Int64) i0) &&& (4294967295 : Int64)) + (vb &&& (4294967295 : Int64))) + (vc &&& (4294967295 : Int64))) &&& (4294967295 : Int64)))), .second, .val (.double (own_mn (own_W (own_mx 0 i0) vb vc) (own_R (own_mx 0 i0) vb vc) (Int32.ofNat kn).toInt64)), .second]) rfl ?_
    show Steps p.tables e below (T_vc.setTop (mkF m 206 #[.val (.long i0), .second, .val (.long i1), .second, .val (.long i2), .second, .val (.int i3), .val (.int i4), .val (.int (Int32.ofNat kn)), .val (.int (Int32.ofNat sn)), .val (.ref b5), .val (.ref b25), .val (.long (own_mx (0 : Int64) i0)), .second, .val (.long vb), .second, .val (.long vc), .second, .val (.long (((((own_mx (0 : Int64) i0).toUInt64 >>> ((32 : Int32) &&& 0x3f).toInt64.toUInt64).toInt64) + ((vb.toUInt64 >>> ((32 : Int32) &&& 0x3f).toInt64.toUInt64).toInt64)) + ((vc.toUInt64 >>> ((32 : Int32) &&& 0x3f).toInt64.toUInt64).toInt64))), .second, .val (.long ((((own_mx (0 : Int64) i0) &&& (4294967295 : Int64)) + (vb &&& (4294967295 : Int64))) + (vc &&& (4294967295 : Int64)))), .second, .val (.long ((((((own_mx (0 : Int64) i0).toUInt64 >>> ((32 : Int32) &&& 0x3f).toInt64.toUInt64).toInt64) + ((vb.toUInt64 >>> ((32 : Int32) &&& 0x3f).toInt64.toUInt64).toInt64)) + ((vc.toUInt64 >>> ((32 : Int32) &&& 0x3f).toInt64.toUInt64).toInt64)) + ((((((own_mx (0 : Int64) i0) &&& (4294967295 : Int64)) + (vb &&& (4294967295 : Int64))) + (vc &&& (4294967295 : Int64))).toUInt64 >>> ((32 : Int32) &&& 0x3f).toInt64.toUInt64).toInt64))), .second, .val (.long ((((((((own_mx (0 : Int64) i0).toUInt64 >>> ((32 : Int32) &&& 0x3f).toInt64.toUInt64).toInt64) + ((vb.toUInt64 >>> ((32 : Int32) &&& 0x3f).toInt64.toUInt64).toInt64)) + ((vc.toUInt64 >>> ((32 : Int32) &&& 0x3f).toInt64.toUInt64).toInt64)) + ((((((own_mx (0 : Int64) i0) &&& (4294967295 : Int64)) + (vb &&& (4294967295 : Int64))) + (vc &&& (4294967295 : Int64))).toUInt64 >>> ((32 : Int32) &&& 0x3f).toInt64.toUInt64).toInt64)).toUInt64 >>> ((31 : Int32) &&& 0x3f).toInt64.toUInt64).toInt64)), .second, .val (.long (((((((((own_mx (0 : Int64) i0).toUInt64 >>> ((32 : Int32) &&& 0x3f).toInt64.toUInt64).toInt64) + ((vb.toUInt64 >>> ((32 : Int32) &&& 0x3f).toInt64.toUInt64).toInt64)) + ((vc.toUInt64 >>> ((32 : Int32) &&& 0x3f).toInt64.toUInt64).toInt64)) + ((((((own_mx (0 : Int64) i0) &&& (4294967295 : Int64)) + (vb &&& (4294967295 : Int64))) + (vc &&& (4294967295 : Int64))).toUInt64 >>> ((32 : Int32) &&& 0x3f).toInt64.toUInt64).toInt64)) &&& (2147483647 : Int64)) <<< ((32 : Int32) &&& 0x3f).toInt64) ||| (((((own_mx (0 : Int64) i0) &&& (4294967295 : Int64)) + (vb &&& (4294967295 : Int64))) + (vc &&& (4294967295 : Int64))) &&& (4294967295 : Int64)))), .second, .val (.double (own_mn (own_W (own_mx 0 i0) vb vc) (own_R (own_mx 0 i0) vb vc) (Int32.ofNat kn).toInt64)), .second] [])) _
    refine XS.aload X_vc.here hx rfl (hb hby at_206) rfl rfl ?_
    exact kt
  obtain ⟨cq48, kq48, q48a, q48b, q48c⟩ := isOf hZ e_vc hIO.1
  obtain ⟨_, _, ⟨T48, L48, k48, n48⟩, -, X48, ⟨Lc48, hQ48, l48, y48, z48⟩, st48⟩ := X_vc.virtualBack hx (y := (⟨"com/example/cormorant/cormorant/Histogram", "mean", "()D"⟩ : MethodName)) (z := (⟨"com/example/cormorant/cormorant/Histogram", "mean", "()D"⟩ : MethodName)) hown (mvT hZ (hw _ (List.mem_of_getElem? (i := 58) rfl))) (mvT hZ (hw _ (List.mem_of_getElem? (i := 59) rfl))) (notFace_of_selects (args := #[]) (mvT hZ (hw _ (List.mem_of_getElem? (i := 61) rfl)))) (mvT hZ (hw _ (List.mem_of_getElem? (i := 61) rfl))) (mvT hZ (hw _ (List.mem_of_getElem? (i := 60) rfl))) (by decide) (backOf (W := 0) (rm10 l Z a0 hw [] b25 (own_W (own_mx 0 i0) vb vc) (own_R (own_mx 0 i0) vb vc) (Int32.ofNat kn).toInt64 T39.heap n0 Zc hIO.2.2.2.2.1 hIO.2.2.2.1 hIO.2.2.2.2.2.2 hkz64) hZ (hw _ (List.mem_of_getElem? (i := 62) rfl)) (hw _ (List.mem_of_getElem? (i := 4) rfl)) (by decide) (by decide)) q48a q48c (g := (mkF m 208 #[.val (.long i0), .second, .val (.long i1), .second, .val (.long i2), .second, .val (.int i3), .val (.int i4), .val (.int (Int32.ofNat kn)), .val (.int (Int32.ofNat sn)), .val (.ref b5), .val (.ref b25), .val (.long (own_mx (0 : Int64) i0)), .second, .val (.long vb), .second, .val (.long vc), .second, .val (.long (((((own_mx (0 : Int64) i0).toUInt64 >>> ((32 : Int32) &&& 0x3f).toInt64.toUInt64).toInt64) + ((vb.toUInt64 >>> ((32 : Int32) &&& 0x3f).toInt64.toUInt64).toInt64)) + ((vc.toUInt64 >>> ((32 : Int32) &&& 0x3f).toInt64.toUInt64).toInt64))), .second, .val (.long ((((own_mx (0 : Int64) i0) &&& (4294967295 : Int64)) + (vb &&& (4294967295 : Int64))) + (vc &&& (4294967295 : Int64)))), .second, .val (.long ((((((own_mx (0 : Int64) i0).toUInt64 >>> ((32 : Int32) &&& 0x3f).toInt64.toUInt64).toInt64) + ((vb.toUInt64 >>> ((32 : Int32) &&& 0x3f).toInt64.toUInt64).toInt64)) + ((vc.toUInt64 >>> ((32 : Int32) &&& 0x3f).toInt64.toUInt64).toInt64)) + ((((((own_mx (0 : Int64) i0) &&& (4294967295 : Int64)) + (vb &&& (4294967295 : Int64))) + (vc &&& (4294967295 : Int64))).toUInt64 >>> ((32 : Int32) &&& 0x3f).toInt64.toUInt64).toInt64))), .second, .val (.long ((((((((own_mx (0 : Int64) i0).toUInt64 >>> ((32 : Int32) &&& 0x3f).toInt64.toUInt64).toInt64) + ((vb.toUInt64 >>> ((32 : Int32) &&& 0x3f).toInt64.toUInt64).toInt64)) + ((vc.toUInt64 >>> ((32 : Int32) &&& 0x3f).toInt64.toUInt64).toInt64)) + ((((((own_mx (0 : Int64) i0) &&& (4294967295 : Int64)) + (vb &&& (4294967295 : Int64))) + (vc &&& (4294967295 : Int64))).toUInt64 >>> ((32 : Int32) &&& 0x3f).toInt64.toUInt64).toInt64)).toUInt64 >>> ((31 : Int32) &&& 0x3f).toInt64.toUInt64).toInt64)), .second, .val (.long (((((((((own_mx (0 : Int64) i0).toUInt64 >>> ((32 : Int32) &&& 0x3f).toInt64.toUInt64).toInt64) + ((vb.toUInt64 >>> ((32 : Int32) &&& 0x3f).toInt64.toUInt64).toInt64)) + ((vc.toUInt64 >>> ((32 : Int32) &&& 0x3f).toInt64.toUInt64).toInt64)) + ((((((own_mx (0 : Int64) i0) &&& (4294967295 : Int64)) + (vb &&& (4294967295 : Int64))) + (vc &&& (4294967295 : Int64))).toUInt64 >>> ((32 : Int32) &&& 0x3f).toInt64.toUInt64).toInt64)) &&& (2147483647 : Int64)) <<< ((32 : Int32) &&& 0x3f).toInt64) ||| (((((own_mx (0 : Int64) i0) &&& (4294967295 : Int64)) + (vb &&& (4294967295 : Int64))) + (vc &&& (4294967295 : Int64))) &&& (4294967295 : Int64)))), .second, .val (.double (own_mn (own_W (own_mx 0 i0) vb vc) (own_R (own_mx 0 i0) vb vc) (Int32.ofNat kn).toInt64)), .second] [(.ref b25)])) rfl (by rw [hml]; rfl) (Steps.refl _) (argsL := []) (rest := []) (lenOf pd_6 rfl) rfl (by show 2 * 0 + _ ≤ _; exact Nat.le_of_eq rfl) (hb hby at_208) (fun _ _ => ⟨rfl, e_vc, (by decide : 10 + 0 ≤ _), (by decide : 891 + 0 ≤ _)⟩)
  dsimp only [Pt.U, Pt.locs, Pt.cells, Pt.slots] at X48 l48 y48 z48 st48 hQ48
  subst l48 y48 z48
  obtain ⟨rfl, Nq48, eq48⟩ := hQ48
  have N48 := Fr.app N_vc Nq48
  have sg49 : ∀ t, Steps p.tables e below (T48.setTop (mkF m 222 #[.val (.long i0), .second, .val (.long i1), .second, .val (.long i2), .second, .val (.int i3), .val (.int i4), .val (.int (Int32.ofNat kn)), .val (.int (Int32.ofNat sn)), .val (.ref b5), .val (.ref b25), .val (.long (own_mx (0 : Int64) i0)), .second, .val (.long vb), .second, .val (.long vc), .second, .val (.long (((((own_mx (0 : Int64) i0).toUInt64 >>> ((32 : Int32) &&& 0x3f).toInt64.toUInt64).toInt64) + ((vb.toUInt64 >>> ((32 : Int32) &&& 0x3f).toInt64.toUInt64).toInt64)) + ((vc.toUInt64 >>> ((32 : Int32) &&& 0x3f).toInt64.toUInt64).toInt64))), .second, .val (.long ((((own_mx (0 : Int64) i0) &&& (4294967295 : Int64)) + (vb &&& (4294967295 : Int64))) + (vc &&& (4294967295 : Int64)))), .second, .val (.long ((((((own_mx (0 : Int64) i0).toUInt64 >>> ((32 : Int32) &&& 0x3f).toInt64.toUInt64).toInt64) + ((vb.toUInt64 >>> ((32 : Int32) &&& 0x3f).toInt64.toUInt64).toInt64)) + ((vc.toUInt64 >>> ((32 : Int32) &&& 0x3f).toInt64.toUInt64).toInt64)) + ((((((own_mx (0 : Int64) i0) &&& (4294967295 : Int64)) + (vb &&& (4294967295 : Int64))) + (vc &&& (4294967295 : Int64))).toUInt64 >>> ((32 : Int32) &&& 0x3f).toInt64.toUInt64).toInt64))), .second, .val (.long ((((((((own_mx (0 : Int64) i0).toUInt64 >>> ((32 : Int32) &&& 0x3f).toInt64.toUInt64).toInt64) + ((vb.toUInt64 >>> ((32 : Int32) &&& 0x3f).toInt64.toUInt64).toInt64)) + ((vc.toUInt64 >>> ((32 : Int32) &&& 0x3f).toInt64.toUInt64).toInt64)) + ((((((own_mx (0 : Int64) i0) &&& (4294967295 : Int64)) + (vb &&& (4294967295 : Int64))) + (vc &&& (4294967295 : Int64))).toUInt64 >>> ((32 : Int32) &&& 0x3f).toInt64.toUInt64).toInt64)).toUInt64 >>> ((31 : Int32) &&& 0x3f).toInt64.toUInt64).toInt64)), .second, .val (.long (((((((((own_mx (0 : Int64) i0).toUInt64 >>> ((32 : Int32) &&& 0x3f).toInt64.toUInt64).toInt64) + ((vb.toUInt64 >>> ((32 : Int32) &&& 0x3f).toInt64.toUInt64).toInt64)) + ((vc.toUInt64 >>> ((32 : Int32) &&& 0x3f).toInt64.toUInt64).toInt64)) + ((((((own_mx (0 : Int64) i0) &&& (4294967295 : Int64)) + (vb &&& (4294967295 : Int64))) + (vc &&& (4294967295 : Int64))).toUInt64 >>> ((32 : Int32) &&& 0x3f).toInt64.toUInt64).toInt64)) &&& (2147483647 : Int64)) <<< ((32 : Int32) &&& 0x3f).toInt64) ||| (((((own_mx (0 : Int64) i0) &&& (4294967295 : Int64)) + (vb &&& (4294967295 : Int64))) + (vc &&& (4294967295 : Int64))) &&& (4294967295 : Int64)))), .second, .val (.double (own_mn (own_W (own_mx 0 i0) vb vc) (own_R (own_mx 0 i0) vb vc) (Int32.ofNat kn).toInt64)), .second] [(.int (1 : Int32))])) t → Steps p.tables e below (T48.setTop (mkF m 211 #[.val (.long i0), .second, .val (.long i1), .second, .val (.long i2), .second, .val (.int i3), .val (.int i4), .val (.int (Int32.ofNat kn)), .val (.int (Int32.ofNat sn)), .val (.ref b5), .val (.ref b25), .val (.long (own_mx (0 : Int64) i0)), .second, .val (.long vb), .second, .val (.long vc), .second, .val (.long (((((own_mx (0 : Int64) i0).toUInt64 >>> ((32 : Int32) &&& 0x3f).toInt64.toUInt64).toInt64) + ((vb.toUInt64 >>> ((32 : Int32) &&& 0x3f).toInt64.toUInt64).toInt64)) + ((vc.toUInt64 >>> ((32 : Int32) &&& 0x3f).toInt64.toUInt64).toInt64))), .second, .val (.long ((((own_mx (0 : Int64) i0) &&& (4294967295 : Int64)) + (vb &&& (4294967295 : Int64))) + (vc &&& (4294967295 : Int64)))), .second, .val (.long ((((((own_mx (0 : Int64) i0).toUInt64 >>> ((32 : Int32) &&& 0x3f).toInt64.toUInt64).toInt64) + ((vb.toUInt64 >>> ((32 : Int32) &&& 0x3f).toInt64.toUInt64).toInt64)) + ((vc.toUInt64 >>> ((32 : Int32) &&& 0x3f).toInt64.toUInt64).toInt64)) + ((((((own_mx (0 : Int64) i0) &&& (4294967295 : Int64)) + (vb &&& (4294967295 : Int64))) + (vc &&& (4294967295 : Int64))).toUInt64 >>> ((32 : Int32) &&& 0x3f).toInt64.toUInt64).toInt64))), .second, .val (.long ((((((((own_mx (0 : Int64) i0).toUInt64 >>> ((32 : Int32) &&& 0x3f).toInt64.toUInt64).toInt64) + ((vb.toUInt64 >>> ((32 : Int32) &&& 0x3f).toInt64.toUInt64).toInt64)) + ((vc.toUInt64 >>> ((32 : Int32) &&& 0x3f).toInt64.toUInt64).toInt64)) + ((((((own_mx (0 : Int64) i0) &&& (4294967295 : Int64)) + (vb &&& (4294967295 : Int64))) + (vc &&& (4294967295 : Int64))).toUInt64 >>> ((32 : Int32) &&& 0x3f).toInt64.toUInt64).toInt64)).toUInt64 >>> ((31 : Int32) &&& 0x3f).toInt64.toUInt64).toInt64)), .second, .val (.long (((((((((own_mx (0 : Int64) i0).toUInt64 >>> ((32 : Int32) &&& 0x3f).toInt64.toUInt64).toInt64) + ((vb.toUInt64 >>> ((32 : Int32) &&& 0x3f).toInt64.toUInt64).toInt64)) + ((vc.toUInt64 >>> ((32 : Int32) &&& 0x3f).toInt64.toUInt64).toInt64)) + ((((((own_mx (0 : Int64) i0) &&& (4294967295 : Int64)) + (vb &&& (4294967295 : Int64))) + (vc &&& (4294967295 : Int64))).toUInt64 >>> ((32 : Int32) &&& 0x3f).toInt64.toUInt64).toInt64)) &&& (2147483647 : Int64)) <<< ((32 : Int32) &&& 0x3f).toInt64) ||| (((((own_mx (0 : Int64) i0) &&& (4294967295 : Int64)) + (vb &&& (4294967295 : Int64))) + (vc &&& (4294967295 : Int64))) &&& (4294967295 : Int64)))), .second, .val (.double (own_mn (own_W (own_mx 0 i0) vb vc) (own_R (own_mx 0 i0) vb vc) (Int32.ofNat kn).toInt64)), .second] [(.double (own_mn (own_W (own_mx 0 i0) vb vc) (own_R (own_mx 0 i0) vb vc) (Int32.ofNat kn).toInt64))])) t := by
    intro t kt
    refine XS.dload X48.here hx rfl (hb hby at_211) rfl ?_
    show Steps p.tables e below (T48.setTop (mkF m 213 #[.val (.long i0), .second, .val (.long i1), .second, .val (.long i2), .second, .val (.int i3), .val (.int i4), .val (.int (Int32.ofNat kn)), .val (.int (Int32.ofNat sn)), .val (.ref b5), .val (.ref b25), .val (.long (own_mx (0 : Int64) i0)), .second, .val (.long vb), .second, .val (.long vc), .second, .val (.long (((((own_mx (0 : Int64) i0).toUInt64 >>> ((32 : Int32) &&& 0x3f).toInt64.toUInt64).toInt64) + ((vb.toUInt64 >>> ((32 : Int32) &&& 0x3f).toInt64.toUInt64).toInt64)) + ((vc.toUInt64 >>> ((32 : Int32) &&& 0x3f).toInt64.toUInt64).toInt64))), .second, .val (.long ((((own_mx (0 : Int64) i0) &&& (4294967295 : Int64)) + (vb &&& (4294967295 : Int64))) + (vc &&& (4294967295 : Int64)))), .second, .val (.long ((((((own_mx (0 : Int64) i0).toUInt64 >>> ((32 : Int32) &&& 0x3f).toInt64.toUInt64).toInt64) + ((vb.toUInt64 >>> ((32 : Int32) &&& 0x3f).toInt64.toUInt64).toInt64)) + ((vc.toUInt64 >>> ((32 : Int32) &&& 0x3f).toInt64.toUInt64).toInt64)) + ((((((own_mx (0 : Int64) i0) &&& (4294967295 : Int64)) + (vb &&& (4294967295 : Int64))) + (vc &&& (4294967295 : Int64))).toUInt64 >>> ((32 : Int32) &&& 0x3f).toInt64.toUInt64).toInt64))), .second, .val (.long ((((((((own_mx (0 : Int64) i0).toUInt64 >>> ((32 : Int32) &&& 0x3f).toInt64.toUInt64).toInt64) + ((vb.toUInt64 >>> ((32 : Int32) &&& 0x3f).toInt64.toUInt64).toInt64)) + ((vc.toUInt64 >>> ((32 : Int32) &&& 0x3f).toInt64.toUInt64).toInt64)) + ((((((own_mx (0 : Int64) i0) &&& (4294967295 : Int64)) + (vb &&& (4294967295 : Int64))) + (vc &&& (4294967295 : Int64))).toUInt64 >>> ((32 : Int32) &&& 0x3f).toInt64.toUInt64).toInt64)).toUInt64 >>> ((31 : Int32) &&& 0x3f).toInt64.toUInt64).toInt64)), .second, .val (.long (((((((((own_mx (0 : Int64) i0).toUInt64 >>> ((32 : Int32) &&& 0x3f).toInt64.toUInt64).toInt64) + ((vb.toUInt64 >>> ((32 : Int32) &&& 0x3f).toInt64.toUInt64).toInt64)) + ((vc.toUInt64 >>> ((32 : Int32) &&& 0x3f).toInt64.toUInt64).toInt64)) + ((((((own_mx (0 : Int64) i0) &&& (4294967295 : Int64)) + (vb &&& (4294967295 : Int64))) + (vc &&& (4294967295 : Int64))).toUInt64 >>> ((32 : Int32) &&& 0x3f).toInt64.toUInt64).toInt64)) &&& (2147483647 : Int64)) <<< ((32 : Int32) &&& 0x3f).toInt64) ||| (((((own_mx (0 : Int64) i0) &&& (4294967295 : Int64)) + (vb &&& (4294967295 : Int64))) + (vc &&& (4294967295 : Int64))) &&& (4294967295 : Int64)))), .second, .val (.double (own_mn (own_W (own_mx 0 i0) vb vc) (own_R (own_mx 0 i0) vb vc) (Int32.ofNat kn).toInt64)), .second] [(.double (own_mn (own_W (own_mx 0 i0) vb vc) (own_R (own_mx 0 i0) vb vc) (Int32.ofNat kn).toInt64)), (.double (own_mn (own_W (own_mx 0 i0) vb vc) (own_R (own_mx 0 i0) vb vc) (Int32.ofNat kn).toInt64))])) _
    refine XS.dcmpS X48.here hx rfl (hb hby at_213) rfl (v := (cmpValue (FP.dcmp (own_mn (own_W (own_mx 0 i0) vb vc) (own_R (own_mx 0 i0) vb vc) (Int32.ofNat kn).toInt64) (own_mn (own_W (own_mx 0 i0) vb vc) (own_R (own_mx 0 i0) vb vc) (Int32.ofNat kn).toInt64)) .l)) rfl ?_
    show Steps p.tables e below (T48.setTop (mkF m 214 #[.val (.long i0), .second, .val (.long i1), .second, .val (.long i2), .second, .val (.int i3), .val (.int i4), .val (.int (Int32.ofNat kn)), .val (.int (Int32.ofNat sn)), .val (.ref b5), .val (.ref b25), .val (.long (own_mx (0 : Int64) i0)), .second, .val (.long vb), .second, .val (.long vc), .second, .val (.long (((((own_mx (0 : Int64) i0).toUInt64 >>> ((32 : Int32) &&& 0x3f).toInt64.toUInt64).toInt64) + ((vb.toUInt64 >>> ((32 : Int32) &&& 0x3f).toInt64.toUInt64).toInt64)) + ((vc.toUInt64 >>> ((32 : Int32) &&& 0x3f).toInt64.toUInt64).toInt64))), .second, .val (.long ((((own_mx (0 : Int64) i0) &&& (4294967295 : Int64)) + (vb &&& (4294967295 : Int64))) + (vc &&& (4294967295 : Int64)))), .second, .val (.long ((((((own_mx (0 : Int64) i0).toUInt64 >>> ((32 : Int32) &&& 0x3f).toInt64.toUInt64).toInt64) + ((vb.toUInt64 >>> ((32 : Int32) &&& 0x3f).toInt64.toUInt64).toInt64)) + ((vc.toUInt64 >>> ((32 : Int32) &&& 0x3f).toInt64.toUInt64).toInt64)) + ((((((own_mx (0 : Int64) i0) &&& (4294967295 : Int64)) + (vb &&& (4294967295 : Int64))) + (vc &&& (4294967295 : Int64))).toUInt64 >>> ((32 : Int32) &&& 0x3f).toInt64.toUInt64).toInt64))), .second, .val (.long ((((((((own_mx (0 : Int64) i0).toUInt64 >>> ((32 : Int32) &&& 0x3f).toInt64.toUInt64).toInt64) + ((vb.toUInt64 >>> ((32 : Int32) &&& 0x3f).toInt64.toUInt64).toInt64)) + ((vc.toUInt64 >>> ((32 : Int32) &&& 0x3f).toInt64.toUInt64).toInt64)) + ((((((own_mx (0 : Int64) i0) &&& (4294967295 : Int64)) + (vb &&& (4294967295 : Int64))) + (vc &&& (4294967295 : Int64))).toUInt64 >>> ((32 : Int32) &&& 0x3f).toInt64.toUInt64).toInt64)).toUInt64 >>> ((31 : Int32) &&& 0x3f).toInt64.toUInt64).toInt64)), .second, .val (.long (((((((((own_mx (0 : Int64) i0).toUInt64 >>> ((32 : Int32) &&& 0x3f).toInt64.toUInt64).toInt64) + ((vb.toUInt64 >>> ((32 : Int32) &&& 0x3f).toInt64.toUInt64).toInt64)) + ((vc.toUInt64 >>> ((32 : Int32) &&& 0x3f).toInt64.toUInt64).toInt64)) + ((((((own_mx (0 : Int64) i0) &&& (4294967295 : Int64)) + (vb &&& (4294967295 : Int64))) + (vc &&& (4294967295 : Int64))).toUInt64 >>> ((32 : Int32) &&& 0x3f).toInt64.toUInt64).toInt64)) &&& (2147483647 : Int64)) <<< ((32 : Int32) &&& 0x3f).toInt64) ||| (((((own_mx (0 : Int64) i0) &&& (4294967295 : Int64)) + (vb &&& (4294967295 : Int64))) + (vc &&& (4294967295 : Int64))) &&& (4294967295 : Int64)))), .second, .val (.double (own_mn (own_W (own_mx 0 i0) vb vc) (own_R (own_mx 0 i0) vb vc) (Int32.ofNat kn).toInt64)), .second] [(.int (cmpValue (FP.dcmp (own_mn (own_W (own_mx 0 i0) vb vc) (own_R (own_mx 0 i0) vb vc) (Int32.ofNat kn).toInt64) (own_mn (own_W (own_mx 0 i0) vb vc) (own_R (own_mx 0 i0) vb vc) (Int32.ofNat kn).toInt64)) .l))])) _
    refine XS.ifNo X48.here hx rfl (hb hby at_214) rfl ((if0 _ _).trans (teq (dcmpV_self (own_k3 _ _ hkz64) .l : (cmpValue (FP.dcmp (own_mn (own_W (own_mx 0 i0) vb vc) (own_R (own_mx 0 i0) vb vc) (Int32.ofNat kn).toInt64) (own_mn (own_W (own_mx 0 i0) vb vc) (own_R (own_mx 0 i0) vb vc) (Int32.ofNat kn).toInt64)) .l) = (0 : Int32))).2) ?_
    show Steps p.tables e below (T48.setTop (mkF m 217 #[.val (.long i0), .second, .val (.long i1), .second, .val (.long i2), .second, .val (.int i3), .val (.int i4), .val (.int (Int32.ofNat kn)), .val (.int (Int32.ofNat sn)), .val (.ref b5), .val (.ref b25), .val (.long (own_mx (0 : Int64) i0)), .second, .val (.long vb), .second, .val (.long vc), .second, .val (.long (((((own_mx (0 : Int64) i0).toUInt64 >>> ((32 : Int32) &&& 0x3f).toInt64.toUInt64).toInt64) + ((vb.toUInt64 >>> ((32 : Int32) &&& 0x3f).toInt64.toUInt64).toInt64)) + ((vc.toUInt64 >>> ((32 : Int32) &&& 0x3f).toInt64.toUInt64).toInt64))), .second, .val (.long ((((own_mx (0 : Int64) i0) &&& (4294967295 : Int64)) + (vb &&& (4294967295 : Int64))) + (vc &&& (4294967295 : Int64)))), .second, .val (.long ((((((own_mx (0 : Int64) i0).toUInt64 >>> ((32 : Int32) &&& 0x3f).toInt64.toUInt64).toInt64) + ((vb.toUInt64 >>> ((32 : Int32) &&& 0x3f).toInt64.toUInt64).toInt64)) + ((vc.toUInt64 >>> ((32 : Int32) &&& 0x3f).toInt64.toUInt64).toInt64)) + ((((((own_mx (0 : Int64) i0) &&& (4294967295 : Int64)) + (vb &&& (4294967295 : Int64))) + (vc &&& (4294967295 : Int64))).toUInt64 >>> ((32 : Int32) &&& 0x3f).toInt64.toUInt64).toInt64))), .second, .val (.long ((((((((own_mx (0 : Int64) i0).toUInt64 >>> ((32 : Int32) &&& 0x3f).toInt64.toUInt64).toInt64) + ((vb.toUInt64 >>> ((32 : Int32) &&& 0x3f).toInt64.toUInt64).toInt64)) + ((vc.toUInt64 >>> ((32 : Int32) &&& 0x3f).toInt64.toUInt64).toInt64)) + ((((((own_mx (0 : Int64) i0) &&& (4294967295 : Int64)) + (vb &&& (4294967295 : Int64))) + (vc &&& (4294967295 : Int64))).toUInt64 >>> ((32 : Int32) &&& 0x3f).toInt64.toUInt64).toInt64)).toUInt64 >>> ((31 : Int32) &&& 0x3f).toInt64.toUInt64).toInt64)), .second, .val (.long (((((((((own_mx (0 : Int64) i0).toUInt64 >>> ((32 : Int32) &&& 0x3f).toInt64.toUInt64).toInt64) + ((vb.toUInt64 >>> ((32 : Int32) &&& 0x3f).toInt64.toUInt64).toInt64)) + ((vc.toUInt64 >>> ((32 : Int32) &&& 0x3f).toInt64.toUInt64).toInt64)) + ((((((own_mx (0 : Int64) i0) &&& (4294967295 : Int64)) + (vb &&& (4294967295 : Int64))) + (vc &&& (4294967295 : Int64))).toUInt64 >>> ((32 : Int32) &&& 0x3f).toInt64.toUInt64).toInt64)) &&& (2147483647 : Int64)) <<< ((32 : Int32) &&& 0x3f).toInt64) ||| (((((own_mx (0 : Int64) i0) &&& (4294967295 : Int64)) + (vb &&& (4294967295 : Int64))) + (vc &&& (4294967295 : Int64))) &&& (4294967295 : Int64)))), .second, .val (.double (own_mn (own_W (own_mx 0 i0) vb vc) (own_R (own_mx 0 i0) vb vc) (Int32.ofNat kn).toInt64)), .second] [])) _
    refine XS.iconst X48.here hx rfl (hb hby at_217) ?_
    show Steps p.tables e below (T48.setTop (mkF m 218 #[.val (.long i0), .second, .val (.long i1), .second, .val (.long i2), .second, .val (.int i3), .val (.int i4), .val (.int (Int32.ofNat kn)), .val (.int (Int32.ofNat sn)), .val (.ref b5), .val (.ref b25), .val (.long (own_mx (0 : Int64) i0)), .second, .val (.long vb), .second, .val (.long vc), .second, .val (.long (((((own_mx (0 : Int64) i0).toUInt64 >>> ((32 : Int32) &&& 0x3f).toInt64.toUInt64).toInt64) + ((vb.toUInt64 >>> ((32 : Int32) &&& 0x3f).toInt64.toUInt64).toInt64)) + ((vc.toUInt64 >>> ((32 : Int32) &&& 0x3f).toInt64.toUInt64).toInt64))), .second, .val (.long ((((own_mx (0 : Int64) i0) &&& (4294967295 : Int64)) + (vb &&& (4294967295 : Int64))) + (vc &&& (4294967295 : Int64)))), .second, .val (.long ((((((own_mx (0 : Int64) i0).toUInt64 >>> ((32 : Int32) &&& 0x3f).toInt64.toUInt64).toInt64) + ((vb.toUInt64 >>> ((32 : Int32) &&& 0x3f).toInt64.toUInt64).toInt64)) + ((vc.toUInt64 >>> ((32 : Int32) &&& 0x3f).toInt64.toUInt64).toInt64)) + ((((((own_mx (0 : Int64) i0) &&& (4294967295 : Int64)) + (vb &&& (4294967295 : Int64))) + (vc &&& (4294967295 : Int64))).toUInt64 >>> ((32 : Int32) &&& 0x3f).toInt64.toUInt64).toInt64))), .second, .val (.long ((((((((own_mx (0 : Int64) i0).toUInt64 >>> ((32 : Int32) &&& 0x3f).toInt64.toUInt64).toInt64) + ((vb.toUInt64 >>> ((32 : Int32) &&& 0x3f).toInt64.toUInt64).toInt64)) + ((vc.toUInt64 >>> ((32 : Int32) &&& 0x3f).toInt64.toUInt64).toInt64)) + ((((((own_mx (0 : Int64) i0) &&& (4294967295 : Int64)) + (vb &&& (4294967295 : Int64))) + (vc &&& (4294967295 : Int64))).toUInt64 >>> ((32 : Int32) &&& 0x3f).toInt64.toUInt64).toInt64)).toUInt64 >>> ((31 : Int32) &&& 0x3f).toInt64.toUInt64).toInt64)), .second, .val (.long (((((((((own_mx (0 : Int64) i0).toUInt64 >>> ((32 : Int32) &&& 0x3f).toInt64.toUInt64).toInt64) + ((vb.toUInt64 >>> ((32 : Int32) &&& 0x3f).toInt64.toUInt64).toInt64)) + ((vc.toUInt64 >>> ((32 : Int32) &&& 0x3f).toInt64.toUInt64).toInt64)) + ((((((own_mx (0 : Int64) i0) &&& (4294967295 : Int64)) + (vb &&& (4294967295 : Int64))) + (vc &&& (4294967295 : Int64))).toUInt64 >>> ((32 : Int32) &&& 0x3f).toInt64.toUInt64).toInt64)) &&& (2147483647 : Int64)) <<< ((32 : Int32) &&& 0x3f).toInt64) ||| (((((own_mx (0 : Int64) i0) &&& (4294967295 : Int64)) + (vb &&& (4294967295 : Int64))) + (vc &&& (4294967295 : Int64))) &&& (4294967295 : Int64)))), .second, .val (.double (own_mn (own_W (own_mx 0 i0) vb vc) (own_R (own_mx 0 i0) vb vc) (Int32.ofNat kn).toInt64)), .second] [(.int (1 : Int32))])) _
    refine XS.goto X48.here hx rfl (pc0 := 218) (pc' := 222) rfl (hb hby at_218) (by decide) (by decide) ?_
    exact kt
  obtain ⟨fs, hr, hrun, hended, hW, hsame⟩ := X48.leave (v := some (.int (1 : Int32))) (fun h => by rw [Bd.returns] at h; cases h)
  refine ⟨_, _, pre0 _ ?_, hrun, hended, _, _, rfl, ?_, ⟨_, rfl⟩, hW, hsame.mono (by decide) (by decide)⟩
  · refine sg1 _ ?_
    refine sg2 _ ?_
    refine sg3 _ ?_
    refine st4 _ ?_
    refine sg8 _ ?_
    refine st10 _ ?_
    refine sg13 _ ?_
    refine st15 _ ?_
    refine sg18 _ ?_
    refine st20 _ ?_
    refine sg23 _ ?_
    refine st24 _ ?_
    refine sg34 _ ?_
    refine st35.trans ?_
    refine sg36 _ ?_
    refine cv1 _ ?_
    refine st37.trans ?_
    refine sg38 _ ?_
    refine cv2 _ ?_
    refine st39.trans ?_
    refine sg40 _ ?_
    refine st41 _ ?_
    refine sg42 _ ?_
    refine sg43 _ ?_
    refine st_vb _ ?_
    refine sg44 _ ?_
    refine st_vc _ ?_
    refine sg45 _ ?_
    refine sg46 _ ?_
    refine sg47 _ ?_
    refine st48.trans ?_
    refine sg49 _ ?_
    exact retN X48 hx (t := .boolean) Bd.returns (by simp) (hb hby at_222) hr
  · show Q0 Z i0 i1 i2 i3 i4 h0 n0 _ T48.heap _
    exact ⟨rfl, N48⟩
set_option maxRecDepth 65536 in
set_option maxHeartbeats 40000000 in
theorem comes_1 {Post : Tables → Env → Array Value → State → Outcome → State → Prop} (hpost : ∀ tb e args s v u, (limb_1_1.after args s (.returned v) u = true ∧ limb_1_2.after args s (.returned v) u = true ∧ True) → FrameEnd s (.returned v) u (Jvm.fieldLocs frame_1_writes args s ++ Jvm.arrayLocs frame_1_arrays args s ++ Jvm.staticLocs frame_1_statics s) 24 1088 → Post tb e args s (.returned v) u) :
    ArmFor flags0 classFile x code maxLocals ret World_1 tables_1 room_1 Calls_1 rest_1 Pre_1 Post := by
  intro l hfl _ _ p e ha hc hk s m args below hf hA hF happ hP
  obtain ⟨hcalls, hrest, hpre⟩ := hP
  obtain ⟨-, -, -, hnamed, -, -, -, hat⟩ := (Spec.applies_iff hf).mp happ
  obtain ⟨hg, hn⟩ := and_e (Cond.before_iff.mp (show (Jvm.Cond.and given_1 narrow_1).before args s = true from hpre))
  obtain ⟨h1, h2⟩ := and_e hg
  obtain ⟨w0, w1, w2, w3, w4, rfl⟩ : ∃ w0 w1 w2 w3 w4 : Value, args = #[w0, w1, w2, w3, w4] := by
    have hs : args.size = 5 := by simpa [Cond.value, given_1] using h1
    obtain ⟨L⟩ := args
    match L, hs with
    | [w0, w1, w2, w3, w4], _ => exact ⟨w0, w1, w2, w3, w4, rfl⟩
  have hw := fun d (hd : d ∈ tables_1) => atoms_spec (ws := Jvm.Cond.code x code maxLocals ret :: tables_1) hat d (List.mem_cons_of_mem _ hd)
  have hfit : Fit s := fun {y c} hc i hi => by
    obtain ⟨ha, rfl⟩ := Array.getElem?_eq_some_iff.mp hc
    have q := List.all_eq_true.mp ((Array.all_eq_true_iff_forall_mem.mp hF) _ (Array.getElem_mem ha)) i (List.mem_range.mpr hi)
    simpa [Array.getElem?_eq_getElem hi] using q
  obtain ⟨a0, b0⟩ := and_e h2
  obtain ⟨i0, e0⟩ := isL_v a0
  obtain rfl : w0 = (.long i0) := Option.some.inj e0
  obtain ⟨a1, b1⟩ := and_e b0
  obtain ⟨i1, e1⟩ := isL_v a1
  obtain rfl : w1 = (.long i1) := Option.some.inj e1
  obtain ⟨a2, b2⟩ := and_e b1
  obtain ⟨i2, e2⟩ := isL_v a2
  obtain rfl : w2 = (.long i2) := Option.some.inj e2
  obtain ⟨a3, b3⟩ := and_e b2
  obtain ⟨i3, e3⟩ := is_v a3
  obtain rfl : w3 = (.int i3) := Option.some.inj e3
  obtain ⟨i4, e4⟩ := is_v b3
  obtain rfl : w4 = (.int i4) := Option.some.inj e4
  obtain ⟨n, o, h1, h2, h3, _, L, rfl, ⟨rfl, N⟩, hq⟩ := rm0 l s _ hw tables_1 i0 i1 i2 i3 i4 s.heap s.heap.size (Nat.le_refl _) p e ha hc hk s m _ below hf ((Spec.applies_iff_loose hf).mp happ).1 ⟨rfl, State.Warmed39.refl s, rfl⟩ trivial
  refine ⟨n, _, h1, h2, h3, hpost _ _ _ _ _ _ ⟨Cond.after_iff.mpr rfl, Cond.after_iff.mpr (eq_i res_at (Term.int_eval (1)) rfl), trivial⟩ ⟨hq.1, hq.2.1, (hq.2.2.sift fun y hy => Or.inr (N y hy)).mono (by decide) (by decide)⟩⟩
theorem main_1_1 : Claimed_1_1 := comes_1 fun _ _ _ _ _ _ h hF => ⟨h.1, hF⟩
theorem main_1_2 : Claimed_1_2 := comes_1 fun _ _ _ _ _ _ h hF => ⟨h.2.1, hF⟩
end Jvm.Pilot.@@N@@
namespace Jvm.Pilot.@@N@@
open Jvm Jvm.ClassFile Sem Op Lib Jvm.Free Jvm.Stand Jvm.Pilot.@@N@@.Jvm.D
/-! MADE BY PROGRAM (witnessworld.py) out of the Statement's table words and the real class files: 18 classes; the members and pool entries that the words name. The judged class is class 1, her method 1. -/
namespace start1
open Jvm.ClassFile
def u (s : String) : CpInfo := .utf8 (stringToUtf16 s)
/-- a pool by its gaps: so many unusable entries, then the entry; so many at the end -/
def gap : Nat → List CpInfo → List CpInfo
  | 0, r => r
  | n + 1, r => .unusable :: gap n r
def poolList (es : List (Nat × CpInfo)) (last : Nat) : List CpInfo := es.foldr (fun e r => gap e.1 (e.2 :: r)) (gap last [])
def pool (es : List (Nat × CpInfo)) (last : Nat) : Array CpInfo := ⟨poolList es last⟩
def fileOf (pool : Array CpInfo) (this : Nat) (attrs : Array Attribute := #[]) (ms : Array MethodInfo := #[]) (fl : Nat := 33) (sup : Nat := 0) (ifs : Array Nat := #[]) (fds : Array FieldInfo := #[]) : ClassFile where
  minorVersion := 0
  majorVersion := 65
  constantPool := pool
  accessFlags := fl
  thisClass := this
  superClass := sup
  interfaces := ifs
  fields := fds
  methods := ms
  attributes := attrs
def plain (name : String) (sup : Option ClassId) : Class where
  name := name
  kind := .ordinary
  loader := none
  accessFlags := 33
  super := sup
  interfaces := #[]
  cf := none
  fields := #[]
  methods := #[]
  instanceTypes := #[]
  staticTypes := #[]
  resolved := #[]
  callSites := []
  init := .initialized
  statics := none
  mirror := none

def pool0 : Array CpInfo := pool [(5, u "<init>"), (0, u "()V"), (1, .class_ 10), (1, u "java/lang/Object")] 113

def k0c0 : Code := { maxStack := 0, maxLocals := 1, code := object_method_1_code, exceptionTable := #[], attributes := #[] }
def k0m0 : Method := { name := "<init>", desc := "()V", sig := { parameters := [], returnType := none }, accessFlags := 1, code := some k0c0 }
/-- java/lang/Object -/
def k0 : Class := { plain "java/lang/Object" none with
  accessFlags := 33
  interfaces := #[]
  cf := some (fileOf pool0 8 #[] #[{ accessFlags := 1, nameIndex := 5, descriptorIndex := 6, attributes := #[] }] 33 0 #[] #[])
  fields := #[]
  methods := #[k0m0]
  instanceTypes := #[]
  staticTypes := #[]
  resolved := Array.replicate 124 none
  statics := none }

def pool1 : Array CpInfo := pool [(2, .class_ 4), (0, .nameAndType 5 6), (0, u "java/lang/Object"), (0, u "<init>"), (0, u "()V"), (0, .integer 2147483647), (0, .class_ 9), (0, u "com/example/cormorant/cormorant/Histogram"), (0, .methodref 8 3), (0, .methodref 8 12), (0, .nameAndType 13 14), (0, u "record"), (0, u "([JII)V"), (0, .methodref 16 17), (0, .class_ 18), (0, .nameAndType 19 20), (0, u "java/lang/Math"), (0, u "max"), (0, u "(JJ)J"), (0, .long 4294967295), (1, .long 2147483647), (1, .double 4890909195324358656), (1, .methodref 8 28), (0, .nameAndType 29 30), (0, u "mean"), (0, u "()D"), (0, .class_ 32), (0, u "com/example/cormorant/cormorant/HistogramMeanPinLaw"), (2, u "law"), (0, u "(JJJII)Z")] 5

def k1m0 : Method := { name := "<init>", desc := "()V", sig := { parameters := [], returnType := none }, accessFlags := 1, code := none }
def k1c1 : Code := { maxStack := 6, maxLocals := 30, code := code, exceptionTable := #[], attributes := #[] }
def k1m1 : Method := { name := "law", desc := "(JJJII)Z", sig := { parameters := [.long, .long, .long, .int, .int], returnType := some .boolean }, accessFlags := 9, code := some k1c1 }
/-- com/example/cormorant/cormorant/HistogramMeanPinLaw -/
def k1 : Class := { plain "com/example/cormorant/cormorant/HistogramMeanPinLaw" (some 0) with
  accessFlags := 49
  interfaces := #[]
  cf := some (fileOf pool1 31 #[] #[{ accessFlags := 1, nameIndex := 5, descriptorIndex := 6, attributes := #[] }, { accessFlags := 9, nameIndex := 35, descriptorIndex := 36, attributes := #[] }] 49 2 #[] #[])
  fields := #[]
  methods := #[k1m0, k1m1]
  instanceTypes := #[]
  staticTypes := #[]
  resolved := Array.replicate 42 none
  statics := none }

def pool2 : Array CpInfo := pool [(1, .class_ 2), (0, u "com/example/cormorant/cormorant/Histogram"), (0, .class_ 4), (0, u "java/lang/Long"), (0, .methodref 6 7), (0, .class_ 8), (0, .nameAndType 9 10), (0, u "java/lang/Object"), (0, u "<init>"), (0, u "()V"), (0, .class_ 12), (0, u "[J"), (0, .fieldref 1 14), (0, .nameAndType 15 16), (0, u "buckets"), (0, u "[[J"), (0, .fieldref 1 18), (0, .nameAndType 19 12), (0, u "blockCounts"), (0, .fieldref 1 21), (0, .nameAndType 22 23), (0, u "sum"), (0, u "J"), (0, .fieldref 1 25), (0, .nameAndType 26 23), (0, u "sumWraps"), (0, .fieldref 1 28), (0, .nameAndType 29 23), (0, u "max"), (0, .methodref 31 32), (0, .class_ 33), (0, .nameAndType 29 34), (0, u "java/lang/Math"), (0, u "(JJ)J"), (0, .methodref 1 36), (0, .nameAndType 37 38), (0, u "blockOf"), (0, u "(J)I"), (0, .methodref 1 40), (0, .nameAndType 41 42), (0, u "shiftOf"), (0, u "(I)I"), (0, .long 9223372036854775807), (1, .fieldref 1 46), (0, .nameAndType 47 23), (0, u "count"), (0, .double 4890909195324358656), (12, .methodref 3 62), (0, .nameAndType 63 38), (0, u "numberOfLeadingZeros"), (0, .methodref 31 65), (0, .nameAndType 29 66), (0, u "(II)I"), (2, u "PRECISION"), (0, u "I"), (2, u "BLOCK_SIZE"), (1, u "BLOCKS"), (3, u "record"), (0, u "([JII)V"), (2, u "mean"), (0, u "()D")] 4

def k2c0 : Code := { maxStack := 2, maxLocals := 1, code := prog_1_method_1_code, exceptionTable := #[], attributes := #[] }
def k2m0 : Method := { name := "<init>", desc := "()V", sig := { parameters := [], returnType := none }, accessFlags := 0, code := some k2c0 }
def k2c1 : Code := { maxStack := 6, maxLocals := 17, code := prog_1_method_2_code, exceptionTable := #[], attributes := #[] }
def k2m1 : Method := { name := "record", desc := "([JII)V", sig := { parameters := [(.array .long), .int, .int], returnType := none }, accessFlags := 0, code := some k2c1 }
def k2c2 : Code := { maxStack := 4, maxLocals := 1, code := prog_1_method_4_code, exceptionTable := #[], attributes := #[] }
def k2m2 : Method := { name := "mean", desc := "()D", sig := { parameters := [], returnType := some .double }, accessFlags := 0, code := some k2c2 }
def k2c3 : Code := { maxStack := 4, maxLocals := 2, code := prog_1_method_7_code, exceptionTable := #[], attributes := #[] }
def k2m3 : Method := { name := "blockOf", desc := "(J)I", sig := { parameters := [.long], returnType := some .int }, accessFlags := 10, code := some k2c3 }
def k2c4 : Code := { maxStack := 3, maxLocals := 1, code := prog_1_method_8_code, exceptionTable := #[], attributes := #[] }
def k2m4 : Method := { name := "shiftOf", desc := "(I)I", sig := { parameters := [.int], returnType := some .int }, accessFlags := 10, code := some k2c4 }
/-- com/example/cormorant/cormorant/Histogram -/
def k2 : Class := { plain "com/example/cormorant/cormorant/Histogram" (some 0) with
  accessFlags := 48
  interfaces := #[]
  cf := some (fileOf pool2 1 #[] #[{ accessFlags := 0, nameIndex := 9, descriptorIndex := 10, attributes := #[] }, { accessFlags := 0, nameIndex := 79, descriptorIndex := 80, attributes := #[] }, { accessFlags := 0, nameIndex := 83, descriptorIndex := 84, attributes := #[] }, { accessFlags := 10, nameIndex := 37, descriptorIndex := 38, attributes := #[] }, { accessFlags := 10, nameIndex := 41, descriptorIndex := 42, attributes := #[] }] 48 6 #[] #[{ accessFlags := 26, nameIndex := 69, descriptorIndex := 70, attributes := #[] }, { accessFlags := 26, nameIndex := 73, descriptorIndex := 70, attributes := #[] }, { accessFlags := 26, nameIndex := 75, descriptorIndex := 70, attributes := #[] }, { accessFlags := 18, nameIndex := 15, descriptorIndex := 16, attributes := #[] }, { accessFlags := 18, nameIndex := 19, descriptorIndex := 12, attributes := #[] }, { accessFlags := 2, nameIndex := 47, descriptorIndex := 23, attributes := #[] }, { accessFlags := 2, nameIndex := 22, descriptorIndex := 23, attributes := #[] }, { accessFlags := 2, nameIndex := 26, descriptorIndex := 23, attributes := #[] }, { accessFlags := 2, nameIndex := 29, descriptorIndex := 23, attributes := #[] }])
  fields := #[{ name := "PRECISION", type := .int, accessFlags := 26, slot := 0, constantValue := 0 }, { name := "BLOCK_SIZE", type := .int, accessFlags := 26, slot := 1, constantValue := 0 }, { name := "BLOCKS", type := .int, accessFlags := 26, slot := 2, constantValue := 0 }, { name := "buckets", type := (.array (.array .long)), accessFlags := 18, slot := 0, constantValue := 0 }, { name := "blockCounts", type := (.array .long), accessFlags := 18, slot := 1, constantValue := 0 }, { name := "count", type := .long, accessFlags := 2, slot := 2, constantValue := 0 }, { name := "sum", type := .long, accessFlags := 2, slot := 3, constantValue := 0 }, { name := "sumWraps", type := .long, accessFlags := 2, slot := 4, constantValue := 0 }, { name := "max", type := .long, accessFlags := 2, slot := 5, constantValue := 0 }]
  methods := #[k2m0, k2m1, k2m2, k2m3, k2m4]
  instanceTypes := #[(.array (.array .long)), (.array .long), .long, .long, .long, .long]
  staticTypes := #[.int, .int, .int]
  resolved := Array.replicate 89 none
  statics := none }

def pool3 : Array CpInfo := pool [(1, .class_ 2), (0, u "java/lang/Math"), (1, .class_ 6), (1, u "java/lang/Object"), (0, u "<init>"), (0, u "()V"), (89, .class_ 100), (1, u "java/lang/Math$RandomNumberGeneratorHolder"), (20, u "(JJ)J"), (50, u "negativeZeroFloatBits"), (0, u "J"), (2, u "negativeZeroDoubleBits"), (21, u "max"), (46, u "$assertionsDisabled"), (0, u "Z"), (88, u "(II)I"), (2, u "twoToTheDoubleScaleDown"), (0, u "D"), (4, u "twoToTheDoubleScaleUp"), (9, u "E"), (3, u "PI"), (2, u "TAU"), (2, u "DEGREES_TO_RADIANS"), (0, u "RADIANS_TO_DEGREES")] 94

def k3m0 : Method := { name := "<init>", desc := "()V", sig := { parameters := [], returnType := none }, accessFlags := 2, code := none }
def k3c1 : Code := { maxStack := 2, maxLocals := 2, code := jdk_29_method_65_code, exceptionTable := #[], attributes := #[] }
def k3m1 : Method := { name := "max", desc := "(II)I", sig := { parameters := [.int, .int], returnType := some .int }, accessFlags := 9, code := some k3c1 }
def k3c2 : Code := { maxStack := 4, maxLocals := 4, code := jdk_29_method_66_code, exceptionTable := #[], attributes := #[] }
def k3m2 : Method := { name := "max", desc := "(JJ)J", sig := { parameters := [.long, .long], returnType := some .long }, accessFlags := 9, code := some k3c2 }
/-- java/lang/Math -/
def k3 : Class := { plain "java/lang/Math" (some 0) with
  accessFlags := 49
  interfaces := #[]
  cf := some (fileOf pool3 1 #[.nestMembers #[98]] #[{ accessFlags := 2, nameIndex := 7, descriptorIndex := 8, attributes := #[] }, { accessFlags := 9, nameIndex := 198, descriptorIndex := 335, attributes := #[] }, { accessFlags := 9, nameIndex := 198, descriptorIndex := 121, attributes := #[] }] 49 4 #[] #[{ accessFlags := 25, nameIndex := 354, descriptorIndex := 339, attributes := #[] }, { accessFlags := 25, nameIndex := 358, descriptorIndex := 339, attributes := #[] }, { accessFlags := 25, nameIndex := 361, descriptorIndex := 339, attributes := #[] }, { accessFlags := 26, nameIndex := 364, descriptorIndex := 339, attributes := #[] }, { accessFlags := 26, nameIndex := 365, descriptorIndex := 339, attributes := #[] }, { accessFlags := 26, nameIndex := 172, descriptorIndex := 173, attributes := #[] }, { accessFlags := 26, nameIndex := 176, descriptorIndex := 173, attributes := #[] }, { accessFlags := 8, nameIndex := 344, descriptorIndex := 339, attributes := #[] }, { accessFlags := 8, nameIndex := 338, descriptorIndex := 339, attributes := #[] }, { accessFlags := 4120, nameIndex := 245, descriptorIndex := 246, attributes := #[] }])
  fields := #[{ name := "E", type := .double, accessFlags := 25, slot := 0, constantValue := 0 }, { name := "PI", type := .double, accessFlags := 25, slot := 1, constantValue := 0 }, { name := "TAU", type := .double, accessFlags := 25, slot := 2, constantValue := 0 }, { name := "DEGREES_TO_RADIANS", type := .double, accessFlags := 26, slot := 3, constantValue := 0 }, { name := "RADIANS_TO_DEGREES", type := .double, accessFlags := 26, slot := 4, constantValue := 0 }, { name := "negativeZeroFloatBits", type := .long, accessFlags := 26, slot := 5, constantValue := 0 }, { name := "negativeZeroDoubleBits", type := .long, accessFlags := 26, slot := 6, constantValue := 0 }, { name := "twoToTheDoubleScaleUp", type := .double, accessFlags := 8, slot := 7, constantValue := 0 }, { name := "twoToTheDoubleScaleDown", type := .double, accessFlags := 8, slot := 8, constantValue := 0 }, { name := "$assertionsDisabled", type := .boolean, accessFlags := 4120, slot := 9, constantValue := 0 }]
  methods := #[k3m0, k3m1, k3m2]
  instanceTypes := #[]
  staticTypes := #[.double, .double, .double, .double, .double, .long, .long, .double, .double, .boolean]
  resolved := Array.replicate 460 none
  statics := none }

def pool4 : Array CpInfo := pool [(1, .class_ 2), (0, u "java/io/Serializable"), (0, .class_ 4), (0, u "java/lang/Object")] 2

/-- java/io/Serializable -/
def k4 : Class := { plain "java/io/Serializable" (some 0) with
  accessFlags := 1537
  interfaces := #[]
  cf := some (fileOf pool4 1 #[] #[] 1537 3 #[] #[])
  fields := #[]
  methods := #[]
  instanceTypes := #[]
  staticTypes := #[]
  resolved := Array.replicate 7 none
  statics := none }

def pool5 : Array CpInfo := pool [(2, .class_ 4), (1, u "java/lang/Object"), (0, u "<init>"), (0, u "()V"), (1, .class_ 10), (1, u "java/lang/Number"), (2, .class_ 14), (0, u "java/io/Serializable"), (0, u "serialVersionUID"), (0, u "J")] 20

def k5m0 : Method := { name := "<init>", desc := "()V", sig := { parameters := [], returnType := none }, accessFlags := 1, code := none }
/-- java/lang/Number -/
def k5 : Class := { plain "java/lang/Number" (some 0) with
  accessFlags := 1057
  interfaces := #[4]
  cf := some (fileOf pool5 8 #[] #[{ accessFlags := 1, nameIndex := 5, descriptorIndex := 6, attributes := #[] }] 1057 2 #[13] #[{ accessFlags := 26, nameIndex := 15, descriptorIndex := 16, attributes := #[] }])
  fields := #[{ name := "serialVersionUID", type := .long, accessFlags := 26, slot := 0, constantValue := 0 }]
  methods := #[k5m0]
  instanceTypes := #[]
  staticTypes := #[.long]
  resolved := Array.replicate 37 none
  statics := none }

def pool6 : Array CpInfo := pool [(1, .class_ 2), (0, u "java/lang/Comparable"), (0, .class_ 4), (0, u "java/lang/Object")] 7

/-- java/lang/Comparable -/
def k6 : Class := { plain "java/lang/Comparable" (some 0) with
  accessFlags := 1537
  interfaces := #[]
  cf := some (fileOf pool6 1 #[] #[] 1537 3 #[] #[])
  fields := #[]
  methods := #[]
  instanceTypes := #[]
  staticTypes := #[]
  resolved := Array.replicate 12 none
  statics := none }

def pool7 : Array CpInfo := pool [(1, .class_ 2), (0, u "java/lang/constant/Constable"), (0, .class_ 4), (0, u "java/lang/Object")] 6

/-- java/lang/constant/Constable -/
def k7 : Class := { plain "java/lang/constant/Constable" (some 0) with
  accessFlags := 1537
  interfaces := #[]
  cf := some (fileOf pool7 1 #[] #[] 1537 3 #[] #[])
  fields := #[]
  methods := #[]
  instanceTypes := #[]
  staticTypes := #[]
  resolved := Array.replicate 11 none
  statics := none }

def pool8 : Array CpInfo := pool [(1, .class_ 2), (0, u "java/lang/constant/ConstantDesc"), (0, .class_ 4), (0, u "java/lang/Object")] 32

/-- java/lang/constant/ConstantDesc -/
def k8 : Class := { plain "java/lang/constant/ConstantDesc" (some 0) with
  accessFlags := 1537
  interfaces := #[]
  cf := some (fileOf pool8 1 #[] #[] 1537 3 #[] #[])
  fields := #[]
  methods := #[]
  instanceTypes := #[]
  staticTypes := #[]
  resolved := Array.replicate 37 none
  statics := none }

def pool9 : Array CpInfo := pool [(1, .class_ 2), (0, u "java/lang/Long"), (15, .class_ 20), (1, u "java/lang/Integer"), (79, u "numberOfLeadingZeros"), (0, u "(J)I"), (133, .class_ 237), (1, u "java/lang/Long$LongCache"), (33, .class_ 272), (0, u "java/lang/Number"), (2, u "value"), (0, u "J"), (31, .methodref 18 309), (0, .nameAndType 100 310), (0, u "(I)I"), (50, u "TYPE"), (0, u "Ljava/lang/Class;"), (0, .class_ 364), (0, u "java/lang/Comparable"), (0, .class_ 366), (0, u "java/lang/constant/Constable"), (0, .class_ 368), (0, u "java/lang/constant/ConstantDesc"), (0, u "MIN_VALUE"), (1, u "MAX_VALUE"), (4, u "SIZE"), (0, u "I"), (1, u "BYTES"), (1, u "serialVersionUID")] 142

def k9c0 : Code := { maxStack := 3, maxLocals := 3, code := jdk_35_method_48_code, exceptionTable := #[], attributes := #[] }
def k9m0 : Method := { name := "numberOfLeadingZeros", desc := "(J)I", sig := { parameters := [.long], returnType := some .int }, accessFlags := 9, code := some k9c0 }
/-- java/lang/Long -/
def k9 : Class := { plain "java/lang/Long" (some 5) with
  accessFlags := 49
  interfaces := #[6, 7, 8]
  cf := some (fileOf pool9 1 #[.nestMembers #[235]] #[{ accessFlags := 9, nameIndex := 100, descriptorIndex := 101, attributes := #[] }] 49 271 #[363, 365, 367] #[{ accessFlags := 25, nameIndex := 369, descriptorIndex := 276, attributes := #[] }, { accessFlags := 25, nameIndex := 371, descriptorIndex := 276, attributes := #[] }, { accessFlags := 25, nameIndex := 361, descriptorIndex := 362, attributes := #[] }, { accessFlags := 18, nameIndex := 275, descriptorIndex := 276, attributes := #[] }, { accessFlags := 25, nameIndex := 376, descriptorIndex := 377, attributes := #[] }, { accessFlags := 25, nameIndex := 379, descriptorIndex := 377, attributes := #[] }, { accessFlags := 26, nameIndex := 381, descriptorIndex := 276, attributes := #[] }])
  fields := #[{ name := "MIN_VALUE", type := .long, accessFlags := 25, slot := 0, constantValue := 0 }, { name := "MAX_VALUE", type := .long, accessFlags := 25, slot := 1, constantValue := 0 }, { name := "TYPE", type := (.object "java/lang/Class"), accessFlags := 25, slot := 2, constantValue := 0 }, { name := "value", type := .long, accessFlags := 18, slot := 0, constantValue := 0 }, { name := "SIZE", type := .int, accessFlags := 25, slot := 3, constantValue := 0 }, { name := "BYTES", type := .int, accessFlags := 25, slot := 4, constantValue := 0 }, { name := "serialVersionUID", type := .long, accessFlags := 26, slot := 5, constantValue := 0 }]
  methods := #[k9m0]
  instanceTypes := #[.long]
  staticTypes := #[.long, .long, (.object "java/lang/Class"), .int, .int, .long]
  resolved := Array.replicate 524 none
  statics := none }

def pool10 : Array CpInfo := pool [(1, .class_ 2), (0, u "java/lang/Integer"), (16, u "digits"), (0, u "[C"), (32, u "numberOfLeadingZeros"), (0, u "(I)I"), (30, u "DigitOnes"), (0, u "[B"), (2, u "DigitTens"), (99, .class_ 190), (0, u "java/lang/Integer$IntegerCache"), (3, u "I"), (8, .class_ 204), (0, u "java/lang/Number"), (2, u "value"), (56, .integer 65536), (37, u "TYPE"), (0, u "Ljava/lang/Class;"), (0, .class_ 305), (0, u "java/lang/Comparable"), (0, .class_ 307), (0, u "java/lang/constant/Constable"), (0, .class_ 309), (0, u "java/lang/constant/ConstantDesc"), (0, u "MIN_VALUE"), (1, u "MAX_VALUE"), (3, u "SIZE"), (1, u "BYTES"), (1, u "serialVersionUID"), (0, u "J")] 131

def k10c0 : Code := { maxStack := 3, maxLocals := 2, code := jdk_33_method_47_code, exceptionTable := #[], attributes := #[] }
def k10m0 : Method := { name := "numberOfLeadingZeros", desc := "(I)I", sig := { parameters := [.int], returnType := some .int }, accessFlags := 9, code := some k10c0 }
/-- java/lang/Integer -/
def k10 : Class := { plain "java/lang/Integer" (some 5) with
  accessFlags := 49
  interfaces := #[6, 7, 8]
  cf := some (fileOf pool10 1 #[.nestMembers #[189]] #[{ accessFlags := 9, nameIndex := 53, descriptorIndex := 54, attributes := #[] }] 49 203 #[304, 306, 308] #[{ accessFlags := 25, nameIndex := 310, descriptorIndex := 194, attributes := #[] }, { accessFlags := 25, nameIndex := 312, descriptorIndex := 194, attributes := #[] }, { accessFlags := 25, nameIndex := 302, descriptorIndex := 303, attributes := #[] }, { accessFlags := 24, nameIndex := 19, descriptorIndex := 20, attributes := #[] }, { accessFlags := 24, nameIndex := 89, descriptorIndex := 86, attributes := #[] }, { accessFlags := 24, nameIndex := 85, descriptorIndex := 86, attributes := #[] }, { accessFlags := 18, nameIndex := 207, descriptorIndex := 194, attributes := #[] }, { accessFlags := 25, nameIndex := 316, descriptorIndex := 194, attributes := #[] }, { accessFlags := 25, nameIndex := 318, descriptorIndex := 194, attributes := #[] }, { accessFlags := 26, nameIndex := 320, descriptorIndex := 321, attributes := #[] }])
  fields := #[{ name := "MIN_VALUE", type := .int, accessFlags := 25, slot := 0, constantValue := 0 }, { name := "MAX_VALUE", type := .int, accessFlags := 25, slot := 1, constantValue := 0 }, { name := "TYPE", type := (.object "java/lang/Class"), accessFlags := 25, slot := 2, constantValue := 0 }, { name := "digits", type := (.array .char), accessFlags := 24, slot := 3, constantValue := 0 }, { name := "DigitTens", type := (.array .byte), accessFlags := 24, slot := 4, constantValue := 0 }, { name := "DigitOnes", type := (.array .byte), accessFlags := 24, slot := 5, constantValue := 0 }, { name := "value", type := .int, accessFlags := 18, slot := 0, constantValue := 0 }, { name := "SIZE", type := .int, accessFlags := 25, slot := 6, constantValue := 0 }, { name := "BYTES", type := .int, accessFlags := 25, slot := 7, constantValue := 0 }, { name := "serialVersionUID", type := .long, accessFlags := 26, slot := 8, constantValue := 0 }]
  methods := #[k10m0]
  instanceTypes := #[.int]
  staticTypes := #[.int, .int, (.object "java/lang/Class"), (.array .char), (.array .byte), (.array .byte), .int, .int, .long]
  resolved := Array.replicate 453 none
  statics := none }

def pool11 : Array CpInfo := pool [(1, u "java/lang/Cloneable"), (0, .class_ 1), (0, u "java/lang/Object"), (0, .class_ 3)] 3

/-- java/lang/Cloneable -/
def k11 : Class := { plain "java/lang/Cloneable" (some 0) with
  accessFlags := 1537
  interfaces := #[]
  cf := some (fileOf pool11 2 #[] #[] 1537 4 #[] #[])
  fields := #[]
  methods := #[]
  instanceTypes := #[]
  staticTypes := #[]
  resolved := Array.replicate 8 none
  statics := none }

/-- the primitive byte -/
def k12 : Class := { plain "byte" none with kind := .primitive 'B', accessFlags := 0x411 }
/-- [B -/
def k13 : Class := { plain "[B" (some 0) with kind := .array 12 .byte, interfaces := #[11, 4], accessFlags := 1041 }

/-- the primitive int -/
def k14 : Class := { plain "int" none with kind := .primitive 'I', accessFlags := 0x411 }
/-- [I -/
def k15 : Class := { plain "[I" (some 0) with kind := .array 14 .int, interfaces := #[11, 4], accessFlags := 1041 }

/-- the primitive long -/
def k16 : Class := { plain "long" none with kind := .primitive 'J', accessFlags := 0x411 }
/-- [J -/
def k17 : Class := { plain "[J" (some 0) with kind := .array 16 .long, interfaces := #[11, 4], accessFlags := 1041 }

/-- [[J -/
def k18 : Class := { plain "[[J" (some 0) with kind := .array 17 (.array .long), interfaces := #[11, 4], accessFlags := 1041 }

def heap : Heap := #[]
def classes : Array Class := #[k0, k1, k2, k3, k4, k5, k6, k7, k8, k9, k10, k11, k12, k13, k14, k15, k16, k17, k18]
def interned : List (Array UInt16 × Addr) := []
def slotsUsed : Nat := 0
def theMethod : MethodId := ⟨1, 1⟩
def args0 : Array Value := #[.long 5, .long 3, .long 9, .int 4, .int 1]
def aboutOver (below : List Frame) : State where
  vm := { classes := classes, interned := interned.toArray }
  heap := heap
  slotsUsed := slotsUsed
  threads := #[{ frames := .invoking theMethod args0 :: below }]
def below0 : List Frame := [.native { method := ⟨0, 0⟩, args := #[] }]
def about1 : State := aboutOver below0
def p0 : Program := .bare "" "" ""
def e0 : Env := launch0.env 0 0 0
theorem w_frames : about1.frames = Frame.invoking theMethod args0 :: below0 := rfl
set_option maxRecDepth 65536 in
theorem w_args : argsFit about1.vm theMethod args0 = true := by decide +kernel
set_option maxRecDepth 65536 in
theorem w_heap : heapFits about1 = true := by decide +kernel
set_option maxRecDepth 65536 in
theorem w_runnable : about1.curStatus? = some .runnable := by decide +kernel
set_option maxRecDepth 65536 in
theorem w_alone : about1.alone = true := by decide +kernel
set_option maxRecDepth 65536 in
theorem w_named : about1.methodNamed? x = some theMethod := by decide +kernel
set_option maxRecDepth 65536 in
theorem w_hears : about1.hears theMethod below0 = true := by decide +kernel
set_option maxRecDepth 65536 in
theorem w_ripe : about1.ripe theMethod args0 below0 = true := by decide +kernel
theorem w_running : about1.status = .running := rfl
set_option maxRecDepth 65536 in
theorem w_room : about1.hasRoom e0.platform room_1 = true :=
  launch0.hasRoom_least _ room_1 (by decide +kernel) (by decide +kernel) (by decide +kernel) (by decide +kernel) (by decide +kernel) (by decide +kernel)
theorem allAtoms_all (ts : List Jvm.Cond) (a : Array Jvm.Value) (st : Jvm.State) : (allAtoms ts).before a st = ts.all (fun c => c.before a st) := by
  induction ts with
  | nil => rfl
  | cons c t ih =>
    show (Jvm.Cond.and c (allAtoms t)).before a st = _
    rw [Jvm.Cond.before_and, ih, List.all_cons]
def words1 : List Jvm.Cond := Jvm.Cond.code x code maxLocals ret :: tables_1
/-- a 'code' word, met by the world's own term for the bytes: nothing is compared byte by byte -/
theorem code_word {y : MethodName} {bytes : ByteArray} {mx : Nat} {rt : Option FieldType} {a : Array Value} {s : State} {m : MethodId} {meth : Method} {c : Code} (h1 : s.methodNamed? y = some m) (h2 : s.vm.method? m = some meth) (h3 : meth.code = some c) (h4 : c.code = bytes)
    (h5 : (c.maxLocals == mx && c.exceptionTable.isEmpty && decide (c.maxStack ≤ mostOperands) && decide (meth.sig.returnType = rt) && !meth.locks && decide (parseMethodDescriptor y.desc = some meth.sig)) = true) : (Jvm.Cond.code y bytes mx rt).before a s = true := by
  simp only [Bool.and_eq_true, beq_iff_eq, Bool.not_eq_true', decide_eq_true_eq] at h5
  obtain ⟨⟨⟨⟨⟨g1, g2⟩, g3⟩, g4⟩, g5⟩, g6⟩ := h5
  simp [Cond.before, Cond.holds, Cond.value, h1, h2, h3, h4, g1, g2, g3, g4, g5, g6]
def isCode : Jvm.Cond → Bool
  | .code _ _ _ _ => true
  | _ => false
theorem all_split {L : List Jvm.Cond} {P : Jvm.Cond → Bool} (h1 : L.all (fun c => isCode c || P c) = true) (h2 : ∀ c ∈ L.filter isCode, P c = true) : L.all P = true := by
  refine List.all_eq_true.mpr fun c hc => ?_
  have h := List.all_eq_true.mp h1 c hc
  rcases Bool.eq_false_or_eq_true (isCode c) with hi | hi
  · exact h2 c (List.mem_filter.mpr ⟨hc, hi⟩)
  · simpa [hi] using h
set_option maxRecDepth 65536 in
theorem w_c0 : (Jvm.Cond.code x code maxLocals ret).before args0 about1 = true := code_word (m := ⟨1, 1⟩) (meth := k1m1) (c := k1c1) (by decide +kernel) rfl rfl rfl (by decide +kernel)
set_option maxRecDepth 65536 in
theorem w_c1 : (Jvm.Cond.code ({ cls := "com/example/cormorant/cormorant/Histogram", name := "<init>", desc := "()V" } : Jvm.MethodName) prog_1_method_1_code (1 : Nat) (Option.none : Option Jvm.ClassFile.FieldType)).before args0 about1 = true := code_word (m := ⟨2, 0⟩) (meth := k2m0) (c := k2c0) (by decide +kernel) rfl rfl rfl (by decide +kernel)
set_option maxRecDepth 65536 in
theorem w_c2 : (Jvm.Cond.code ({ cls := "java/lang/Object", name := "<init>", desc := "()V" } : Jvm.MethodName) object_method_1_code (1 : Nat) (Option.none : Option Jvm.ClassFile.FieldType)).before args0 about1 = true := code_word (m := ⟨0, 0⟩) (meth := k0m0) (c := k0c0) (by decide +kernel) rfl rfl rfl (by decide +kernel)
set_option maxRecDepth 65536 in
theorem w_c3 : (Jvm.Cond.code ({ cls := "com/example/cormorant/cormorant/Histogram", name := "record", desc := "([JII)V" } : Jvm.MethodName) prog_1_method_2_code (17 : Nat) (Option.none : Option Jvm.ClassFile.FieldType)).before args0 about1 = true := code_word (m := ⟨2, 1⟩) (meth := k2m1) (c := k2c1) (by decide +kernel) rfl rfl rfl (by decide +kernel)
set_option maxRecDepth 65536 in
theorem w_c4 : (Jvm.Cond.code ({ cls := "java/lang/Math", name := "max", desc := "(JJ)J" } : Jvm.MethodName) jdk_29_method_66_code (4 : Nat) (Option.some Jvm.ClassFile.FieldType.long)).before args0 about1 = true := code_word (m := ⟨3, 2⟩) (meth := k3m2) (c := k3c2) (by decide +kernel) rfl rfl rfl (by decide +kernel)
set_option maxRecDepth 65536 in
theorem w_c5 : (Jvm.Cond.code ({ cls := "com/example/cormorant/cormorant/Histogram", name := "blockOf", desc := "(J)I" } : Jvm.MethodName) prog_1_method_7_code (2 : Nat) (Option.some Jvm.ClassFile.FieldType.int)).before args0 about1 = true := code_word (m := ⟨2, 3⟩) (meth := k2m3) (c := k2c3) (by decide +kernel) rfl rfl rfl (by decide +kernel)
set_option maxRecDepth 65536 in
theorem w_c6 : (Jvm.Cond.code ({ cls := "java/lang/Long", name := "numberOfLeadingZeros", desc := "(J)I" } : Jvm.MethodName) jdk_35_method_48_code (3 : Nat) (Option.some Jvm.ClassFile.FieldType.int)).before args0 about1 = true := code_word (m := ⟨9, 0⟩) (meth := k9m0) (c := k9c0) (by decide +kernel) rfl rfl rfl (by decide +kernel)
set_option maxRecDepth 65536 in
theorem w_c7 : (Jvm.Cond.code ({ cls := "java/lang/Integer", name := "numberOfLeadingZeros", desc := "(I)I" } : Jvm.MethodName) jdk_33_method_47_code (2 : Nat) (Option.some Jvm.ClassFile.FieldType.int)).before args0 about1 = true := code_word (m := ⟨10, 0⟩) (meth := k10m0) (c := k10c0) (by decide +kernel) rfl rfl rfl (by decide +kernel)
set_option maxRecDepth 65536 in
theorem w_c8 : (Jvm.Cond.code ({ cls := "java/lang/Math", name := "max", desc := "(II)I" } : Jvm.MethodName) jdk_29_method_65_code (2 : Nat) (Option.some Jvm.ClassFile.FieldType.int)).before args0 about1 = true := code_word (m := ⟨3, 1⟩) (meth := k3m1) (c := k3c1) (by decide +kernel) rfl rfl rfl (by decide +kernel)
set_option maxRecDepth 65536 in
theorem w_c9 : (Jvm.Cond.code ({ cls := "com/example/cormorant/cormorant/Histogram", name := "shiftOf", desc := "(I)I" } : Jvm.MethodName) prog_1_method_8_code (1 : Nat) (Option.some Jvm.ClassFile.FieldType.int)).before args0 about1 = true := code_word (m := ⟨2, 4⟩) (meth := k2m4) (c := k2c4) (by decide +kernel) rfl rfl rfl (by decide +kernel)
set_option maxRecDepth 65536 in
theorem w_c10 : (Jvm.Cond.code ({ cls := "com/example/cormorant/cormorant/Histogram", name := "mean", desc := "()D" } : Jvm.MethodName) prog_1_method_4_code (1 : Nat) (Option.some Jvm.ClassFile.FieldType.double)).before args0 about1 = true := code_word (m := ⟨2, 2⟩) (meth := k2m2) (c := k2c2) (by decide +kernel) rfl rfl rfl (by decide +kernel)
def codes1 : List Jvm.Cond := [Jvm.Cond.code x code maxLocals ret, Jvm.Cond.code ({ cls := "com/example/cormorant/cormorant/Histogram", name := "<init>", desc := "()V" } : Jvm.MethodName) prog_1_method_1_code (1 : Nat) (Option.none : Option Jvm.ClassFile.FieldType), Jvm.Cond.code ({ cls := "java/lang/Object", name := "<init>", desc := "()V" } : Jvm.MethodName) object_method_1_code (1 : Nat) (Option.none : Option Jvm.ClassFile.FieldType), Jvm.Cond.code ({ cls := "com/example/cormorant/cormorant/Histogram", name := "record", desc := "([JII)V" } : Jvm.MethodName) prog_1_method_2_code (17 : Nat) (Option.none : Option Jvm.ClassFile.FieldType), Jvm.Cond.code ({ cls := "java/lang/Math", name := "max", desc := "(JJ)J" } : Jvm.MethodName) jdk_29_method_66_code (4 : Nat) (Option.some Jvm.ClassFile.FieldType.long), Jvm.Cond.code ({ cls := "com/example/cormorant/cormorant/Histogram", name := "blockOf", desc := "(J)I" } : Jvm.MethodName) prog_1_method_7_code (2 : Nat) (Option.some Jvm.ClassFile.FieldType.int), Jvm.Cond.code ({ cls := "java/lang/Long", name := "numberOfLeadingZeros", desc := "(J)I" } : Jvm.MethodName) jdk_35_method_48_code (3 : Nat) (Option.some Jvm.ClassFile.FieldType.int), Jvm.Cond.code ({ cls := "java/lang/Integer", name := "numberOfLeadingZeros", desc := "(I)I" } : Jvm.MethodName) jdk_33_method_47_code (2 : Nat) (Option.some Jvm.ClassFile.FieldType.int), Jvm.Cond.code ({ cls := "java/lang/Math", name := "max", desc := "(II)I" } : Jvm.MethodName) jdk_29_method_65_code (2 : Nat) (Option.some Jvm.ClassFile.FieldType.int), Jvm.Cond.code ({ cls := "com/example/cormorant/cormorant/Histogram", name := "shiftOf", desc := "(I)I" } : Jvm.MethodName) prog_1_method_8_code (1 : Nat) (Option.some Jvm.ClassFile.FieldType.int), Jvm.Cond.code ({ cls := "com/example/cormorant/cormorant/Histogram", name := "mean", desc := "()D" } : Jvm.MethodName) prog_1_method_4_code (1 : Nat) (Option.some Jvm.ClassFile.FieldType.double)]
set_option maxRecDepth 65536 in
theorem codes_eq : words1.filter isCode = codes1 := rfl
theorem w_codes : ∀ c ∈ words1.filter isCode, c.before args0 about1 = true := by
  rw [codes_eq]
  intro c hc
  simp only [codes1, List.mem_cons, List.not_mem_nil, or_false] at hc
  rcases hc with rfl | rfl | rfl | rfl | rfl | rfl | rfl | rfl | rfl | rfl | rfl
  · exact w_c0
  · exact w_c1
  · exact w_c2
  · exact w_c3
  · exact w_c4
  · exact w_c5
  · exact w_c6
  · exact w_c7
  · exact w_c8
  · exact w_c9
  · exact w_c10
set_option maxRecDepth 65536 in
theorem w_t1 : (words1.take 24).all (fun c => isCode c || c.before args0 about1) = true := by decide +kernel
set_option maxRecDepth 65536 in
theorem w_t2 : ((words1.drop 24).take 24).all (fun c => isCode c || c.before args0 about1) = true := by decide +kernel
set_option maxRecDepth 65536 in
theorem w_t3 : ((words1.drop 24).drop 24).all (fun c => isCode c || c.before args0 about1) = true := by decide +kernel
theorem w_tables : (allAtoms (Jvm.Cond.code x code maxLocals ret :: tables_1)).before args0 about1 = true := by
  rw [allAtoms_all]
  show words1.all (fun c => c.before args0 about1) = true
  refine all_split ?_ w_codes
  rw [← List.take_append_drop 24 words1, List.all_append, w_t1, ← List.take_append_drop 24 (words1.drop 24), List.all_append, w_t2, w_t3]
  rfl
set_option maxRecDepth 65536 in
theorem w_case : (Jvm.Cond.and given_1 narrow_1).before args0 about1 = true := by decide +kernel
theorem w_applies : (headSpec (Jvm.Cond.code x code maxLocals ret :: tables_1) room_1).applies x e0.platform about1 = true :=
  (Spec.applies_iff w_frames).mpr ⟨w_running, w_runnable, w_alone, w_named, w_hears, w_ripe, w_room, w_tables⟩
theorem atStart : AtStart classFile x code maxLocals ret World_1 tables_1 room_1 Calls_1 rest_1 Pre_1 launch0 p0 e0 about1 theMethod args0 below0 :=
  ⟨lists_1, trivial, launch0.admits_env _ _ _, launch0.least_env, fairChoices_fair.cas, fairChoices_fair.clock, w_frames, w_args, w_heap, w_applies, trivial, trivial, w_case⟩
end start1
theorem witness_1 : WitnessClaimed_1 := ⟨start1.p0, start1.e0, start1.about1, start1.theMethod, start1.args0, start1.below0, start1.atStart⟩
end Jvm.Pilot.@@N@@
