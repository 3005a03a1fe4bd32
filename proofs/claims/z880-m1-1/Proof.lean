import JvmDerived
import JvmDerived.Pilot.@@N@@Statement
import JvmDerived.Pilot.@@N@@Code
set_option linter.unusedVariables false
set_option linter.unusedSimpArgs false
namespace Jvm.RoadKit
open Sem ClassFile Op Lib Jvm.Stand Jvm.Free Jvm.LawKit
section New
variable {p : Program} {l : Launch} {e : Env} {R : Room} {s : State} {m : MethodId} {args : Array Value} {below : List Frame} {meth : Method} {c : Code} {T : State} {locs : List Loc} {cells slots : Nat}
theorem retI (X : Stand p l e R s m args below meth c T locs cells slots) (hx : p.tables.exec = Jvm.exec) {pc : Nat} {Ls : Array Slot} {z : Int32} {rest : List Value} (hret : meth.sig.returnType = some .int) (hd : decode c.code pc = .ok (.ireturn, 1)) {fs : List Frame}
    (hl : ∀ (f : JFrame) (acts : List Action), f.method = m → f.locked = none → f.entered = [] → (doReturn e (T.setTop f) acts (some (.int z))).1 = T.setFrames fs) : Steps p.tables e below (T.setTop (mkF m pc Ls (.int z :: rest))) (T.setFrames fs) := by
  have hm' : T.vm.method? m = some meth := X.method'
  have hn : narrow .int (.int z) = .int z := rfl
  show Steps p.tables e below (T.setTop { method := m, pc := pc, locals := Ls, stack := _ :: rest, locked := none }) _
  jvm_step X.here [X.here.top, hx, hd, hm', hret, hn]
  first | (intro acts; rw [hl _ acts rfl rfl rfl]) | rw [hl _ _ rfl rfl rfl]
  exact Steps.refl _
theorem retD (X : Stand p l e R s m args below meth c T locs cells slots) (hx : p.tables.exec = Jvm.exec) {pc : Nat} {Ls : Array Slot} {z : UInt64} {rest : List Value} (hret : meth.sig.returnType = some .double) (hd : decode c.code pc = .ok (.dreturn, 1)) {fs : List Frame}
    (hl : ∀ (f : JFrame) (acts : List Action), f.method = m → f.locked = none → f.entered = [] → (doReturn e (T.setTop f) acts (some (.double z))).1 = T.setFrames fs) : Steps p.tables e below (T.setTop (mkF m pc Ls (.double z :: rest))) (T.setFrames fs) := by
  have hm' : T.vm.method? m = some meth := X.method'
  have hn : narrow .double (.double z) = .double z := rfl
  show Steps p.tables e below (T.setTop { method := m, pc := pc, locals := Ls, stack := _ :: rest, locked := none }) _
  jvm_step X.here [X.here.top, hx, hd, hm', hret, hn]
  first | (intro acts; rw [hl _ acts rfl rfl rfl]) | rw [hl _ _ rfl rfl rfl]
  exact Steps.refl _
theorem retJ (X : Stand p l e R s m args below meth c T locs cells slots) (hx : p.tables.exec = Jvm.exec) {pc : Nat} {Ls : Array Slot} {z : Int64} {rest : List Value} (hret : meth.sig.returnType = some .long) (hd : decode c.code pc = .ok (.lreturn, 1)) {fs : List Frame}
    (hl : ∀ (f : JFrame) (acts : List Action), f.method = m → f.locked = none → f.entered = [] → (doReturn e (T.setTop f) acts (some (.long z))).1 = T.setFrames fs) : Steps p.tables e below (T.setTop (mkF m pc Ls (.long z :: rest))) (T.setFrames fs) := by
  have hm' : T.vm.method? m = some meth := X.method'
  have hn : narrow .long (.long z) = .long z := rfl
  show Steps p.tables e below (T.setTop { method := m, pc := pc, locals := Ls, stack := _ :: rest, locked := none }) _
  jvm_step X.here [X.here.top, hx, hd, hm', hret, hn]
  first | (intro acts; rw [hl _ acts rfl rfl rfl]) | rw [hl _ _ rfl rfl rfl]
  exact Steps.refl _
end New
end Jvm.RoadKit
namespace Jvm.Pilot.@@N@@
open Jvm Jvm.ClassFile Sem Op Lib Jvm.Free Jvm.Stand Jvm.LawKit Jvm.RoadKit Bundle Jvm.Pilot.@@N@@.Jvm.D Jvm.Free.Fl
open Jvm.Free.XT (n32 succ32 add32n lt32 nlt32)

theorem own_q : FP.ddiv (4696837146684686336 : UInt64) (4677104761256804352 : UInt64) = (4626322717216342016 : UInt64) := by decide +kernel
theorem own_20 : NoNaN64 (4626322717216342016 : UInt64) := by unfold NoNaN64; decide
theorem own_255 : NoNaN64 (4643176031446892544 : UInt64) := by unfold NoNaN64; decide
theorem own_8 : NoNaN64 (4620693217682128896 : UInt64) := by unfold NoNaN64; decide
theorem own_qn : NoNaN64 (FP.ddiv (4696837146684686336 : UInt64) (4677104761256804352 : UInt64)) := by rw [own_q]; exact own_20
theorem own_min : Native.java_lang_Math.nans.pick64 false (4643176031446892544 : UInt64) (4626322717216342016 : UInt64) = (4626322717216342016 : UInt64) := by decide +kernel
theorem own_max : Native.java_lang_Math.nans.pick64 true (4620693217682128896 : UInt64) (4626322717216342016 : UInt64) = (4626322717216342016 : UInt64) := by decide +kernel
theorem own_d2i : FP.d2i (4626322717216342016 : UInt64) = (20 : Int32) := by decide +kernel
theorem own_z0 : (0 : Int32).toInt = 0 := by decide
def own_next (z r : Int32) : Int32 := if z = 0 then 0 else r + 1
theorem own_inc {r : Int32} (h1 : 0 ≤ r.toInt) (h2 : r.toInt ≤ 100) : (r + (1 : Int32)).toInt = r.toInt + 1 := by
  have := c_iadd r 1; have := rng32 (r + 1); have e : (1 : Int32).toInt = 1 := by decide
  omega
theorem own_nn {r : Int32} (h : 0 ≤ r.toInt) : ¬ r < 0 := by rw [Int32.lt_iff_toInt_lt]; have e : (0 : Int32).toInt = 0 := by decide
                                                             omega
theorem d8_0 : decode jdk_29_method_69_code 0 = .ok (.iload_n 0, 1) := by decide +kernel
theorem d8_1 : decode jdk_29_method_69_code 1 = .ok (.iload_n 1, 1) := by decide +kernel
theorem d8_2 : decode jdk_29_method_69_code 2 = .ok (.if_icmp .gt 7, 3) := by decide +kernel
theorem d8_5 : decode jdk_29_method_69_code 5 = .ok (.iload_n 0, 1) := by decide +kernel
theorem d8_6 : decode jdk_29_method_69_code 6 = .ok (.goto 4, 3) := by decide +kernel
theorem d8_9 : decode jdk_29_method_69_code 9 = .ok (.iload_n 1, 1) := by decide +kernel
theorem d8_10 : decode jdk_29_method_69_code 10 = .ok (.ireturn, 1) := by decide +kernel
theorem ef_8 (m : MethodId) (x0 : Int32) (x1 : Int32) : entryFrame m #[(.int x0), (.int x1)] 2 = mkF m 0 #[.val (.int x0), .val (.int x1)] [] := by first | (simp [entryFrame, mkF, argsToLocals, Value.category]; done) | rfl
def Q8 (Z : State)  (h0 : Heap) (n0 : Nat) (v : Option Value) (h : Heap) (L : List Loc) : Prop := v = some (.int (20 : Int32)) ∧ Fr n0 L ∧ h = h0
set_option maxRecDepth 65536 in
set_option maxHeartbeats 40000000 in
theorem rm8 (l : Launch) (Z : State) (a0 : Array Value) (hw : ∀ d ∈ tables_1, d.before a0 Z = true) (ws : List Jvm.Cond)  (h0 : Heap) (n0 : Nat) (Z0 : n0 ≤ h0.size)  :
    MetFree l (⟨"java/lang/Math", "min", "(II)I"⟩ : MethodName) (head1 (Jvm.Cond.code (⟨"java/lang/Math", "min", "(II)I"⟩ : MethodName) jdk_29_method_69_code 2 (some .int) :: ws) ({ frames := 0, cells := 0, slots := 0, locals := 0 } : Room)) (fun a U => a = #[(.int (20 : Int32)), (.int (128 : Int32))] ∧ Z.Warmed39 U.vm ∧ U.heap = h0) (fun _ _ _ _ _ => True) (fun _ U o U' => ∃ v L, o = .returned v ∧ Q8 Z  h0 n0 v U'.heap L ∧ FrameEnd U o U' L ({ frames := 0, cells := 0, slots := 0, locals := 0 } : Room).cells ({ frames := 0, cells := 0, slots := 0, locals := 0 } : Room).slots) := by
  refine MetFree.of_bodySF (Jvm.Free.JP.mathPlain rfl (by decide +kernel)) hisR ?_
  intro p e s m args below meth c s₁ Bd hml0 hP hK
  obtain ⟨rfl, hZ, hh⟩ := hP
  have hx := Bd.exec
  have hby := Bd.bytes
  have hml : c.maxLocals = 2 := hml0
  have hown : s.vm.findClass "java/lang/Math" = some m.cls := findClass_of_methodNamed Bd.named
  have hnm := (name_of_methodNamed Bd.named Bd.method).1
  have X0 : Stand p l e ({ frames := 0, cells := 0, slots := 0, locals := 0 } : Room) s m #[(.int (20 : Int32)), (.int (128 : Int32))] below meth c s₁ [] 0 0 := Stand.of_body Bd
  have e0 : s₁.heap = h0 := by rw [← hh, Bd.state]; rfl
  have N0 := Fr.nil n0
  have pre0 : ∀ t, Steps p.tables e below (s₁.setTop (mkF m 0 #[.val (.int (20 : Int32)), .val (.int (128 : Int32))] [])) t → Steps p.tables e below (s₁.setTop (entryFrame m #[(.int (20 : Int32)), (.int (128 : Int32))] 2)) t := fun t kq0 => castTop (ef_8 m ((20 : Int32)) ((128 : Int32))) kq0
  have sg1 : ∀ t, Steps p.tables e below (s₁.setTop (mkF m 10 #[.val (.int (20 : Int32)), .val (.int (128 : Int32))] [(.int (20 : Int32))])) t → Steps p.tables e below (s₁.setTop (mkF m 0 #[.val (.int (20 : Int32)), .val (.int (128 : Int32))] [])) t := by
    intro t kt
    refine XS.iloadN X0.here hx rfl (hb hby d8_0) rfl ?_
    show Steps p.tables e below (s₁.setTop (mkF m 1 #[.val (.int (20 : Int32)), .val (.int (128 : Int32))] [(.int (20 : Int32))])) _
    refine XS.iloadN X0.here hx rfl (hb hby d8_1) rfl ?_
    show Steps p.tables e below (s₁.setTop (mkF m 2 #[.val (.int (20 : Int32)), .val (.int (128 : Int32))] [(.int (128 : Int32)), (.int (20 : Int32))])) _
    refine XS.icmpNo X0.here hx rfl (hb hby d8_2) rfl (flt (by decide : ¬ ((128 : Int32) < (20 : Int32)))).2.2.1 ?_
    show Steps p.tables e below (s₁.setTop (mkF m 5 #[.val (.int (20 : Int32)), .val (.int (128 : Int32))] [])) _
    refine XS.iloadN X0.here hx rfl (hb hby d8_5) rfl ?_
    show Steps p.tables e below (s₁.setTop (mkF m 6 #[.val (.int (20 : Int32)), .val (.int (128 : Int32))] [(.int (20 : Int32))])) _
    refine XS.goto X0.here hx rfl (pc0 := 6) (pc' := 10) rfl (hb hby d8_6) (by decide) (by decide) ?_
    exact kt
  obtain ⟨fs, hr, hrun, hended, hW, hsame⟩ := X0.leave (v := some (.int (20 : Int32))) (fun h => by rw [Bd.returns] at h; cases h)
  refine ⟨_, _, pre0 _ ?_, hrun, hended, _, _, rfl, ?_, ⟨_, rfl⟩, hW, hsame.mono (by decide) (by decide)⟩
  · refine sg1 _ ?_
    exact retI X0 hx Bd.returns (hb hby d8_10) hr
  · show Q8 Z h0 n0 _ s₁.heap _
    rw [e0]; exact ⟨rfl, N0, rfl⟩
theorem d3_0 : decode prog_29_method_7_code 0 = .ok (.ldc2_w 48, 3) := by decide +kernel
theorem d3_3 : decode prog_29_method_7_code 3 = .ok (.ldc2_w 50, 3) := by decide +kernel
theorem d3_6 : decode prog_29_method_7_code 6 = .ok (.ldc2_w 52, 3) := by decide +kernel
theorem d3_9 : decode prog_29_method_7_code 9 = .ok (.dload_n 0, 1) := by decide +kernel
theorem d3_10 : decode prog_29_method_7_code 10 = .ok (.ddiv, 1) := by decide +kernel
theorem d3_11 : decode prog_29_method_7_code 11 = .ok (.invokestatic 54, 3) := by decide +kernel
theorem d3_14 : decode prog_29_method_7_code 14 = .ok (.invokestatic 56, 3) := by decide +kernel
theorem d3_17 : decode prog_29_method_7_code 17 = .ok (.d2i, 1) := by decide +kernel
theorem d3_18 : decode prog_29_method_7_code 18 = .ok (.ireturn, 1) := by decide +kernel
theorem pn_3 : plainName "com/example/handoff/handoff/WorkerTurns" = true := by first | (simp [plainName, overriddenIn]; done) | decide +kernel
theorem ef_3 (m : MethodId) (x0 : UInt64) : entryFrame m #[(.double x0)] 2 = mkF m 0 #[.val (.double x0), .second] [] := by first | (simp [entryFrame, mkF, argsToLocals, Value.category]; done) | rfl
theorem pd_0 : parseMethodDescriptor "(DD)D" = some ⟨[.double, .double], some .double⟩ := by decide +kernel
def Q3 (Z : State)  (h0 : Heap) (n0 : Nat) (v : Option Value) (h : Heap) (L : List Loc) : Prop := v = some (.int (20 : Int32)) ∧ Fr n0 L ∧ h = h0
set_option maxRecDepth 65536 in
set_option maxHeartbeats 40000000 in
theorem rm3 (l : Launch) (Z : State) (a0 : Array Value) (hw : ∀ d ∈ tables_1, d.before a0 Z = true) (ws : List Jvm.Cond)  (h0 : Heap) (n0 : Nat) (Z0 : n0 ≤ h0.size)  :
    MetFree l (⟨"com/example/handoff/handoff/WorkerTurns", "interval", "(D)I"⟩ : MethodName) (head1 (Jvm.Cond.code (⟨"com/example/handoff/handoff/WorkerTurns", "interval", "(D)I"⟩ : MethodName) prog_29_method_7_code 2 (some .int) :: ws) ({ frames := 1, cells := 0, slots := 0, locals := 17 } : Room)) (fun a U => a = #[(.double (4677104761256804352 : UInt64))] ∧ Z.Warmed39 U.vm ∧ U.heap = h0) (fun _ _ _ _ _ => True) (fun _ U o U' => ∃ v L, o = .returned v ∧ Q3 Z  h0 n0 v U'.heap L ∧ FrameEnd U o U' L ({ frames := 1, cells := 0, slots := 0, locals := 17 } : Room).cells ({ frames := 1, cells := 0, slots := 0, locals := 17 } : Room).slots) := by
  refine MetFree.of_bodySF (plainFor_of_name pn_3) hisR ?_
  intro p e s m args below meth c s₁ Bd hml0 hP hK
  obtain ⟨rfl, hZ, hh⟩ := hP
  have hx := Bd.exec
  have hby := Bd.bytes
  have hml : c.maxLocals = 2 := hml0
  have hown : s.vm.findClass "com/example/handoff/handoff/WorkerTurns" = some m.cls := findClass_of_methodNamed Bd.named
  have hnm := (name_of_methodNamed Bd.named Bd.method).1
  have X0 : Stand p l e ({ frames := 1, cells := 0, slots := 0, locals := 17 } : Room) s m #[(.double (4677104761256804352 : UInt64))] below meth c s₁ [] 0 0 := Stand.of_body Bd
  have e0 : s₁.heap = h0 := by rw [← hh, Bd.state]; rfl
  have N0 := Fr.nil n0
  have pre0 : ∀ t, Steps p.tables e below (s₁.setTop (mkF m 0 #[.val (.double (4677104761256804352 : UInt64)), .second] [])) t → Steps p.tables e below (s₁.setTop (entryFrame m #[(.double (4677104761256804352 : UInt64))] 2)) t := fun t kq0 => castTop (ef_3 m ((4677104761256804352 : UInt64))) kq0
  have sg1 : ∀ t, Steps p.tables e below (s₁.setTop (mkF m 11 #[.val (.double (4677104761256804352 : UInt64)), .second] [(.double (4626322717216342016 : UInt64)), (.double (4643176031446892544 : UInt64)), (.double (4620693217682128896 : UInt64))])) t → Steps p.tables e below (s₁.setTop (mkF m 0 #[.val (.double (4677104761256804352 : UInt64)), .second] [])) t := by
    intro t kt
    refine X0.ldc2DoubleC hx hown (mvT hZ (hw _ (List.mem_of_getElem? (i := 15) rfl))) (g := (mkF m 0 #[.val (.double (4677104761256804352 : UInt64)), .second] [])) rfl (hb hby d3_0) _ ?_
    show Steps p.tables e below (s₁.setTop (mkF m 3 #[.val (.double (4677104761256804352 : UInt64)), .second] [(.double (4620693217682128896 : UInt64))])) _
    refine X0.ldc2DoubleC hx hown (mvT hZ (hw _ (List.mem_of_getElem? (i := 16) rfl))) (g := (mkF m 3 #[.val (.double (4677104761256804352 : UInt64)), .second] [(.double (4620693217682128896 : UInt64))])) rfl (hb hby d3_3) _ ?_
    show Steps p.tables e below (s₁.setTop (mkF m 6 #[.val (.double (4677104761256804352 : UInt64)), .second] [(.double (4643176031446892544 : UInt64)), (.double (4620693217682128896 : UInt64))])) _
    refine X0.ldc2DoubleC hx hown (mvT hZ (hw _ (List.mem_of_getElem? (i := 17) rfl))) (g := (mkF m 6 #[.val (.double (4677104761256804352 : UInt64)), .second] [(.double (4643176031446892544 : UInt64)), (.double (4620693217682128896 : UInt64))])) rfl (hb hby d3_6) _ ?_
    show Steps p.tables e below (s₁.setTop (mkF m 9 #[.val (.double (4677104761256804352 : UInt64)), .second] [(.double (4696837146684686336 : UInt64)), (.double (4643176031446892544 : UInt64)), (.double (4620693217682128896 : UInt64))])) _
    refine XS.dloadN X0.here hx rfl (hb hby d3_9) rfl ?_
    show Steps p.tables e below (s₁.setTop (mkF m 10 #[.val (.double (4677104761256804352 : UInt64)), .second] [(.double (4677104761256804352 : UInt64)), (.double (4696837146684686336 : UInt64)), (.double (4643176031446892544 : UInt64)), (.double (4620693217682128896 : UInt64))])) _
    refine XS.ddivS X0.here hx rfl (hb hby d3_10) rfl own_qn (v := (4626322717216342016 : UInt64)) own_q ?_
    exact kt
  obtain ⟨T2, X2, e2, st2⟩ := natS X0 hx hZ (y := (⟨"java/lang/Math", "min", "(DD)D"⟩ : MethodName)) hown (hw _ (List.mem_of_getElem? (i := 18) rfl)) (hw _ (List.mem_of_getElem? (i := 19) rfl)) (hw _ (List.mem_of_getElem? (i := 20) rfl)) (hw _ (List.mem_of_getElem? (i := 21) rfl)) (by decide) e0 (W := 2) (F := fun a' => a' = #[.double (4643176031446892544 : UInt64), .double (4626322717216342016 : UInt64)] ∧ NoNaN64 (4643176031446892544 : UInt64) ∧ NoNaN64 (4626322717216342016 : UInt64)) (fun c4 => Jvm.Free.Fl.Abs.minD_pays (4643176031446892544 : UInt64) (4626322717216342016 : UInt64) c4 (by decide) (by decide)) (g := (mkF m 11 #[.val (.double (4677104761256804352 : UInt64)), .second] [(.double (4626322717216342016 : UInt64)), (.double (4643176031446892544 : UInt64)), (.double (4620693217682128896 : UInt64))])) rfl (by rw [hml]; rfl) (argsL := [(.double (4643176031446892544 : UInt64)), (.double (4626322717216342016 : UInt64))]) (rest := [(.double (4620693217682128896 : UInt64))]) (lenOf pd_0 rfl) rfl (by show 2 * 0 + _ ≤ _; exact Nat.le_of_eq rfl) (hb hby d3_11) (by decide) (by decide) ⟨rfl, ⟨own_255, own_20⟩⟩ (congrArg Value.double own_min)
  obtain ⟨T3, X3, e3, st3⟩ := natS X2 hx hZ (y := (⟨"java/lang/Math", "max", "(DD)D"⟩ : MethodName)) hown (hw _ (List.mem_of_getElem? (i := 22) rfl)) (hw _ (List.mem_of_getElem? (i := 23) rfl)) (hw _ (List.mem_of_getElem? (i := 20) rfl)) (hw _ (List.mem_of_getElem? (i := 24) rfl)) (by decide) e2 (W := 0) (F := fun a' => a' = #[.double (4620693217682128896 : UInt64), .double (4626322717216342016 : UInt64)] ∧ NoNaN64 (4620693217682128896 : UInt64) ∧ NoNaN64 (4626322717216342016 : UInt64)) (fun c4 => Jvm.Free.Fl.Abs.maxD_pays (4620693217682128896 : UInt64) (4626322717216342016 : UInt64) c4 (by decide) (by decide)) (g := (mkF m 14 #[.val (.double (4677104761256804352 : UInt64)), .second] [(.double (4626322717216342016 : UInt64)), (.double (4620693217682128896 : UInt64))])) rfl (by rw [hml]; rfl) (argsL := [(.double (4620693217682128896 : UInt64)), (.double (4626322717216342016 : UInt64))]) (rest := []) (lenOf pd_0 rfl) rfl (by show 2 * 0 + _ ≤ _; exact Nat.le_of_eq rfl) (hb hby d3_14) (by decide) (by decide) ⟨rfl, ⟨own_8, own_20⟩⟩ (congrArg Value.double own_max)
  have sg4 : ∀ t, Steps p.tables e below (T3.setTop (mkF m 18 #[.val (.double (4677104761256804352 : UInt64)), .second] [(.int (20 : Int32))])) t → Steps p.tables e below (T3.setTop (mkF m 17 #[.val (.double (4677104761256804352 : UInt64)), .second] [(.double (4626322717216342016 : UInt64))])) t := by
    intro t kt
    refine XS.d2iS X3.here hx rfl (hb hby d3_17) rfl (v := (20 : Int32)) own_d2i ?_
    exact kt
  obtain ⟨fs, hr, hrun, hended, hW, hsame⟩ := X3.leave (v := some (.int (20 : Int32))) (fun h => by rw [Bd.returns] at h; cases h)
  refine ⟨_, _, pre0 _ ?_, hrun, hended, _, _, rfl, ?_, ⟨_, rfl⟩, hW, hsame.mono (by decide) (by decide)⟩
  · refine sg1 _ ?_
    refine st2 _ ?_
    refine st3 _ ?_
    refine sg4 _ ?_
    exact retI X3 hx Bd.returns (hb hby d3_18) hr
  · show Q3 Z h0 n0 _ T3.heap _
    rw [e3]; exact ⟨rfl, N0, rfl⟩
theorem d1_0 : decode prog_29_method_1_code 0 = .ok (.aload_n 0, 1) := by decide +kernel
theorem d1_1 : decode prog_29_method_1_code 1 = .ok (.invokespecial 1, 3) := by decide +kernel
theorem d1_4 : decode prog_29_method_1_code 4 = .ok (.aload_n 0, 1) := by decide +kernel
theorem d1_5 : decode prog_29_method_1_code 5 = .ok (.ldc2_w 9, 3) := by decide +kernel
theorem d1_8 : decode prog_29_method_1_code 8 = .ok (.putfield 11, 3) := by decide +kernel
theorem d1_11 : decode prog_29_method_1_code 11 = .ok (.aload_n 0, 1) := by decide +kernel
theorem d1_12 : decode prog_29_method_1_code 12 = .ok (.ldc2_w 9, 3) := by decide +kernel
theorem d1_15 : decode prog_29_method_1_code 15 = .ok (.invokestatic 15, 3) := by decide +kernel
theorem d1_18 : decode prog_29_method_1_code 18 = .ok (.putfield 19, 3) := by decide +kernel
theorem d1_21 : decode prog_29_method_1_code 21 = .ok (.return_, 1) := by decide +kernel
theorem pn_1 : plainName "com/example/handoff/handoff/WorkerTurns" = true := by first | (simp [plainName, overriddenIn]; done) | decide +kernel
theorem ef_1 (m : MethodId) (x0 : Addr) : entryFrame m #[(.ref x0)] 1 = mkF m 0 #[.val (.ref x0)] [] := by first | (simp [entryFrame, mkF, argsToLocals, Value.category]; done) | rfl
theorem pd_1 : parseMethodDescriptor "(D)I" = some ⟨[.double], some .int⟩ := by decide +kernel
def Q1 (Z : State) (a1 : Addr) (h0 : Heap) (n0 : Nat) (v : Option Value) (h : Heap) (L : List Loc) : Prop := v = none ∧ Fr n0 L ∧ Keep h0 h [a1] ∧ Exa Z h a1 "com/example/handoff/handoff/WorkerTurns" ∧ Fld Z h a1 "com/example/handoff/handoff/WorkerTurns" "interval" "I" (.int (20 : Int32)) ∧ Fld Z h a1 "com/example/handoff/handoff/WorkerTurns" "polls" "I" (.int (0 : Int32)) ∧ Fld Z h a1 "com/example/handoff/handoff/WorkerTurns" "slotRuns" "I" (.int (0 : Int32))
set_option maxRecDepth 65536 in
set_option maxHeartbeats 40000000 in
theorem rm1 (l : Launch) (Z : State) (a0 : Array Value) (hw : ∀ d ∈ tables_1, d.before a0 Z = true) (ws : List Jvm.Cond) (a1 : Addr) (h0 : Heap) (n0 : Nat) (Z0 : n0 ≤ h0.size) (E1 : Exa Z h0 a1 "com/example/handoff/handoff/WorkerTurns") (F_average : Fld Z h0 a1 "com/example/handoff/handoff/WorkerTurns" "average" "D" (.double (0 : UInt64))) (F_interval : Fld Z h0 a1 "com/example/handoff/handoff/WorkerTurns" "interval" "I" (.int (0 : Int32))) (F_polls : Fld Z h0 a1 "com/example/handoff/handoff/WorkerTurns" "polls" "I" (.int (0 : Int32))) (F_slotRuns : Fld Z h0 a1 "com/example/handoff/handoff/WorkerTurns" "slotRuns" "I" (.int (0 : Int32))) (g_a1 : n0 ≤ a1) :
    MetFree l (⟨"com/example/handoff/handoff/WorkerTurns", "<init>", "()V"⟩ : MethodName) (head1 (Jvm.Cond.code (⟨"com/example/handoff/handoff/WorkerTurns", "<init>", "()V"⟩ : MethodName) prog_29_method_1_code 1 none :: ws) ({ frames := 2, cells := 0, slots := 0, locals := 31 } : Room)) (fun a U => a = #[(.ref a1)] ∧ Z.Warmed39 U.vm ∧ U.heap = h0) (fun _ _ _ _ _ => True) (fun _ U o U' => ∃ v L, o = .returned v ∧ Q1 Z a1 h0 n0 v U'.heap L ∧ FrameEnd U o U' L ({ frames := 2, cells := 0, slots := 0, locals := 31 } : Room).cells ({ frames := 2, cells := 0, slots := 0, locals := 31 } : Room).slots) := by
  refine MetFree.of_bodySF (plainFor_of_name pn_1) hisR ?_
  intro p e s m args below meth c s₁ Bd hml0 hP hK
  obtain ⟨rfl, hZ, hh⟩ := hP
  have hx := Bd.exec
  have hby := Bd.bytes
  have hml : c.maxLocals = 1 := hml0
  have hown : s.vm.findClass "com/example/handoff/handoff/WorkerTurns" = some m.cls := findClass_of_methodNamed Bd.named
  have hnm := (name_of_methodNamed Bd.named Bd.method).1
  have X0 : Stand p l e ({ frames := 2, cells := 0, slots := 0, locals := 31 } : Room) s m #[(.ref a1)] below meth c s₁ [] 0 0 := Stand.of_body Bd
  have e0 : s₁.heap = h0 := by rw [← hh, Bd.state]; rfl
  have N0 := Fr.nil n0
  have pre0 : ∀ t, Steps p.tables e below (s₁.setTop (mkF m 0 #[.val (.ref a1)] [])) t → Steps p.tables e below (s₁.setTop (entryFrame m #[(.ref a1)] 1)) t := fun t kq0 => castTop (ef_1 m a1) kq0
  have K1 := Keep.refl h0 [a1]
  have sg2 : ∀ t, Steps p.tables e below (s₁.setTop (mkF m 1 #[.val (.ref a1)] [(.ref a1)])) t → Steps p.tables e below (s₁.setTop (mkF m 0 #[.val (.ref a1)] [])) t := by
    intro t kt
    refine XS.aloadN X0.here hx rfl (hb hby d1_0) rfl rfl ?_
    exact kt
  obtain ⟨T3, X3, e3, st3⟩ := initO X0 hx hZ hown (hw _ (List.mem_of_getElem? (i := 6) rfl)) (hw _ (List.mem_of_getElem? (i := 7) rfl)) (hw _ (List.mem_of_getElem? (i := 8) rfl)) e0 (g := (mkF m 1 #[.val (.ref a1)] [(.ref a1)])) rfl (by rw [hml]; rfl) rfl (hb hby d1_1) (by decide) (W := 0) (by show 2 * 0 + _ ≤ _; exact Nat.le_of_eq rfl) (by decide)
  have sg4 : ∀ t, Steps p.tables e below (T3.setTop (mkF m 8 #[.val (.ref a1)] [(.double (4677104761256804352 : UInt64)), (.ref a1)])) t → Steps p.tables e below (T3.setTop (mkF m 4 #[.val (.ref a1)] [])) t := by
    intro t kt
    refine XS.aloadN X3.here hx rfl (hb hby d1_4) rfl rfl ?_
    show Steps p.tables e below (T3.setTop (mkF m 5 #[.val (.ref a1)] [(.ref a1)])) _
    refine X3.ldc2DoubleC hx hown (mvT hZ (hw _ (List.mem_of_getElem? (i := 9) rfl))) (g := (mkF m 5 #[.val (.ref a1)] [(.ref a1)])) rfl (hb hby d1_5) _ ?_
    exact kt
  obtain ⟨T5, h5, X5, e5, W5, st5⟩ := putF X3 hx hZ hown (host := "") (Or.inl (hw _ (List.mem_of_getElem? (i := 10) rfl))) Via.refl e3 F_average E1 (Or.inl (hw _ (List.mem_of_getElem? (i := 11) rfl))) (hw _ (List.mem_of_getElem? (i := 1) rfl)) (ty := .double) (by decide) rfl rfl (g := (mkF m 8 #[.val (.ref a1)] [(.double (4677104761256804352 : UInt64)), (.ref a1)])) rfl rfl (hb hby d1_8)
  have N5 := Fr.snoc X5 N0 g_a1
  have K6 := K1.wr W5 (Or.inl (List.mem_of_getElem? (i := 0) rfl))
  have f7 := (E1.wr W5)
  have f8 := (F_average.same W5)
  have f9 := (F_interval.other W5 (Or.inr (slot_ne (Or.inl (hw _ (List.mem_of_getElem? (i := 26) rfl))) (Or.inl (hw _ (List.mem_of_getElem? (i := 11) rfl))) (by decide) (t := .int) (t' := .double) (by decide) (by decide))))
  have f10 := (F_polls.other W5 (Or.inr (slot_ne (Or.inl (hw _ (List.mem_of_getElem? (i := 40) rfl))) (Or.inl (hw _ (List.mem_of_getElem? (i := 11) rfl))) (by decide) (t := .int) (t' := .double) (by decide) (by decide))))
  have f11 := (F_slotRuns.other W5 (Or.inr (slot_ne (Or.inl (hw _ (List.mem_of_getElem? (i := 33) rfl))) (Or.inl (hw _ (List.mem_of_getElem? (i := 11) rfl))) (by decide) (t := .int) (t' := .double) (by decide) (by decide))))
  have Zp : n0 ≤ h5.size := Nat.le_trans Z0 K6.1
  have sg12 : ∀ t, Steps p.tables e below (T5.setTop (mkF m 15 #[.val (.ref a1)] [(.double (4677104761256804352 : UInt64)), (.ref a1)])) t → Steps p.tables e below (T5.setTop (mkF m 11 #[.val (.ref a1)] [])) t := by
    intro t kt
    refine XS.aloadN X5.here hx rfl (hb hby d1_11) rfl rfl ?_
    show Steps p.tables e below (T5.setTop (mkF m 12 #[.val (.ref a1)] [(.ref a1)])) _
    refine X5.ldc2DoubleC hx hown (mvT hZ (hw _ (List.mem_of_getElem? (i := 9) rfl))) (g := (mkF m 12 #[.val (.ref a1)] [(.ref a1)])) rfl (hb hby d1_12) _ ?_
    exact kt
  obtain ⟨_, _, ⟨T13, L13, k13, n13⟩, -, X13, ⟨Lc13, hQ13, l13, y13, z13⟩, st13⟩ := Jvm.LawKit.callS X5 hx (y := (⟨"com/example/handoff/handoff/WorkerTurns", "interval", "(D)I"⟩ : MethodName)) hown (mvT hZ (hw _ (List.mem_of_getElem? (i := 12) rfl))) (mvT hZ (hw _ (List.mem_of_getElem? (i := 13) rfl))) (mvT hZ (hw _ (List.mem_of_getElem? (i := 2) rfl))) (mvT hZ (hw _ (List.mem_of_getElem? (i := 14) rfl))) (by decide) (backOf (W := 1) (rm3 l Z a0 hw []  h5 n0 Zp ) hZ (hw _ (List.mem_of_getElem? (i := 14) rfl)) (hw _ (List.mem_of_getElem? (i := 2) rfl)) (by decide) (by decide)) (g := (mkF m 15 #[.val (.ref a1)] [(.double (4677104761256804352 : UInt64)), (.ref a1)])) rfl (by rw [hml]; rfl) (argsL := [(.double (4677104761256804352 : UInt64))]) (rest := [(.ref a1)]) (lenOf pd_1 rfl) rfl (by show 2 * 0 + _ ≤ _; exact Nat.le_of_eq rfl) (hb hby d1_15) (fun _ _ => ⟨rfl, e5, (by decide : 0 + 0 ≤ _), (by decide : 0 + 0 ≤ _)⟩)
  dsimp only [Pt.U, Pt.locs, Pt.cells, Pt.slots] at X13 l13 y13 z13 st13 hQ13
  subst l13 y13 z13
  obtain ⟨rfl, Nq13, eq13⟩ := hQ13
  have N13 := Fr.app N5 Nq13
  obtain ⟨T14, h14, X14, e14, W14, st14⟩ := putF X13 hx hZ hown (host := "") (Or.inl (hw _ (List.mem_of_getElem? (i := 25) rfl))) Via.refl eq13 f9 f7 (Or.inl (hw _ (List.mem_of_getElem? (i := 26) rfl))) (hw _ (List.mem_of_getElem? (i := 1) rfl)) (ty := .int) (by decide) rfl rfl (g := (mkF m 18 #[.val (.ref a1)] [(.int (20 : Int32)), (.ref a1)])) rfl rfl (hb hby d1_18)
  have N14 := Fr.snoc X14 N13 g_a1
  have K15 := K6.wr W14 (Or.inl (List.mem_of_getElem? (i := 0) rfl))
  have f16 := (f7.wr W14)
  have f17 := (f8.other W14 (Or.inr (slot_ne (Or.inl (hw _ (List.mem_of_getElem? (i := 11) rfl))) (Or.inl (hw _ (List.mem_of_getElem? (i := 26) rfl))) (by decide) (t := .double) (t' := .int) (by decide) (by decide))))
  have f18 := (f9.same W14)
  have f19 := (f10.other W14 (Or.inr (slot_ne (Or.inl (hw _ (List.mem_of_getElem? (i := 40) rfl))) (Or.inl (hw _ (List.mem_of_getElem? (i := 26) rfl))) (by decide) (t := .int) (t' := .int) (by decide) (by decide))))
  have f20 := (f11.other W14 (Or.inr (slot_ne (Or.inl (hw _ (List.mem_of_getElem? (i := 33) rfl))) (Or.inl (hw _ (List.mem_of_getElem? (i := 26) rfl))) (by decide) (t := .int) (t' := .int) (by decide) (by decide))))
  obtain ⟨fs, hr, hrun, hended, hW, hsame⟩ := X14.leave (v := none) (fun _ => rfl)
  refine ⟨_, _, pre0 _ ?_, hrun, hended, _, _, rfl, ?_, ⟨_, rfl⟩, hW, hsame.mono (by decide) (by decide)⟩
  · refine sg2 _ ?_
    refine st3 _ ?_
    refine sg4 _ ?_
    refine st5 _ ?_
    refine sg12 _ ?_
    refine st13 _ ?_
    refine st14 _ ?_
    exact X14.returnOut hx Bd.returns (hb hby d1_21) hr
  · show Q1 Z a1 h0 n0 _ T14.heap _
    rw [e14]; exact ⟨rfl, N14, K15, f16, f18, f19, f20⟩
theorem d6_0 : decode prog_29_method_3_code 0 = .ok (.aload_n 0, 1) := by decide +kernel
theorem d6_1 : decode prog_29_method_3_code 1 = .ok (.getfield 31, 3) := by decide +kernel
theorem d6_4 : decode prog_29_method_3_code 4 = .ok (.iconst 3, 1) := by decide +kernel
theorem d6_5 : decode prog_29_method_3_code 5 = .ok (.if_icmp .ge 7, 3) := by decide +kernel
theorem d6_8 : decode prog_29_method_3_code 8 = .ok (.iconst 1, 1) := by decide +kernel
theorem d6_9 : decode prog_29_method_3_code 9 = .ok (.goto 4, 3) := by decide +kernel
theorem d6_12 : decode prog_29_method_3_code 12 = .ok (.iconst 0, 1) := by decide +kernel
theorem d6_13 : decode prog_29_method_3_code 13 = .ok (.ireturn, 1) := by decide +kernel
theorem pn_6 : plainName "com/example/handoff/handoff/WorkerTurns" = true := by first | (simp [plainName, overriddenIn]; done) | decide +kernel
theorem ef_6 (m : MethodId) (x0 : Addr) : entryFrame m #[(.ref x0)] 1 = mkF m 0 #[.val (.ref x0)] [] := by first | (simp [entryFrame, mkF, argsToLocals, Value.category]; done) | rfl
def Q6 (Z : State) (a1 : Addr) (r : Int32) (h0 : Heap) (n0 : Nat) (v : Option Value) (h : Heap) (L : List Loc) : Prop := v = some (.int (if r < (3 : Int32) then (1 : Int32) else 0)) ∧ Fr n0 L ∧ h = h0
set_option maxRecDepth 65536 in
set_option maxHeartbeats 40000000 in
theorem rm6 (l : Launch) (Z : State) (a0 : Array Value) (hw : ∀ d ∈ tables_1, d.before a0 Z = true) (ws : List Jvm.Cond) (a1 : Addr) (r : Int32) (h0 : Heap) (n0 : Nat) (Z0 : n0 ≤ h0.size) (Fs : Fld Z h0 a1 "com/example/handoff/handoff/WorkerTurns" "slotRuns" "I" (.int r)) :
    MetFree l (⟨"com/example/handoff/handoff/WorkerTurns", "slotFirst", "()Z"⟩ : MethodName) (head1 (Jvm.Cond.code (⟨"com/example/handoff/handoff/WorkerTurns", "slotFirst", "()Z"⟩ : MethodName) prog_29_method_3_code 1 (some .boolean) :: ws) ({ frames := 0, cells := 0, slots := 0, locals := 0 } : Room)) (fun a U => a = #[(.ref a1)] ∧ Z.Warmed39 U.vm ∧ U.heap = h0) (fun _ _ _ _ _ => True) (fun _ U o U' => ∃ v L, o = .returned v ∧ Q6 Z a1 r h0 n0 v U'.heap L ∧ FrameEnd U o U' L ({ frames := 0, cells := 0, slots := 0, locals := 0 } : Room).cells ({ frames := 0, cells := 0, slots := 0, locals := 0 } : Room).slots) := by
  refine MetFree.of_bodySF (plainFor_of_name pn_6) hisR ?_
  intro p e s m args below meth c s₁ Bd hml0 hP hK
  obtain ⟨rfl, hZ, hh⟩ := hP
  have hx := Bd.exec
  have hby := Bd.bytes
  have hml : c.maxLocals = 1 := hml0
  have hown : s.vm.findClass "com/example/handoff/handoff/WorkerTurns" = some m.cls := findClass_of_methodNamed Bd.named
  have hnm := (name_of_methodNamed Bd.named Bd.method).1
  have X0 : Stand p l e ({ frames := 0, cells := 0, slots := 0, locals := 0 } : Room) s m #[(.ref a1)] below meth c s₁ [] 0 0 := Stand.of_body Bd
  have e0 : s₁.heap = h0 := by rw [← hh, Bd.state]; rfl
  have N0 := Fr.nil n0
  have pre0 : ∀ t, Steps p.tables e below (s₁.setTop (mkF m 0 #[.val (.ref a1)] [])) t → Steps p.tables e below (s₁.setTop (entryFrame m #[(.ref a1)] 1)) t := fun t kq0 => castTop (ef_6 m a1) kq0
  have sg1 : ∀ t, Steps p.tables e below (s₁.setTop (mkF m 1 #[.val (.ref a1)] [(.ref a1)])) t → Steps p.tables e below (s₁.setTop (mkF m 0 #[.val (.ref a1)] [])) t := by
    intro t kt
    refine XS.aloadN X0.here hx rfl (hb hby d6_0) rfl rfl ?_
    exact kt
  obtain ⟨T2, X2, e2, st2⟩ := getF X0 hx hZ hown (host := "") (Or.inl (hw _ (List.mem_of_getElem? (i := 32) rfl))) Via.refl e0 Fs (g := (mkF m 1 #[.val (.ref a1)] [(.ref a1)])) rfl rfl (hb hby d6_1)
  have sg3 : ∀ t, Steps p.tables e below (T2.setTop (mkF m 5 #[.val (.ref a1)] [(.int (3 : Int32)), (.int r)])) t → Steps p.tables e below (T2.setTop (mkF m 4 #[.val (.ref a1)] [(.int r)])) t := by
    intro t kt
    refine XS.iconst X2.here hx rfl (hb hby d6_4) ?_
    exact kt
  by_cases c5 : r < (3 : Int32)
  · have sg4 : ∀ t, Steps p.tables e below (T2.setTop (mkF m 13 #[.val (.ref a1)] [(.int (1 : Int32))])) t → Steps p.tables e below (T2.setTop (mkF m 5 #[.val (.ref a1)] [(.int (3 : Int32)), (.int r)])) t := by
      intro t kt
      refine XS.icmpNo X2.here hx rfl (hb hby d6_5) rfl (tlt (c5 : r < (3 : Int32))).2.1 ?_
      show Steps p.tables e below (T2.setTop (mkF m 8 #[.val (.ref a1)] [])) _
      refine XS.iconst X2.here hx rfl (hb hby d6_8) ?_
      show Steps p.tables e below (T2.setTop (mkF m 9 #[.val (.ref a1)] [(.int (1 : Int32))])) _
      refine XS.goto X2.here hx rfl (pc0 := 9) (pc' := 13) rfl (hb hby d6_9) (by decide) (by decide) ?_
      exact kt
    obtain ⟨fs, hr, hrun, hended, hW, hsame⟩ := X2.leave (v := some (.int (1 : Int32))) (fun h => by rw [Bd.returns] at h; cases h)
    refine ⟨_, _, pre0 _ ?_, hrun, hended, _, _, rfl, ?_, ⟨_, rfl⟩, hW, hsame.mono (by decide) (by decide)⟩
    · refine sg1 _ ?_
      refine st2 _ ?_
      refine sg3 _ ?_
      refine sg4 _ ?_
      exact retN X2 hx (t := .boolean) Bd.returns (by simp) (hb hby d6_13) hr
    · show Q6 Z a1 r h0 n0 _ T2.heap _
      rw [e2]; exact ⟨by simp [c5], N0, rfl⟩
  · have sg4 : ∀ t, Steps p.tables e below (T2.setTop (mkF m 13 #[.val (.ref a1)] [(.int (0 : Int32))])) t → Steps p.tables e below (T2.setTop (mkF m 5 #[.val (.ref a1)] [(.int (3 : Int32)), (.int r)])) t := by
      intro t kt
      refine XS.icmpYes X2.here hx rfl (pc0 := 5) (pc' := 12) rfl (hb hby d6_5) rfl (flt (c5 : ¬ (r < (3 : Int32)))).2.1 (by decide) (by decide) ?_
      show Steps p.tables e below (T2.setTop (mkF m 12 #[.val (.ref a1)] [])) _
      refine XS.iconst X2.here hx rfl (hb hby d6_12) ?_
      exact kt
    obtain ⟨fs, hr, hrun, hended, hW, hsame⟩ := X2.leave (v := some (.int (0 : Int32))) (fun h => by rw [Bd.returns] at h; cases h)
    refine ⟨_, _, pre0 _ ?_, hrun, hended, _, _, rfl, ?_, ⟨_, rfl⟩, hW, hsame.mono (by decide) (by decide)⟩
    · refine sg1 _ ?_
      refine st2 _ ?_
      refine sg3 _ ?_
      refine sg4 _ ?_
      exact retN X2 hx (t := .boolean) Bd.returns (by simp) (hb hby d6_13) hr
    · show Q6 Z a1 r h0 n0 _ T2.heap _
      rw [e2]; exact ⟨by simp [c5], N0, rfl⟩
theorem d7_0 : decode prog_29_method_2_code 0 = .ok (.aload_n 0, 1) := by decide +kernel
theorem d7_1 : decode prog_29_method_2_code 1 = .ok (.getfield 22, 3) := by decide +kernel
theorem d7_4 : decode prog_29_method_2_code 4 = .ok (.aload_n 0, 1) := by decide +kernel
theorem d7_5 : decode prog_29_method_2_code 5 = .ok (.getfield 19, 3) := by decide +kernel
theorem d7_8 : decode prog_29_method_2_code 8 = .ok (.sipush 128, 3) := by decide +kernel
theorem d7_11 : decode prog_29_method_2_code 11 = .ok (.invokestatic 25, 3) := by decide +kernel
theorem d7_14 : decode prog_29_method_2_code 14 = .ok (.if_icmp .lt 7, 3) := by decide +kernel
theorem d7_17 : decode prog_29_method_2_code 17 = .ok (.iconst 1, 1) := by decide +kernel
theorem d7_18 : decode prog_29_method_2_code 18 = .ok (.goto 4, 3) := by decide +kernel
theorem d7_21 : decode prog_29_method_2_code 21 = .ok (.iconst 0, 1) := by decide +kernel
theorem d7_22 : decode prog_29_method_2_code 22 = .ok (.ireturn, 1) := by decide +kernel
theorem pn_7 : plainName "com/example/handoff/handoff/WorkerTurns" = true := by first | (simp [plainName, overriddenIn]; done) | decide +kernel
theorem ef_7 (m : MethodId) (x0 : Addr) : entryFrame m #[(.ref x0)] 1 = mkF m 0 #[.val (.ref x0)] [] := by first | (simp [entryFrame, mkF, argsToLocals, Value.category]; done) | rfl
theorem pd_2 : parseMethodDescriptor "(II)I" = some ⟨[.int, .int], some .int⟩ := by decide +kernel
def Q7 (Z : State) (a1 : Addr) (pl : Int32) (h0 : Heap) (n0 : Nat) (v : Option Value) (h : Heap) (L : List Loc) : Prop := v = some (.int (if pl < (20 : Int32) then (0 : Int32) else 1)) ∧ Fr n0 L ∧ h = h0
set_option maxRecDepth 65536 in
set_option maxHeartbeats 40000000 in
theorem rm7 (l : Launch) (Z : State) (a0 : Array Value) (hw : ∀ d ∈ tables_1, d.before a0 Z = true) (ws : List Jvm.Cond) (a1 : Addr) (pl : Int32) (h0 : Heap) (n0 : Nat) (Z0 : n0 ≤ h0.size) (Fp : Fld Z h0 a1 "com/example/handoff/handoff/WorkerTurns" "polls" "I" (.int pl)) (Fi : Fld Z h0 a1 "com/example/handoff/handoff/WorkerTurns" "interval" "I" (.int (20 : Int32))) :
    MetFree l (⟨"com/example/handoff/handoff/WorkerTurns", "sharedFirst", "()Z"⟩ : MethodName) (head1 (Jvm.Cond.code (⟨"com/example/handoff/handoff/WorkerTurns", "sharedFirst", "()Z"⟩ : MethodName) prog_29_method_2_code 1 (some .boolean) :: ws) ({ frames := 1, cells := 0, slots := 0, locals := 14 } : Room)) (fun a U => a = #[(.ref a1)] ∧ Z.Warmed39 U.vm ∧ U.heap = h0) (fun _ _ _ _ _ => True) (fun _ U o U' => ∃ v L, o = .returned v ∧ Q7 Z a1 pl h0 n0 v U'.heap L ∧ FrameEnd U o U' L ({ frames := 1, cells := 0, slots := 0, locals := 14 } : Room).cells ({ frames := 1, cells := 0, slots := 0, locals := 14 } : Room).slots) := by
  refine MetFree.of_bodySF (plainFor_of_name pn_7) hisR ?_
  intro p e s m args below meth c s₁ Bd hml0 hP hK
  obtain ⟨rfl, hZ, hh⟩ := hP
  have hx := Bd.exec
  have hby := Bd.bytes
  have hml : c.maxLocals = 1 := hml0
  have hown : s.vm.findClass "com/example/handoff/handoff/WorkerTurns" = some m.cls := findClass_of_methodNamed Bd.named
  have hnm := (name_of_methodNamed Bd.named Bd.method).1
  have X0 : Stand p l e ({ frames := 1, cells := 0, slots := 0, locals := 14 } : Room) s m #[(.ref a1)] below meth c s₁ [] 0 0 := Stand.of_body Bd
  have e0 : s₁.heap = h0 := by rw [← hh, Bd.state]; rfl
  have N0 := Fr.nil n0
  have pre0 : ∀ t, Steps p.tables e below (s₁.setTop (mkF m 0 #[.val (.ref a1)] [])) t → Steps p.tables e below (s₁.setTop (entryFrame m #[(.ref a1)] 1)) t := fun t kq0 => castTop (ef_7 m a1) kq0
  have sg1 : ∀ t, Steps p.tables e below (s₁.setTop (mkF m 1 #[.val (.ref a1)] [(.ref a1)])) t → Steps p.tables e below (s₁.setTop (mkF m 0 #[.val (.ref a1)] [])) t := by
    intro t kt
    refine XS.aloadN X0.here hx rfl (hb hby d7_0) rfl rfl ?_
    exact kt
  obtain ⟨T2, X2, e2, st2⟩ := getF X0 hx hZ hown (host := "") (Or.inl (hw _ (List.mem_of_getElem? (i := 39) rfl))) Via.refl e0 Fp (g := (mkF m 1 #[.val (.ref a1)] [(.ref a1)])) rfl rfl (hb hby d7_1)
  have sg3 : ∀ t, Steps p.tables e below (T2.setTop (mkF m 5 #[.val (.ref a1)] [(.ref a1), (.int pl)])) t → Steps p.tables e below (T2.setTop (mkF m 4 #[.val (.ref a1)] [(.int pl)])) t := by
    intro t kt
    refine XS.aloadN X2.here hx rfl (hb hby d7_4) rfl rfl ?_
    exact kt
  obtain ⟨T4, X4, e4, st4⟩ := getF X2 hx hZ hown (host := "") (Or.inl (hw _ (List.mem_of_getElem? (i := 25) rfl))) Via.refl e2 Fi (g := (mkF m 5 #[.val (.ref a1)] [(.ref a1), (.int pl)])) rfl rfl (hb hby d7_5)
  have sg5 : ∀ t, Steps p.tables e below (T4.setTop (mkF m 11 #[.val (.ref a1)] [(.int (128 : Int32)), (.int (20 : Int32)), (.int pl)])) t → Steps p.tables e below (T4.setTop (mkF m 8 #[.val (.ref a1)] [(.int (20 : Int32)), (.int pl)])) t := by
    intro t kt
    refine XS.sipush X4.here hx rfl (hb hby d7_8) ?_
    exact kt
  obtain ⟨_, _, ⟨T6, L6, k6, n6⟩, -, X6, ⟨Lc6, hQ6, l6, y6, z6⟩, st6⟩ := Jvm.LawKit.callS X4 hx (y := (⟨"java/lang/Math", "min", "(II)I"⟩ : MethodName)) hown (mvT hZ (hw _ (List.mem_of_getElem? (i := 41) rfl))) (mvT hZ (hw _ (List.mem_of_getElem? (i := 42) rfl))) (mvT hZ (hw _ (List.mem_of_getElem? (i := 20) rfl))) (mvT hZ (hw _ (List.mem_of_getElem? (i := 43) rfl))) (by decide) (backOf (W := 1) (rm8 l Z a0 hw []  h0 n0 Z0 ) hZ (hw _ (List.mem_of_getElem? (i := 43) rfl)) (hw _ (List.mem_of_getElem? (i := 20) rfl)) (by decide) (by decide)) (g := (mkF m 11 #[.val (.ref a1)] [(.int (128 : Int32)), (.int (20 : Int32)), (.int pl)])) rfl (by rw [hml]; rfl) (argsL := [(.int (20 : Int32)), (.int (128 : Int32))]) (rest := [(.int pl)]) (lenOf pd_2 rfl) rfl (by show 2 * 0 + _ ≤ _; exact Nat.le_of_eq rfl) (hb hby d7_11) (fun _ _ => ⟨rfl, e4, (by decide : 0 + 0 ≤ _), (by decide : 0 + 0 ≤ _)⟩)
  dsimp only [Pt.U, Pt.locs, Pt.cells, Pt.slots] at X6 l6 y6 z6 st6 hQ6
  subst l6 y6 z6
  obtain ⟨rfl, Nq6, eq6⟩ := hQ6
  have N6 := Fr.app N0 Nq6
  by_cases c5 : pl < (20 : Int32)
  · have sg7 : ∀ t, Steps p.tables e below (T6.setTop (mkF m 22 #[.val (.ref a1)] [(.int (0 : Int32))])) t → Steps p.tables e below (T6.setTop (mkF m 14 #[.val (.ref a1)] [(.int (20 : Int32)), (.int pl)])) t := by
      intro t kt
      refine XS.icmpYes X6.here hx rfl (pc0 := 14) (pc' := 21) rfl (hb hby d7_14) rfl (tlt (c5 : pl < (20 : Int32))).1 (by decide) (by decide) ?_
      show Steps p.tables e below (T6.setTop (mkF m 21 #[.val (.ref a1)] [])) _
      refine XS.iconst X6.here hx rfl (hb hby d7_21) ?_
      exact kt
    obtain ⟨fs, hr, hrun, hended, hW, hsame⟩ := X6.leave (v := some (.int (0 : Int32))) (fun h => by rw [Bd.returns] at h; cases h)
    refine ⟨_, _, pre0 _ ?_, hrun, hended, _, _, rfl, ?_, ⟨_, rfl⟩, hW, hsame.mono (by decide) (by decide)⟩
    · refine sg1 _ ?_
      refine st2 _ ?_
      refine sg3 _ ?_
      refine st4 _ ?_
      refine sg5 _ ?_
      refine st6 _ ?_
      refine sg7 _ ?_
      exact retN X6 hx (t := .boolean) Bd.returns (by simp) (hb hby d7_22) hr
    · show Q7 Z a1 pl h0 n0 _ T6.heap _
      rw [eq6]; exact ⟨by simp [c5], N6, rfl⟩
  · have sg7 : ∀ t, Steps p.tables e below (T6.setTop (mkF m 22 #[.val (.ref a1)] [(.int (1 : Int32))])) t → Steps p.tables e below (T6.setTop (mkF m 14 #[.val (.ref a1)] [(.int (20 : Int32)), (.int pl)])) t := by
      intro t kt
      refine XS.icmpNo X6.here hx rfl (hb hby d7_14) rfl (flt (c5 : ¬ (pl < (20 : Int32)))).1 ?_
      show Steps p.tables e below (T6.setTop (mkF m 17 #[.val (.ref a1)] [])) _
      refine XS.iconst X6.here hx rfl (hb hby d7_17) ?_
      show Steps p.tables e below (T6.setTop (mkF m 18 #[.val (.ref a1)] [(.int (1 : Int32))])) _
      refine XS.goto X6.here hx rfl (pc0 := 18) (pc' := 22) rfl (hb hby d7_18) (by decide) (by decide) ?_
      exact kt
    obtain ⟨fs, hr, hrun, hended, hW, hsame⟩ := X6.leave (v := some (.int (1 : Int32))) (fun h => by rw [Bd.returns] at h; cases h)
    refine ⟨_, _, pre0 _ ?_, hrun, hended, _, _, rfl, ?_, ⟨_, rfl⟩, hW, hsame.mono (by decide) (by decide)⟩
    · refine sg1 _ ?_
      refine st2 _ ?_
      refine sg3 _ ?_
      refine st4 _ ?_
      refine sg5 _ ?_
      refine st6 _ ?_
      refine sg7 _ ?_
      exact retN X6 hx (t := .boolean) Bd.returns (by simp) (hb hby d7_22) hr
    · show Q7 Z a1 pl h0 n0 _ T6.heap _
      rw [eq6]; exact ⟨by simp [c5], N6, rfl⟩
theorem d10_0 : decode prog_29_method_4_code 0 = .ok (.aload_n 0, 1) := by decide +kernel
theorem d10_1 : decode prog_29_method_4_code 1 = .ok (.dup, 1) := by decide +kernel
theorem d10_2 : decode prog_29_method_4_code 2 = .ok (.getfield 22, 3) := by decide +kernel
theorem d10_5 : decode prog_29_method_4_code 5 = .ok (.iconst 1, 1) := by decide +kernel
theorem d10_6 : decode prog_29_method_4_code 6 = .ok (.iadd, 1) := by decide +kernel
theorem d10_7 : decode prog_29_method_4_code 7 = .ok (.putfield 22, 3) := by decide +kernel
theorem d10_10 : decode prog_29_method_4_code 10 = .ok (.aload_n 0, 1) := by decide +kernel
theorem d10_11 : decode prog_29_method_4_code 11 = .ok (.iload_n 1, 1) := by decide +kernel
theorem d10_12 : decode prog_29_method_4_code 12 = .ok (.ifCond .eq 12, 3) := by decide +kernel
theorem d10_15 : decode prog_29_method_4_code 15 = .ok (.aload_n 0, 1) := by decide +kernel
theorem d10_16 : decode prog_29_method_4_code 16 = .ok (.getfield 31, 3) := by decide +kernel
theorem d10_19 : decode prog_29_method_4_code 19 = .ok (.iconst 1, 1) := by decide +kernel
theorem d10_20 : decode prog_29_method_4_code 20 = .ok (.iadd, 1) := by decide +kernel
theorem d10_21 : decode prog_29_method_4_code 21 = .ok (.goto 4, 3) := by decide +kernel
theorem d10_24 : decode prog_29_method_4_code 24 = .ok (.iconst 0, 1) := by decide +kernel
theorem d10_25 : decode prog_29_method_4_code 25 = .ok (.putfield 31, 3) := by decide +kernel
theorem d10_28 : decode prog_29_method_4_code 28 = .ok (.return_, 1) := by decide +kernel
theorem pn_10 : plainName "com/example/handoff/handoff/WorkerTurns" = true := by first | (simp [plainName, overriddenIn]; done) | decide +kernel
theorem ef_10 (m : MethodId) (x0 : Addr) (x1 : Int32) : entryFrame m #[(.ref x0), (.int x1)] 2 = mkF m 0 #[.val (.ref x0), .val (.int x1)] [] := by first | (simp [entryFrame, mkF, argsToLocals, Value.category]; done) | rfl
def Q10 (Z : State) (a1 : Addr) (z pl r : Int32) (h0 : Heap) (n0 : Nat) (v : Option Value) (h : Heap) (L : List Loc) : Prop := v = none ∧ Fr n0 L ∧ Keep h0 h [a1] ∧ Exa Z h a1 "com/example/handoff/handoff/WorkerTurns" ∧ Fld Z h a1 "com/example/handoff/handoff/WorkerTurns" "interval" "I" (.int (20 : Int32)) ∧ Fld Z h a1 "com/example/handoff/handoff/WorkerTurns" "polls" "I" (.int (pl + (1 : Int32))) ∧ Fld Z h a1 "com/example/handoff/handoff/WorkerTurns" "slotRuns" "I" (.int (own_next z r))
set_option maxRecDepth 65536 in
set_option maxHeartbeats 40000000 in
theorem rm10 (l : Launch) (Z : State) (a0 : Array Value) (hw : ∀ d ∈ tables_1, d.before a0 Z = true) (ws : List Jvm.Cond) (a1 : Addr) (z pl r : Int32) (h0 : Heap) (n0 : Nat) (Z0 : n0 ≤ h0.size) (E1 : Exa Z h0 a1 "com/example/handoff/handoff/WorkerTurns") (Fi : Fld Z h0 a1 "com/example/handoff/handoff/WorkerTurns" "interval" "I" (.int (20 : Int32))) (Fp : Fld Z h0 a1 "com/example/handoff/handoff/WorkerTurns" "polls" "I" (.int pl)) (Fs : Fld Z h0 a1 "com/example/handoff/handoff/WorkerTurns" "slotRuns" "I" (.int r)) (g_a1 : n0 ≤ a1) :
    MetFree l (⟨"com/example/handoff/handoff/WorkerTurns", "took", "(Z)V"⟩ : MethodName) (head1 (Jvm.Cond.code (⟨"com/example/handoff/handoff/WorkerTurns", "took", "(Z)V"⟩ : MethodName) prog_29_method_4_code 2 none :: ws) ({ frames := 0, cells := 0, slots := 0, locals := 0 } : Room)) (fun a U => a = #[(.ref a1), (.int z)] ∧ Z.Warmed39 U.vm ∧ U.heap = h0) (fun _ _ _ _ _ => True) (fun _ U o U' => ∃ v L, o = .returned v ∧ Q10 Z a1 z pl r h0 n0 v U'.heap L ∧ FrameEnd U o U' L ({ frames := 0, cells := 0, slots := 0, locals := 0 } : Room).cells ({ frames := 0, cells := 0, slots := 0, locals := 0 } : Room).slots) := by
  refine MetFree.of_bodySF (plainFor_of_name pn_10) hisR ?_
  intro p e s m args below meth c s₁ Bd hml0 hP hK
  obtain ⟨rfl, hZ, hh⟩ := hP
  have hx := Bd.exec
  have hby := Bd.bytes
  have hml : c.maxLocals = 2 := hml0
  have hown : s.vm.findClass "com/example/handoff/handoff/WorkerTurns" = some m.cls := findClass_of_methodNamed Bd.named
  have hnm := (name_of_methodNamed Bd.named Bd.method).1
  have X0 : Stand p l e ({ frames := 0, cells := 0, slots := 0, locals := 0 } : Room) s m #[(.ref a1), (.int z)] below meth c s₁ [] 0 0 := Stand.of_body Bd
  have e0 : s₁.heap = h0 := by rw [← hh, Bd.state]; rfl
  have N0 := Fr.nil n0
  have pre0 : ∀ t, Steps p.tables e below (s₁.setTop (mkF m 0 #[.val (.ref a1), .val (.int z)] [])) t → Steps p.tables e below (s₁.setTop (entryFrame m #[(.ref a1), (.int z)] 2)) t := fun t kq0 => castTop (ef_10 m a1 z) kq0
  have K1 := Keep.refl h0 [a1]
  have sg2 : ∀ t, Steps p.tables e below (s₁.setTop (mkF m 2 #[.val (.ref a1), .val (.int z)] [(.ref a1), (.ref a1)])) t → Steps p.tables e below (s₁.setTop (mkF m 0 #[.val (.ref a1), .val (.int z)] [])) t := by
    intro t kt
    refine XS.aloadN X0.here hx rfl (hb hby d10_0) rfl rfl ?_
    show Steps p.tables e below (s₁.setTop (mkF m 1 #[.val (.ref a1), .val (.int z)] [(.ref a1)])) _
    refine XS.dup X0.here hx rfl (hb hby d10_1) rfl rfl ?_
    exact kt
  obtain ⟨T3, X3, e3, st3⟩ := getF X0 hx hZ hown (host := "") (Or.inl (hw _ (List.mem_of_getElem? (i := 39) rfl))) Via.refl e0 Fp (g := (mkF m 2 #[.val (.ref a1), .val (.int z)] [(.ref a1), (.ref a1)])) rfl rfl (hb hby d10_2)
  have sg4 : ∀ t, Steps p.tables e below (T3.setTop (mkF m 7 #[.val (.ref a1), .val (.int z)] [(.int (pl + (1 : Int32))), (.ref a1)])) t → Steps p.tables e below (T3.setTop (mkF m 5 #[.val (.ref a1), .val (.int z)] [(.int pl), (.ref a1)])) t := by
    intro t kt
    refine XS.iconst X3.here hx rfl (hb hby d10_5) ?_
    show Steps p.tables e below (T3.setTop (mkF m 6 #[.val (.ref a1), .val (.int z)] [(.int (1 : Int32)), (.int pl), (.ref a1)])) _
    refine XS.iadd X3.here hx rfl (hb hby d10_6) rfl ?_
    exact kt
  obtain ⟨T5, h5, X5, e5, W5, st5⟩ := putF X3 hx hZ hown (host := "") (Or.inl (hw _ (List.mem_of_getElem? (i := 39) rfl))) Via.refl e3 Fp E1 (Or.inl (hw _ (List.mem_of_getElem? (i := 40) rfl))) (hw _ (List.mem_of_getElem? (i := 1) rfl)) (ty := .int) (by decide) rfl rfl (g := (mkF m 7 #[.val (.ref a1), .val (.int z)] [(.int (pl + (1 : Int32))), (.ref a1)])) rfl rfl (hb hby d10_7)
  have N5 := Fr.snoc X5 N0 g_a1
  have K6 := K1.wr W5 (Or.inl (List.mem_of_getElem? (i := 0) rfl))
  have f7 := (E1.wr W5)
  have f8 := (Fp.same W5)
  have f9 := (Fs.other W5 (Or.inr (slot_ne (Or.inl (hw _ (List.mem_of_getElem? (i := 33) rfl))) (Or.inl (hw _ (List.mem_of_getElem? (i := 40) rfl))) (by decide) (t := .int) (t' := .int) (by decide) (by decide))))
  have f10 := (Fi.other W5 (Or.inr (slot_ne (Or.inl (hw _ (List.mem_of_getElem? (i := 26) rfl))) (Or.inl (hw _ (List.mem_of_getElem? (i := 40) rfl))) (by decide) (t := .int) (t' := .int) (by decide) (by decide))))
  have sg11 : ∀ t, Steps p.tables e below (T5.setTop (mkF m 12 #[.val (.ref a1), .val (.int z)] [(.int z), (.ref a1)])) t → Steps p.tables e below (T5.setTop (mkF m 10 #[.val (.ref a1), .val (.int z)] [])) t := by
    intro t kt
    refine XS.aloadN X5.here hx rfl (hb hby d10_10) rfl rfl ?_
    show Steps p.tables e below (T5.setTop (mkF m 11 #[.val (.ref a1), .val (.int z)] [(.ref a1)])) _
    refine XS.iloadN X5.here hx rfl (hb hby d10_11) rfl ?_
    exact kt
  by_cases c5 : z = (0 : Int32)
  · have sg12 : ∀ t, Steps p.tables e below (T5.setTop (mkF m 25 #[.val (.ref a1), .val (.int z)] [(.int (0 : Int32)), (.ref a1)])) t → Steps p.tables e below (T5.setTop (mkF m 12 #[.val (.ref a1), .val (.int z)] [(.int z), (.ref a1)])) t := by
      intro t kt
      refine XS.ifYes X5.here hx rfl (pc0 := 12) (pc' := 24) rfl (hb hby d10_12) rfl ((if0 _ _).trans (teq (c5 : z = (0 : Int32))).1) (by decide) (by decide) ?_
      show Steps p.tables e below (T5.setTop (mkF m 24 #[.val (.ref a1), .val (.int z)] [(.ref a1)])) _
      refine XS.iconst X5.here hx rfl (hb hby d10_24) ?_
      exact kt
    obtain ⟨T13, h13, X13, e13, W13, st13⟩ := putF X5 hx hZ hown (host := "") (Or.inl (hw _ (List.mem_of_getElem? (i := 32) rfl))) Via.refl e5 f9 f7 (Or.inl (hw _ (List.mem_of_getElem? (i := 33) rfl))) (hw _ (List.mem_of_getElem? (i := 1) rfl)) (ty := .int) (by decide) rfl rfl (g := (mkF m 25 #[.val (.ref a1), .val (.int z)] [(.int (0 : Int32)), (.ref a1)])) rfl rfl (hb hby d10_25)
    have N13 := Fr.snoc X13 N5 g_a1
    have K14 := K6.wr W13 (Or.inl (List.mem_of_getElem? (i := 0) rfl))
    have f15 := (f7.wr W13)
    have f16 := (f8.other W13 (Or.inr (slot_ne (Or.inl (hw _ (List.mem_of_getElem? (i := 40) rfl))) (Or.inl (hw _ (List.mem_of_getElem? (i := 33) rfl))) (by decide) (t := .int) (t' := .int) (by decide) (by decide))))
    have f17 := (f9.same W13)
    have f18 := (f10.other W13 (Or.inr (slot_ne (Or.inl (hw _ (List.mem_of_getElem? (i := 26) rfl))) (Or.inl (hw _ (List.mem_of_getElem? (i := 33) rfl))) (by decide) (t := .int) (t' := .int) (by decide) (by decide))))
    obtain ⟨fs, hr, hrun, hended, hW, hsame⟩ := X13.leave (v := none) (fun _ => rfl)
    refine ⟨_, _, pre0 _ ?_, hrun, hended, _, _, rfl, ?_, ⟨_, rfl⟩, hW, hsame.mono (by decide) (by decide)⟩
    · refine sg2 _ ?_
      refine st3 _ ?_
      refine sg4 _ ?_
      refine st5 _ ?_
      refine sg11 _ ?_
      refine sg12 _ ?_
      refine st13 _ ?_
      exact X13.returnOut hx Bd.returns (hb hby d10_28) hr
    · show Q10 Z a1 z pl r h0 n0 _ T13.heap _
      rw [e13]; exact ⟨rfl, N13, K14, f15, f18, f16, (by rw [own_next, if_pos c5]; exact f17)⟩
  · have sg12 : ∀ t, Steps p.tables e below (T5.setTop (mkF m 16 #[.val (.ref a1), .val (.int z)] [(.ref a1), (.ref a1)])) t → Steps p.tables e below (T5.setTop (mkF m 12 #[.val (.ref a1), .val (.int z)] [(.int z), (.ref a1)])) t := by
      intro t kt
      refine XS.ifNo X5.here hx rfl (hb hby d10_12) rfl ((if0 _ _).trans (feq (c5 : ¬ (z = (0 : Int32)))).1) ?_
      show Steps p.tables e below (T5.setTop (mkF m 15 #[.val (.ref a1), .val (.int z)] [(.ref a1)])) _
      refine XS.aloadN X5.here hx rfl (hb hby d10_15) rfl rfl ?_
      exact kt
    obtain ⟨T13, X13, e13, st13⟩ := getF X5 hx hZ hown (host := "") (Or.inl (hw _ (List.mem_of_getElem? (i := 32) rfl))) Via.refl e5 f9 (g := (mkF m 16 #[.val (.ref a1), .val (.int z)] [(.ref a1), (.ref a1)])) rfl rfl (hb hby d10_16)
    have sg14 : ∀ t, Steps p.tables e below (T13.setTop (mkF m 25 #[.val (.ref a1), .val (.int z)] [(.int (r + (1 : Int32))), (.ref a1)])) t → Steps p.tables e below (T13.setTop (mkF m 19 #[.val (.ref a1), .val (.int z)] [(.int r), (.ref a1)])) t := by
      intro t kt
      refine XS.iconst X13.here hx rfl (hb hby d10_19) ?_
      show Steps p.tables e below (T13.setTop (mkF m 20 #[.val (.ref a1), .val (.int z)] [(.int (1 : Int32)), (.int r), (.ref a1)])) _
      refine XS.iadd X13.here hx rfl (hb hby d10_20) rfl ?_
      show Steps p.tables e below (T13.setTop (mkF m 21 #[.val (.ref a1), .val (.int z)] [(.int (r + (1 : Int32))), (.ref a1)])) _
      refine XS.goto X13.here hx rfl (pc0 := 21) (pc' := 25) rfl (hb hby d10_21) (by decide) (by decide) ?_
      exact kt
    obtain ⟨T15, h15, X15, e15, W15, st15⟩ := putF X13 hx hZ hown (host := "") (Or.inl (hw _ (List.mem_of_getElem? (i := 32) rfl))) Via.refl e13 f9 f7 (Or.inl (hw _ (List.mem_of_getElem? (i := 33) rfl))) (hw _ (List.mem_of_getElem? (i := 1) rfl)) (ty := .int) (by decide) rfl rfl (g := (mkF m 25 #[.val (.ref a1), .val (.int z)] [(.int (r + (1 : Int32))), (.ref a1)])) rfl rfl (hb hby d10_25)
    have N15 := Fr.snoc X15 N5 g_a1
    have K16 := K6.wr W15 (Or.inl (List.mem_of_getElem? (i := 0) rfl))
    have f17 := (f7.wr W15)
    have f18 := (f8.other W15 (Or.inr (slot_ne (Or.inl (hw _ (List.mem_of_getElem? (i := 40) rfl))) (Or.inl (hw _ (List.mem_of_getElem? (i := 33) rfl))) (by decide) (t := .int) (t' := .int) (by decide) (by decide))))
    have f19 := (f9.same W15)
    have f20 := (f10.other W15 (Or.inr (slot_ne (Or.inl (hw _ (List.mem_of_getElem? (i := 26) rfl))) (Or.inl (hw _ (List.mem_of_getElem? (i := 33) rfl))) (by decide) (t := .int) (t' := .int) (by decide) (by decide))))
    obtain ⟨fs, hr, hrun, hended, hW, hsame⟩ := X15.leave (v := none) (fun _ => rfl)
    refine ⟨_, _, pre0 _ ?_, hrun, hended, _, _, rfl, ?_, ⟨_, rfl⟩, hW, hsame.mono (by decide) (by decide)⟩
    · refine sg2 _ ?_
      refine st3 _ ?_
      refine sg4 _ ?_
      refine st5 _ ?_
      refine sg11 _ ?_
      refine sg12 _ ?_
      refine st13 _ ?_
      refine sg14 _ ?_
      refine st15 _ ?_
      exact X15.returnOut hx Bd.returns (hb hby d10_28) hr
    · show Q10 Z a1 z pl r h0 n0 _ T15.heap _
      rw [e15]; exact ⟨rfl, N15, K16, f17, f20, f18, (by rw [own_next, if_neg c5]; exact f19)⟩
theorem d9_0 : decode method_3_code 0 = .ok (.iload_n 3, 1) := by decide +kernel
theorem d9_1 : decode method_3_code 1 = .ok (.ifCond .ge 5, 3) := by decide +kernel
theorem d9_4 : decode method_3_code 4 = .ok (.iconst (-1), 1) := by decide +kernel
theorem d9_5 : decode method_3_code 5 = .ok (.ireturn, 1) := by decide +kernel
theorem d9_6 : decode method_3_code 6 = .ok (.iload_n 1, 1) := by decide +kernel
theorem d9_7 : decode method_3_code 7 = .ok (.iload_n 2, 1) := by decide +kernel
theorem d9_8 : decode method_3_code 8 = .ok (.iconst 1, 1) := by decide +kernel
theorem d9_9 : decode method_3_code 9 = .ok (.isub, 1) := by decide +kernel
theorem d9_10 : decode method_3_code 10 = .ok (.iushr, 1) := by decide +kernel
theorem d9_11 : decode method_3_code 11 = .ok (.iconst 1, 1) := by decide +kernel
theorem d9_12 : decode method_3_code 12 = .ok (.iand, 1) := by decide +kernel
theorem d9_13 : decode method_3_code 13 = .ok (.ifCond .eq 7, 3) := by decide +kernel
theorem d9_16 : decode method_3_code 16 = .ok (.iconst 1, 1) := by decide +kernel
theorem d9_17 : decode method_3_code 17 = .ok (.goto 4, 3) := by decide +kernel
theorem d9_20 : decode method_3_code 20 = .ok (.iconst 0, 1) := by decide +kernel
theorem d9_21 : decode method_3_code 21 = .ok (.istore 4, 2) := by decide +kernel
theorem d9_23 : decode method_3_code 23 = .ok (.aload_n 0, 1) := by decide +kernel
theorem d9_24 : decode method_3_code 24 = .ok (.iload 4, 2) := by decide +kernel
theorem d9_26 : decode method_3_code 26 = .ok (.invokevirtual 23, 3) := by decide +kernel
theorem d9_29 : decode method_3_code 29 = .ok (.iload 4, 2) := by decide +kernel
theorem d9_31 : decode method_3_code 31 = .ok (.ifCond .eq 9, 3) := by decide +kernel
theorem d9_34 : decode method_3_code 34 = .ok (.iload_n 3, 1) := by decide +kernel
theorem d9_35 : decode method_3_code 35 = .ok (.iconst 1, 1) := by decide +kernel
theorem d9_36 : decode method_3_code 36 = .ok (.iadd, 1) := by decide +kernel
theorem d9_37 : decode method_3_code 37 = .ok (.goto 4, 3) := by decide +kernel
theorem d9_40 : decode method_3_code 40 = .ok (.iconst 0, 1) := by decide +kernel
theorem d9_41 : decode method_3_code 41 = .ok (.istore 5, 2) := by decide +kernel
theorem d9_43 : decode method_3_code 43 = .ok (.aload_n 0, 1) := by decide +kernel
theorem d9_44 : decode method_3_code 44 = .ok (.invokevirtual 10, 3) := by decide +kernel
theorem d9_47 : decode method_3_code 47 = .ok (.iload 5, 2) := by decide +kernel
theorem d9_49 : decode method_3_code 49 = .ok (.iconst 3, 1) := by decide +kernel
theorem d9_50 : decode method_3_code 50 = .ok (.if_icmp .ge 7, 3) := by decide +kernel
theorem d9_53 : decode method_3_code 53 = .ok (.iconst 1, 1) := by decide +kernel
theorem d9_54 : decode method_3_code 54 = .ok (.goto 4, 3) := by decide +kernel
theorem d9_57 : decode method_3_code 57 = .ok (.iconst 0, 1) := by decide +kernel
theorem d9_58 : decode method_3_code 58 = .ok (.if_icmp .ne 25, 3) := by decide +kernel
theorem d9_61 : decode method_3_code 61 = .ok (.aload_n 0, 1) := by decide +kernel
theorem d9_62 : decode method_3_code 62 = .ok (.invokevirtual 14, 3) := by decide +kernel
theorem d9_65 : decode method_3_code 65 = .ok (.iload_n 2, 1) := by decide +kernel
theorem d9_66 : decode method_3_code 66 = .ok (.bipush 20, 2) := by decide +kernel
theorem d9_68 : decode method_3_code 68 = .ok (.if_icmp .lt 7, 3) := by decide +kernel
theorem d9_71 : decode method_3_code 71 = .ok (.iconst 1, 1) := by decide +kernel
theorem d9_72 : decode method_3_code 72 = .ok (.goto 4, 3) := by decide +kernel
theorem d9_75 : decode method_3_code 75 = .ok (.iconst 0, 1) := by decide +kernel
theorem d9_76 : decode method_3_code 76 = .ok (.if_icmp .ne 7, 3) := by decide +kernel
theorem d9_79 : decode method_3_code 79 = .ok (.iconst 1, 1) := by decide +kernel
theorem d9_80 : decode method_3_code 80 = .ok (.goto 4, 3) := by decide +kernel
theorem d9_83 : decode method_3_code 83 = .ok (.iconst 0, 1) := by decide +kernel
theorem d9_84 : decode method_3_code 84 = .ok (.istore 6, 2) := by decide +kernel
theorem d9_86 : decode method_3_code 86 = .ok (.iload 6, 2) := by decide +kernel
theorem d9_88 : decode method_3_code 88 = .ok (.ifCond .eq 8, 3) := by decide +kernel
theorem d9_91 : decode method_3_code 91 = .ok (.iload 5, 2) := by decide +kernel
theorem d9_93 : decode method_3_code 93 = .ok (.goto 4, 3) := by decide +kernel
theorem d9_96 : decode method_3_code 96 = .ok (.iconst (-1), 1) := by decide +kernel
theorem d9_97 : decode method_3_code 97 = .ok (.ireturn, 1) := by decide +kernel
theorem pn_9 : plainName "com/example/handoff/handoff/WorkerTurnsTookPinLaw" = true := by first | (simp [plainName, overriddenIn]; done) | decide +kernel
theorem ef_9 (m : MethodId) (x0 : Addr) (x1 : Int32) (x2 : Int32) (x3 : Int32) : entryFrame m #[(.ref x0), (.int x1), (.int x2), (.int x3)] 7 = mkF m 0 #[.val (.ref x0), .val (.int x1), .val (.int x2), .val (.int x3), .unset, .unset, .unset] [] := by first | (simp [entryFrame, mkF, argsToLocals, Value.category]; done) | rfl
theorem pd_3 : parseMethodDescriptor "(Z)V" = some ⟨[.boolean], none⟩ := by decide +kernel
theorem pd_4 : parseMethodDescriptor "()Z" = some ⟨[], some .boolean⟩ := by decide +kernel
def Q9 (Z : State) (a1 : Addr) (f k r pl : Int32) (h0 : Heap) (n0 : Nat) (v : Option Value) (h : Heap) (L : List Loc) : Prop := (∃ r1, v = some (.int r1) ∧ 0 ≤ r1.toInt ∧ r1.toInt ≤ r.toInt + 1 ∧ Fld Z h a1 "com/example/handoff/handoff/WorkerTurns" "slotRuns" "I" (.int r1)) ∧ Fr n0 L ∧ Keep h0 h [a1] ∧ Exa Z h a1 "com/example/handoff/handoff/WorkerTurns" ∧ Fld Z h a1 "com/example/handoff/handoff/WorkerTurns" "interval" "I" (.int (20 : Int32)) ∧ Fld Z h a1 "com/example/handoff/handoff/WorkerTurns" "polls" "I" (.int k)
set_option maxRecDepth 65536 in
set_option maxHeartbeats 40000000 in
theorem rm9 (l : Launch) (Z : State) (a0 : Array Value) (hw : ∀ d ∈ tables_1, d.before a0 Z = true) (ws : List Jvm.Cond) (a1 : Addr) (f k r pl : Int32) (h0 : Heap) (n0 : Nat) (Z0 : n0 ≤ h0.size) (hk : pl + (1 : Int32) = k) (hr0 : 0 ≤ r.toInt) (hr1 : r.toInt ≤ 100) (E1 : Exa Z h0 a1 "com/example/handoff/handoff/WorkerTurns") (Fi : Fld Z h0 a1 "com/example/handoff/handoff/WorkerTurns" "interval" "I" (.int (20 : Int32))) (Fp : Fld Z h0 a1 "com/example/handoff/handoff/WorkerTurns" "polls" "I" (.int pl)) (Fs : Fld Z h0 a1 "com/example/handoff/handoff/WorkerTurns" "slotRuns" "I" (.int r)) (g_a1 : n0 ≤ a1) :
    MetFree l (⟨"com/example/handoff/handoff/WorkerTurnsTookPinLaw", "step", "(Lcom/example/handoff/handoff/WorkerTurns;III)I"⟩ : MethodName) (head1 (Jvm.Cond.code (⟨"com/example/handoff/handoff/WorkerTurnsTookPinLaw", "step", "(Lcom/example/handoff/handoff/WorkerTurns;III)I"⟩ : MethodName) method_3_code 7 (some .int) :: ws) ({ frames := 2, cells := 0, slots := 0, locals := 26 } : Room)) (fun a U => a = #[(.ref a1), (.int f), (.int k), (.int r)] ∧ Z.Warmed39 U.vm ∧ U.heap = h0) (fun _ _ _ _ _ => True) (fun _ U o U' => ∃ v L, o = .returned v ∧ Q9 Z a1 f k r pl h0 n0 v U'.heap L ∧ FrameEnd U o U' L ({ frames := 2, cells := 0, slots := 0, locals := 26 } : Room).cells ({ frames := 2, cells := 0, slots := 0, locals := 26 } : Room).slots) := by
  refine MetFree.of_bodySF (plainFor_of_name pn_9) hisR ?_
  intro p e s m args below meth c s₁ Bd hml0 hP hK
  obtain ⟨rfl, hZ, hh⟩ := hP
  have hx := Bd.exec
  have hby := Bd.bytes
  have hml : c.maxLocals = 7 := hml0
  have hown : s.vm.findClass "com/example/handoff/handoff/WorkerTurnsTookPinLaw" = some m.cls := findClass_of_methodNamed Bd.named
  have hnm := (name_of_methodNamed Bd.named Bd.method).1
  have X0 : Stand p l e ({ frames := 2, cells := 0, slots := 0, locals := 26 } : Room) s m #[(.ref a1), (.int f), (.int k), (.int r)] below meth c s₁ [] 0 0 := Stand.of_body Bd
  have e0 : s₁.heap = h0 := by rw [← hh, Bd.state]; rfl
  have N0 := Fr.nil n0
  have pre0 : ∀ t, Steps p.tables e below (s₁.setTop (mkF m 0 #[.val (.ref a1), .val (.int f), .val (.int k), .val (.int r), .unset, .unset, .unset] [])) t → Steps p.tables e below (s₁.setTop (entryFrame m #[(.ref a1), (.int f), (.int k), (.int r)] 7)) t := fun t kq0 => castTop (ef_9 m a1 f k r) kq0
  have sg1 : ∀ t, Steps p.tables e below (s₁.setTop (mkF m 6 #[.val (.ref a1), .val (.int f), .val (.int k), .val (.int r), .unset, .unset, .unset] [])) t → Steps p.tables e below (s₁.setTop (mkF m 0 #[.val (.ref a1), .val (.int f), .val (.int k), .val (.int r), .unset, .unset, .unset] [])) t := by
    intro t kt
    refine XS.iloadN X0.here hx rfl (hb hby d9_0) rfl ?_
    show Steps p.tables e below (s₁.setTop (mkF m 1 #[.val (.ref a1), .val (.int f), .val (.int k), .val (.int r), .unset, .unset, .unset] [(.int r)])) _
    refine XS.ifYes X0.here hx rfl (pc0 := 1) (pc' := 6) rfl (hb hby d9_1) rfl ((if0 _ _).trans (flt (own_nn hr0 : ¬ (r < (0 : Int32)))).2.1) (by decide) (by decide) ?_
    exact kt
  have sg2 : ∀ t, Steps p.tables e below (s₁.setTop (mkF m 13 #[.val (.ref a1), .val (.int f), .val (.int k), .val (.int r), .unset, .unset, .unset] [(.int (((f.toUInt32 >>> ((k - (1 : Int32)) &&& 31).toUInt32).toInt32) &&& (1 : Int32)))])) t → Steps p.tables e below (s₁.setTop (mkF m 6 #[.val (.ref a1), .val (.int f), .val (.int k), .val (.int r), .unset, .unset, .unset] [])) t := by
    intro t kt
    refine XS.iloadN X0.here hx rfl (hb hby d9_6) rfl ?_
    show Steps p.tables e below (s₁.setTop (mkF m 7 #[.val (.ref a1), .val (.int f), .val (.int k), .val (.int r), .unset, .unset, .unset] [(.int f)])) _
    refine XS.iloadN X0.here hx rfl (hb hby d9_7) rfl ?_
    show Steps p.tables e below (s₁.setTop (mkF m 8 #[.val (.ref a1), .val (.int f), .val (.int k), .val (.int r), .unset, .unset, .unset] [(.int k), (.int f)])) _
    refine XS.iconst X0.here hx rfl (hb hby d9_8) ?_
    show Steps p.tables e below (s₁.setTop (mkF m 9 #[.val (.ref a1), .val (.int f), .val (.int k), .val (.int r), .unset, .unset, .unset] [(.int (1 : Int32)), (.int k), (.int f)])) _
    refine XS.isub X0.here hx rfl (hb hby d9_9) rfl ?_
    show Steps p.tables e below (s₁.setTop (mkF m 10 #[.val (.ref a1), .val (.int f), .val (.int k), .val (.int r), .unset, .unset, .unset] [(.int (k - (1 : Int32))), (.int f)])) _
    refine XS.iushr X0.here hx rfl (hb hby d9_10) rfl ?_
    show Steps p.tables e below (s₁.setTop (mkF m 11 #[.val (.ref a1), .val (.int f), .val (.int k), .val (.int r), .unset, .unset, .unset] [(.int ((f.toUInt32 >>> ((k - (1 : Int32)) &&& 31).toUInt32).toInt32))])) _
    refine XS.iconst X0.here hx rfl (hb hby d9_11) ?_
    show Steps p.tables e below (s₁.setTop (mkF m 12 #[.val (.ref a1), .val (.int f), .val (.int k), .val (.int r), .unset, .unset, .unset] [(.int (1 : Int32)), (.int ((f.toUInt32 >>> ((k - (1 : Int32)) &&& 31).toUInt32).toInt32))])) _
    refine XS.iand X0.here hx rfl (hb hby d9_12) rfl ?_
    exact kt
  by_cases c13 : (((f.toUInt32 >>> ((k - (1 : Int32)) &&& 31).toUInt32).toInt32) &&& (1 : Int32)) = 0
  · have sg3 : ∀ t, Steps p.tables e below (s₁.setTop (mkF m 26 #[.val (.ref a1), .val (.int f), .val (.int k), .val (.int r), .val (.int (0 : Int32)), .unset, .unset] [(.int (0 : Int32)), (.ref a1)])) t → Steps p.tables e below (s₁.setTop (mkF m 13 #[.val (.ref a1), .val (.int f), .val (.int k), .val (.int r), .unset, .unset, .unset] [(.int (((f.toUInt32 >>> ((k - (1 : Int32)) &&& 31).toUInt32).toInt32) &&& (1 : Int32)))])) t := by
      intro t kt
      refine XS.ifYes X0.here hx rfl (pc0 := 13) (pc' := 20) rfl (hb hby d9_13) rfl ((if0 _ _).trans (teq (c13 : (((f.toUInt32 >>> ((k - (1 : Int32)) &&& 31).toUInt32).toInt32) &&& (1 : Int32)) = (0 : Int32))).1) (by decide) (by decide) ?_
      show Steps p.tables e below (s₁.setTop (mkF m 20 #[.val (.ref a1), .val (.int f), .val (.int k), .val (.int r), .unset, .unset, .unset] [])) _
      refine XS.iconst X0.here hx rfl (hb hby d9_20) ?_
      show Steps p.tables e below (s₁.setTop (mkF m 21 #[.val (.ref a1), .val (.int f), .val (.int k), .val (.int r), .unset, .unset, .unset] [(.int (0 : Int32))])) _
      refine XS.istore X0.here hx rfl (hb hby d9_21) rfl (l' := #[.val (.ref a1), .val (.int f), .val (.int k), .val (.int r), .val (.int (0 : Int32)), .unset, .unset]) rfl ?_
      show Steps p.tables e below (s₁.setTop (mkF m 23 #[.val (.ref a1), .val (.int f), .val (.int k), .val (.int r), .val (.int (0 : Int32)), .unset, .unset] [])) _
      refine XS.aloadN X0.here hx rfl (hb hby d9_23) rfl rfl ?_
      show Steps p.tables e below (s₁.setTop (mkF m 24 #[.val (.ref a1), .val (.int f), .val (.int k), .val (.int r), .val (.int (0 : Int32)), .unset, .unset] [(.ref a1)])) _
      refine XS.iload X0.here hx rfl (hb hby d9_24) rfl ?_
      exact kt
    obtain ⟨cq4, kq4, q4a, q4b, q4c⟩ := isOf hZ e0 E1
    obtain ⟨_, _, ⟨T4, L4, k4, n4⟩, -, X4, ⟨Lc4, hQ4, l4, y4, z4⟩, st4⟩ := X0.virtualBack hx (y := (⟨"com/example/handoff/handoff/WorkerTurns", "took", "(Z)V"⟩ : MethodName)) (z := (⟨"com/example/handoff/handoff/WorkerTurns", "took", "(Z)V"⟩ : MethodName)) hown (mvT hZ (hw _ (List.mem_of_getElem? (i := 48) rfl))) (mvT hZ (hw _ (List.mem_of_getElem? (i := 49) rfl))) (notFace_of_selects (args := #[]) (mvT hZ (hw _ (List.mem_of_getElem? (i := 51) rfl)))) (mvT hZ (hw _ (List.mem_of_getElem? (i := 51) rfl))) (mvT hZ (hw _ (List.mem_of_getElem? (i := 50) rfl))) (by decide) (backOf (W := 0) (rm10 l Z a0 hw [] a1 (0 : Int32) pl r h0 n0 Z0 E1 Fi Fp Fs g_a1) hZ (hw _ (List.mem_of_getElem? (i := 52) rfl)) (hw _ (List.mem_of_getElem? (i := 2) rfl)) (by decide) (by decide)) q4a q4c (g := (mkF m 26 #[.val (.ref a1), .val (.int f), .val (.int k), .val (.int r), .val (.int (0 : Int32)), .unset, .unset] [(.int (0 : Int32)), (.ref a1)])) rfl (by rw [hml]; rfl) (Steps.refl _) (argsL := [(.int (0 : Int32))]) (rest := []) (lenOf pd_3 rfl) rfl (by show 2 * 0 + _ ≤ _; exact Nat.le_of_eq rfl) (hb hby d9_26) (fun _ _ => ⟨rfl, e0, (by decide : 0 + 0 ≤ _), (by decide : 0 + 0 ≤ _)⟩)
    dsimp only [Pt.U, Pt.locs, Pt.cells, Pt.slots] at X4 l4 y4 z4 st4 hQ4
    subst l4 y4 z4
    obtain ⟨rfl, Nq4, Kq4, Ex4, Fi4, Fp4, Fs4⟩ := hQ4
    have N4 := Fr.app N0 Nq4
    have Zs5 : n0 ≤ T4.heap.size := Nat.le_trans Z0 Kq4.1
    have hnx : own_next (0 : Int32) r = (0 : Int32) := by rfl
    rw [hnx] at Fs4
    rw [hk] at Fp4
    have sg6 : ∀ t, Steps p.tables e below (T4.setTop (mkF m 44 #[.val (.ref a1), .val (.int f), .val (.int k), .val (.int r), .val (.int (0 : Int32)), .val (.int (0 : Int32)), .unset] [(.ref a1)])) t → Steps p.tables e below (T4.setTop (mkF m 29 #[.val (.ref a1), .val (.int f), .val (.int k), .val (.int r), .val (.int (0 : Int32)), .unset, .unset] [])) t := by
      intro t kt
      refine XS.iload X4.here hx rfl (hb hby d9_29) rfl ?_
      show Steps p.tables e below (T4.setTop (mkF m 31 #[.val (.ref a1), .val (.int f), .val (.int k), .val (.int r), .val (.int (0 : Int32)), .unset, .unset] [(.int (0 : Int32))])) _
      refine XS.ifYes X4.here hx rfl (pc0 := 31) (pc' := 40) rfl (hb hby d9_31) rfl ((if0 _ _).trans (teq (rfl : (0 : Int32) = (0 : Int32))).1) (by decide) (by decide) ?_
      show Steps p.tables e below (T4.setTop (mkF m 40 #[.val (.ref a1), .val (.int f), .val (.int k), .val (.int r), .val (.int (0 : Int32)), .unset, .unset] [])) _
      refine XS.iconst X4.here hx rfl (hb hby d9_40) ?_
      show Steps p.tables e below (T4.setTop (mkF m 41 #[.val (.ref a1), .val (.int f), .val (.int k), .val (.int r), .val (.int (0 : Int32)), .unset, .unset] [(.int (0 : Int32))])) _
      refine XS.istore X4.here hx rfl (hb hby d9_41) rfl (l' := #[.val (.ref a1), .val (.int f), .val (.int k), .val (.int r), .val (.int (0 : Int32)), .val (.int (0 : Int32)), .unset]) rfl ?_
      show Steps p.tables e below (T4.setTop (mkF m 43 #[.val (.ref a1), .val (.int f), .val (.int k), .val (.int r), .val (.int (0 : Int32)), .val (.int (0 : Int32)), .unset] [])) _
      refine XS.aloadN X4.here hx rfl (hb hby d9_43) rfl rfl ?_
      exact kt
    obtain ⟨cq7, kq7, q7a, q7b, q7c⟩ := isOf hZ rfl Ex4
    obtain ⟨_, _, ⟨T7, L7, k7, n7⟩, -, X7, ⟨Lc7, hQ7, l7, y7, z7⟩, st7⟩ := X4.virtualBack hx (y := (⟨"com/example/handoff/handoff/WorkerTurns", "slotFirst", "()Z"⟩ : MethodName)) (z := (⟨"com/example/handoff/handoff/WorkerTurns", "slotFirst", "()Z"⟩ : MethodName)) hown (mvT hZ (hw _ (List.mem_of_getElem? (i := 27) rfl))) (mvT hZ (hw _ (List.mem_of_getElem? (i := 28) rfl))) (notFace_of_selects (args := #[]) (mvT hZ (hw _ (List.mem_of_getElem? (i := 30) rfl)))) (mvT hZ (hw _ (List.mem_of_getElem? (i := 30) rfl))) (mvT hZ (hw _ (List.mem_of_getElem? (i := 29) rfl))) (by decide) (backOf (W := 0) (rm6 l Z a0 hw [] a1 (0 : Int32) T4.heap n0 Zs5 Fs4) hZ (hw _ (List.mem_of_getElem? (i := 31) rfl)) (hw _ (List.mem_of_getElem? (i := 2) rfl)) (by decide) (by decide)) q7a q7c (g := (mkF m 44 #[.val (.ref a1), .val (.int f), .val (.int k), .val (.int r), .val (.int (0 : Int32)), .val (.int (0 : Int32)), .unset] [(.ref a1)])) rfl (by rw [hml]; rfl) (Steps.refl _) (argsL := []) (rest := []) (lenOf pd_4 rfl) rfl (by show 2 * 0 + _ ≤ _; exact Nat.le_of_eq rfl) (hb hby d9_44) (fun _ _ => ⟨rfl, rfl, (by decide : 0 + 0 ≤ _), (by decide : 0 + 0 ≤ _)⟩)
    dsimp only [Pt.U, Pt.locs, Pt.cells, Pt.slots] at X7 l7 y7 z7 st7 hQ7
    subst l7 y7 z7
    obtain ⟨rfl, Nq7, eq7⟩ := hQ7
    have N7 := Fr.app N4 Nq7
    have sA : ∀ t, Steps p.tables e below (T7.setTop (mkF m 61 #[.val (.ref a1), .val (.int f), .val (.int k), .val (.int r), .val (.int (0 : Int32)), .val (.int (0 : Int32)), .unset] [])) t → Steps p.tables e below (T7.setTop (mkF m 47 #[.val (.ref a1), .val (.int f), .val (.int k), .val (.int r), .val (.int (0 : Int32)), .val (.int (0 : Int32)), .unset] [(.int (if (0 : Int32) < (3 : Int32) then (1 : Int32) else 0))])) t := by
      intro t kt
      by_cases cA : (0 : Int32) < (3 : Int32)
      · refine XS.iload X7.here hx rfl (hb hby d9_47) rfl ?_
        show Steps p.tables e below (T7.setTop (mkF m 49 #[.val (.ref a1), .val (.int f), .val (.int k), .val (.int r), .val (.int (0 : Int32)), .val (.int (0 : Int32)), .unset] [(.int (0 : Int32)), (.int (if (0 : Int32) < (3 : Int32) then (1 : Int32) else 0))])) _
        refine XS.iconst X7.here hx rfl (hb hby d9_49) ?_
        show Steps p.tables e below (T7.setTop (mkF m 50 #[.val (.ref a1), .val (.int f), .val (.int k), .val (.int r), .val (.int (0 : Int32)), .val (.int (0 : Int32)), .unset] [(.int (3 : Int32)), (.int (0 : Int32)), (.int (if (0 : Int32) < (3 : Int32) then (1 : Int32) else 0))])) _
        refine XS.icmpNo X7.here hx rfl (hb hby d9_50) rfl (tlt (cA : (0 : Int32) < (3 : Int32))).2.1 ?_
        show Steps p.tables e below (T7.setTop (mkF m 53 #[.val (.ref a1), .val (.int f), .val (.int k), .val (.int r), .val (.int (0 : Int32)), .val (.int (0 : Int32)), .unset] [(.int (if (0 : Int32) < (3 : Int32) then (1 : Int32) else 0))])) _
        refine XS.iconst X7.here hx rfl (hb hby d9_53) ?_
        show Steps p.tables e below (T7.setTop (mkF m 54 #[.val (.ref a1), .val (.int f), .val (.int k), .val (.int r), .val (.int (0 : Int32)), .val (.int (0 : Int32)), .unset] [(.int (1 : Int32)), (.int (if (0 : Int32) < (3 : Int32) then (1 : Int32) else 0))])) _
        refine XS.goto X7.here hx rfl (pc0 := 54) (pc' := 58) rfl (hb hby d9_54) (by decide) (by decide) ?_
        show Steps p.tables e below (T7.setTop (mkF m 58 #[.val (.ref a1), .val (.int f), .val (.int k), .val (.int r), .val (.int (0 : Int32)), .val (.int (0 : Int32)), .unset] [(.int (1 : Int32)), (.int (if (0 : Int32) < (3 : Int32) then (1 : Int32) else 0))])) _
        refine XS.icmpNo X7.here hx rfl (hb hby d9_58) rfl (teq (by rw [if_pos cA] : (if (0 : Int32) < (3 : Int32) then (1 : Int32) else 0) = (1 : Int32))).2 ?_
        exact kt
      · refine XS.iload X7.here hx rfl (hb hby d9_47) rfl ?_
        show Steps p.tables e below (T7.setTop (mkF m 49 #[.val (.ref a1), .val (.int f), .val (.int k), .val (.int r), .val (.int (0 : Int32)), .val (.int (0 : Int32)), .unset] [(.int (0 : Int32)), (.int (if (0 : Int32) < (3 : Int32) then (1 : Int32) else 0))])) _
        refine XS.iconst X7.here hx rfl (hb hby d9_49) ?_
        show Steps p.tables e below (T7.setTop (mkF m 50 #[.val (.ref a1), .val (.int f), .val (.int k), .val (.int r), .val (.int (0 : Int32)), .val (.int (0 : Int32)), .unset] [(.int (3 : Int32)), (.int (0 : Int32)), (.int (if (0 : Int32) < (3 : Int32) then (1 : Int32) else 0))])) _
        refine XS.icmpYes X7.here hx rfl (pc0 := 50) (pc' := 57) rfl (hb hby d9_50) rfl (flt (cA : ¬ ((0 : Int32) < (3 : Int32)))).2.1 (by decide) (by decide) ?_
        show Steps p.tables e below (T7.setTop (mkF m 57 #[.val (.ref a1), .val (.int f), .val (.int k), .val (.int r), .val (.int (0 : Int32)), .val (.int (0 : Int32)), .unset] [(.int (if (0 : Int32) < (3 : Int32) then (1 : Int32) else 0))])) _
        refine XS.iconst X7.here hx rfl (hb hby d9_57) ?_
        show Steps p.tables e below (T7.setTop (mkF m 58 #[.val (.ref a1), .val (.int f), .val (.int k), .val (.int r), .val (.int (0 : Int32)), .val (.int (0 : Int32)), .unset] [(.int (0 : Int32)), (.int (if (0 : Int32) < (3 : Int32) then (1 : Int32) else 0))])) _
        refine XS.icmpNo X7.here hx rfl (hb hby d9_58) rfl (teq (by rw [if_neg cA] : (if (0 : Int32) < (3 : Int32) then (1 : Int32) else 0) = (0 : Int32))).2 ?_
        exact kt
    have sg8 : ∀ t, Steps p.tables e below (T7.setTop (mkF m 62 #[.val (.ref a1), .val (.int f), .val (.int k), .val (.int r), .val (.int (0 : Int32)), .val (.int (0 : Int32)), .unset] [(.ref a1)])) t → Steps p.tables e below (T7.setTop (mkF m 61 #[.val (.ref a1), .val (.int f), .val (.int k), .val (.int r), .val (.int (0 : Int32)), .val (.int (0 : Int32)), .unset] [])) t := by
      intro t kt
      refine XS.aloadN X7.here hx rfl (hb hby d9_61) rfl rfl ?_
      exact kt
    obtain ⟨cq9, kq9, q9a, q9b, q9c⟩ := isOf hZ eq7 Ex4
    obtain ⟨_, _, ⟨T9, L9, k9, n9⟩, -, X9, ⟨Lc9, hQ9, l9, y9, z9⟩, st9⟩ := X7.virtualBack hx (y := (⟨"com/example/handoff/handoff/WorkerTurns", "sharedFirst", "()Z"⟩ : MethodName)) (z := (⟨"com/example/handoff/handoff/WorkerTurns", "sharedFirst", "()Z"⟩ : MethodName)) hown (mvT hZ (hw _ (List.mem_of_getElem? (i := 34) rfl))) (mvT hZ (hw _ (List.mem_of_getElem? (i := 35) rfl))) (notFace_of_selects (args := #[]) (mvT hZ (hw _ (List.mem_of_getElem? (i := 37) rfl)))) (mvT hZ (hw _ (List.mem_of_getElem? (i := 37) rfl))) (mvT hZ (hw _ (List.mem_of_getElem? (i := 36) rfl))) (by decide) (backOf (W := 0) (rm7 l Z a0 hw [] a1 k T4.heap n0 Zs5 Fp4 Fi4) hZ (hw _ (List.mem_of_getElem? (i := 38) rfl)) (hw _ (List.mem_of_getElem? (i := 2) rfl)) (by decide) (by decide)) q9a q9c (g := (mkF m 62 #[.val (.ref a1), .val (.int f), .val (.int k), .val (.int r), .val (.int (0 : Int32)), .val (.int (0 : Int32)), .unset] [(.ref a1)])) rfl (by rw [hml]; rfl) (Steps.refl _) (argsL := []) (rest := []) (lenOf pd_4 rfl) rfl (by show 2 * 0 + _ ≤ _; exact Nat.le_of_eq rfl) (hb hby d9_62) (fun _ _ => ⟨rfl, eq7, (by decide : 0 + 0 ≤ _), (by decide : 0 + 0 ≤ _)⟩)
    dsimp only [Pt.U, Pt.locs, Pt.cells, Pt.slots] at X9 l9 y9 z9 st9 hQ9
    subst l9 y9 z9
    obtain ⟨rfl, Nq9, eq9⟩ := hQ9
    have N9 := Fr.app N7 Nq9
    have sB : ∀ t, Steps p.tables e below (T9.setTop (mkF m 86 #[.val (.ref a1), .val (.int f), .val (.int k), .val (.int r), .val (.int (0 : Int32)), .val (.int (0 : Int32)), .val (.int (1 : Int32))] [])) t → Steps p.tables e below (T9.setTop (mkF m 65 #[.val (.ref a1), .val (.int f), .val (.int k), .val (.int r), .val (.int (0 : Int32)), .val (.int (0 : Int32)), .unset] [(.int (if k < (20 : Int32) then (0 : Int32) else 1))])) t := by
      intro t kt
      by_cases cB : k < (20 : Int32)
      · refine XS.iloadN X9.here hx rfl (hb hby d9_65) rfl ?_
        show Steps p.tables e below (T9.setTop (mkF m 66 #[.val (.ref a1), .val (.int f), .val (.int k), .val (.int r), .val (.int (0 : Int32)), .val (.int (0 : Int32)), .unset] [(.int k), (.int (if k < (20 : Int32) then (0 : Int32) else 1))])) _
        refine XS.bipush X9.here hx rfl (hb hby d9_66) ?_
        show Steps p.tables e below (T9.setTop (mkF m 68 #[.val (.ref a1), .val (.int f), .val (.int k), .val (.int r), .val (.int (0 : Int32)), .val (.int (0 : Int32)), .unset] [(.int (20 : Int32)), (.int k), (.int (if k < (20 : Int32) then (0 : Int32) else 1))])) _
        refine XS.icmpYes X9.here hx rfl (pc0 := 68) (pc' := 75) rfl (hb hby d9_68) rfl (tlt (cB : k < (20 : Int32))).1 (by decide) (by decide) ?_
        show Steps p.tables e below (T9.setTop (mkF m 75 #[.val (.ref a1), .val (.int f), .val (.int k), .val (.int r), .val (.int (0 : Int32)), .val (.int (0 : Int32)), .unset] [(.int (if k < (20 : Int32) then (0 : Int32) else 1))])) _
        refine XS.iconst X9.here hx rfl (hb hby d9_75) ?_
        show Steps p.tables e below (T9.setTop (mkF m 76 #[.val (.ref a1), .val (.int f), .val (.int k), .val (.int r), .val (.int (0 : Int32)), .val (.int (0 : Int32)), .unset] [(.int (0 : Int32)), (.int (if k < (20 : Int32) then (0 : Int32) else 1))])) _
        refine XS.icmpNo X9.here hx rfl (hb hby d9_76) rfl (teq (by rw [if_pos cB] : (if k < (20 : Int32) then (0 : Int32) else 1) = (0 : Int32))).2 ?_
        show Steps p.tables e below (T9.setTop (mkF m 79 #[.val (.ref a1), .val (.int f), .val (.int k), .val (.int r), .val (.int (0 : Int32)), .val (.int (0 : Int32)), .unset] [])) _
        refine XS.iconst X9.here hx rfl (hb hby d9_79) ?_
        show Steps p.tables e below (T9.setTop (mkF m 80 #[.val (.ref a1), .val (.int f), .val (.int k), .val (.int r), .val (.int (0 : Int32)), .val (.int (0 : Int32)), .unset] [(.int (1 : Int32))])) _
        refine XS.goto X9.here hx rfl (pc0 := 80) (pc' := 84) rfl (hb hby d9_80) (by decide) (by decide) ?_
        show Steps p.tables e below (T9.setTop (mkF m 84 #[.val (.ref a1), .val (.int f), .val (.int k), .val (.int r), .val (.int (0 : Int32)), .val (.int (0 : Int32)), .unset] [(.int (1 : Int32))])) _
        refine XS.istore X9.here hx rfl (hb hby d9_84) rfl (l' := #[.val (.ref a1), .val (.int f), .val (.int k), .val (.int r), .val (.int (0 : Int32)), .val (.int (0 : Int32)), .val (.int (1 : Int32))]) rfl ?_
        exact kt
      · refine XS.iloadN X9.here hx rfl (hb hby d9_65) rfl ?_
        show Steps p.tables e below (T9.setTop (mkF m 66 #[.val (.ref a1), .val (.int f), .val (.int k), .val (.int r), .val (.int (0 : Int32)), .val (.int (0 : Int32)), .unset] [(.int k), (.int (if k < (20 : Int32) then (0 : Int32) else 1))])) _
        refine XS.bipush X9.here hx rfl (hb hby d9_66) ?_
        show Steps p.tables e below (T9.setTop (mkF m 68 #[.val (.ref a1), .val (.int f), .val (.int k), .val (.int r), .val (.int (0 : Int32)), .val (.int (0 : Int32)), .unset] [(.int (20 : Int32)), (.int k), (.int (if k < (20 : Int32) then (0 : Int32) else 1))])) _
        refine XS.icmpNo X9.here hx rfl (hb hby d9_68) rfl (flt (cB : ¬ (k < (20 : Int32)))).1 ?_
        show Steps p.tables e below (T9.setTop (mkF m 71 #[.val (.ref a1), .val (.int f), .val (.int k), .val (.int r), .val (.int (0 : Int32)), .val (.int (0 : Int32)), .unset] [(.int (if k < (20 : Int32) then (0 : Int32) else 1))])) _
        refine XS.iconst X9.here hx rfl (hb hby d9_71) ?_
        show Steps p.tables e below (T9.setTop (mkF m 72 #[.val (.ref a1), .val (.int f), .val (.int k), .val (.int r), .val (.int (0 : Int32)), .val (.int (0 : Int32)), .unset] [(.int (1 : Int32)), (.int (if k < (20 : Int32) then (0 : Int32) else 1))])) _
        refine XS.goto X9.here hx rfl (pc0 := 72) (pc' := 76) rfl (hb hby d9_72) (by decide) (by decide) ?_
        show Steps p.tables e below (T9.setTop (mkF m 76 #[.val (.ref a1), .val (.int f), .val (.int k), .val (.int r), .val (.int (0 : Int32)), .val (.int (0 : Int32)), .unset] [(.int (1 : Int32)), (.int (if k < (20 : Int32) then (0 : Int32) else 1))])) _
        refine XS.icmpNo X9.here hx rfl (hb hby d9_76) rfl (teq (by rw [if_neg cB] : (if k < (20 : Int32) then (0 : Int32) else 1) = (1 : Int32))).2 ?_
        show Steps p.tables e below (T9.setTop (mkF m 79 #[.val (.ref a1), .val (.int f), .val (.int k), .val (.int r), .val (.int (0 : Int32)), .val (.int (0 : Int32)), .unset] [])) _
        refine XS.iconst X9.here hx rfl (hb hby d9_79) ?_
        show Steps p.tables e below (T9.setTop (mkF m 80 #[.val (.ref a1), .val (.int f), .val (.int k), .val (.int r), .val (.int (0 : Int32)), .val (.int (0 : Int32)), .unset] [(.int (1 : Int32))])) _
        refine XS.goto X9.here hx rfl (pc0 := 80) (pc' := 84) rfl (hb hby d9_80) (by decide) (by decide) ?_
        show Steps p.tables e below (T9.setTop (mkF m 84 #[.val (.ref a1), .val (.int f), .val (.int k), .val (.int r), .val (.int (0 : Int32)), .val (.int (0 : Int32)), .unset] [(.int (1 : Int32))])) _
        refine XS.istore X9.here hx rfl (hb hby d9_84) rfl (l' := #[.val (.ref a1), .val (.int f), .val (.int k), .val (.int r), .val (.int (0 : Int32)), .val (.int (0 : Int32)), .val (.int (1 : Int32))]) rfl ?_
        exact kt
    have sg10 : ∀ t, Steps p.tables e below (T9.setTop (mkF m 97 #[.val (.ref a1), .val (.int f), .val (.int k), .val (.int r), .val (.int (0 : Int32)), .val (.int (0 : Int32)), .val (.int (1 : Int32))] [(.int (0 : Int32))])) t → Steps p.tables e below (T9.setTop (mkF m 86 #[.val (.ref a1), .val (.int f), .val (.int k), .val (.int r), .val (.int (0 : Int32)), .val (.int (0 : Int32)), .val (.int (1 : Int32))] [])) t := by
      intro t kt
      refine XS.iload X9.here hx rfl (hb hby d9_86) rfl ?_
      show Steps p.tables e below (T9.setTop (mkF m 88 #[.val (.ref a1), .val (.int f), .val (.int k), .val (.int r), .val (.int (0 : Int32)), .val (.int (0 : Int32)), .val (.int (1 : Int32))] [(.int (1 : Int32))])) _
      refine XS.ifNo X9.here hx rfl (hb hby d9_88) rfl ((if0 _ _).trans (feq (by decide : ¬ ((1 : Int32) = (0 : Int32)))).1) ?_
      show Steps p.tables e below (T9.setTop (mkF m 91 #[.val (.ref a1), .val (.int f), .val (.int k), .val (.int r), .val (.int (0 : Int32)), .val (.int (0 : Int32)), .val (.int (1 : Int32))] [])) _
      refine XS.iload X9.here hx rfl (hb hby d9_91) rfl ?_
      show Steps p.tables e below (T9.setTop (mkF m 93 #[.val (.ref a1), .val (.int f), .val (.int k), .val (.int r), .val (.int (0 : Int32)), .val (.int (0 : Int32)), .val (.int (1 : Int32))] [(.int (0 : Int32))])) _
      refine XS.goto X9.here hx rfl (pc0 := 93) (pc' := 97) rfl (hb hby d9_93) (by decide) (by decide) ?_
      exact kt
    obtain ⟨fs, hr, hrun, hended, hW, hsame⟩ := X9.leave (v := some (.int (0 : Int32))) (fun h => by rw [Bd.returns] at h; cases h)
    refine ⟨_, _, pre0 _ ?_, hrun, hended, _, _, rfl, ?_, ⟨_, rfl⟩, hW, hsame.mono (by decide) (by decide)⟩
    · refine sg1 _ ?_
      refine sg2 _ ?_
      refine sg3 _ ?_
      refine st4.trans ?_
      refine sg6 _ ?_
      refine st7.trans ?_
      refine sA _ ?_
      refine sg8 _ ?_
      refine st9.trans ?_
      refine sB _ ?_
      refine sg10 _ ?_
      exact retI X9 hx Bd.returns (hb hby d9_97) hr
    · show Q9 Z a1 f k r pl h0 n0 _ T9.heap _
      rw [eq9]; exact ⟨⟨_, rfl, (by decide), (by rw [own_z0]; omega), Fs4⟩, N9, Kq4, Ex4, Fi4, Fp4⟩
  · have sg3 : ∀ t, Steps p.tables e below (s₁.setTop (mkF m 26 #[.val (.ref a1), .val (.int f), .val (.int k), .val (.int r), .val (.int (1 : Int32)), .unset, .unset] [(.int (1 : Int32)), (.ref a1)])) t → Steps p.tables e below (s₁.setTop (mkF m 13 #[.val (.ref a1), .val (.int f), .val (.int k), .val (.int r), .unset, .unset, .unset] [(.int (((f.toUInt32 >>> ((k - (1 : Int32)) &&& 31).toUInt32).toInt32) &&& (1 : Int32)))])) t := by
      intro t kt
      refine XS.ifNo X0.here hx rfl (hb hby d9_13) rfl ((if0 _ _).trans (feq (c13 : ¬ ((((f.toUInt32 >>> ((k - (1 : Int32)) &&& 31).toUInt32).toInt32) &&& (1 : Int32)) = (0 : Int32)))).1) ?_
      show Steps p.tables e below (s₁.setTop (mkF m 16 #[.val (.ref a1), .val (.int f), .val (.int k), .val (.int r), .unset, .unset, .unset] [])) _
      refine XS.iconst X0.here hx rfl (hb hby d9_16) ?_
      show Steps p.tables e below (s₁.setTop (mkF m 17 #[.val (.ref a1), .val (.int f), .val (.int k), .val (.int r), .unset, .unset, .unset] [(.int (1 : Int32))])) _
      refine XS.goto X0.here hx rfl (pc0 := 17) (pc' := 21) rfl (hb hby d9_17) (by decide) (by decide) ?_
      show Steps p.tables e below (s₁.setTop (mkF m 21 #[.val (.ref a1), .val (.int f), .val (.int k), .val (.int r), .unset, .unset, .unset] [(.int (1 : Int32))])) _
      refine XS.istore X0.here hx rfl (hb hby d9_21) rfl (l' := #[.val (.ref a1), .val (.int f), .val (.int k), .val (.int r), .val (.int (1 : Int32)), .unset, .unset]) rfl ?_
      show Steps p.tables e below (s₁.setTop (mkF m 23 #[.val (.ref a1), .val (.int f), .val (.int k), .val (.int r), .val (.int (1 : Int32)), .unset, .unset] [])) _
      refine XS.aloadN X0.here hx rfl (hb hby d9_23) rfl rfl ?_
      show Steps p.tables e below (s₁.setTop (mkF m 24 #[.val (.ref a1), .val (.int f), .val (.int k), .val (.int r), .val (.int (1 : Int32)), .unset, .unset] [(.ref a1)])) _
      refine XS.iload X0.here hx rfl (hb hby d9_24) rfl ?_
      exact kt
    obtain ⟨cq4, kq4, q4a, q4b, q4c⟩ := isOf hZ e0 E1
    obtain ⟨_, _, ⟨T4, L4, k4, n4⟩, -, X4, ⟨Lc4, hQ4, l4, y4, z4⟩, st4⟩ := X0.virtualBack hx (y := (⟨"com/example/handoff/handoff/WorkerTurns", "took", "(Z)V"⟩ : MethodName)) (z := (⟨"com/example/handoff/handoff/WorkerTurns", "took", "(Z)V"⟩ : MethodName)) hown (mvT hZ (hw _ (List.mem_of_getElem? (i := 48) rfl))) (mvT hZ (hw _ (List.mem_of_getElem? (i := 49) rfl))) (notFace_of_selects (args := #[]) (mvT hZ (hw _ (List.mem_of_getElem? (i := 51) rfl)))) (mvT hZ (hw _ (List.mem_of_getElem? (i := 51) rfl))) (mvT hZ (hw _ (List.mem_of_getElem? (i := 50) rfl))) (by decide) (backOf (W := 0) (rm10 l Z a0 hw [] a1 (1 : Int32) pl r h0 n0 Z0 E1 Fi Fp Fs g_a1) hZ (hw _ (List.mem_of_getElem? (i := 52) rfl)) (hw _ (List.mem_of_getElem? (i := 2) rfl)) (by decide) (by decide)) q4a q4c (g := (mkF m 26 #[.val (.ref a1), .val (.int f), .val (.int k), .val (.int r), .val (.int (1 : Int32)), .unset, .unset] [(.int (1 : Int32)), (.ref a1)])) rfl (by rw [hml]; rfl) (Steps.refl _) (argsL := [(.int (1 : Int32))]) (rest := []) (lenOf pd_3 rfl) rfl (by show 2 * 0 + _ ≤ _; exact Nat.le_of_eq rfl) (hb hby d9_26) (fun _ _ => ⟨rfl, e0, (by decide : 0 + 0 ≤ _), (by decide : 0 + 0 ≤ _)⟩)
    dsimp only [Pt.U, Pt.locs, Pt.cells, Pt.slots] at X4 l4 y4 z4 st4 hQ4
    subst l4 y4 z4
    obtain ⟨rfl, Nq4, Kq4, Ex4, Fi4, Fp4, Fs4⟩ := hQ4
    have N4 := Fr.app N0 Nq4
    have Zs5 : n0 ≤ T4.heap.size := Nat.le_trans Z0 Kq4.1
    have hnx : own_next (1 : Int32) r = (r + (1 : Int32)) := by unfold own_next; rw [if_neg (by decide)]
    rw [hnx] at Fs4
    rw [hk] at Fp4
    have sg6 : ∀ t, Steps p.tables e below (T4.setTop (mkF m 44 #[.val (.ref a1), .val (.int f), .val (.int k), .val (.int r), .val (.int (1 : Int32)), .val (.int (r + (1 : Int32))), .unset] [(.ref a1)])) t → Steps p.tables e below (T4.setTop (mkF m 29 #[.val (.ref a1), .val (.int f), .val (.int k), .val (.int r), .val (.int (1 : Int32)), .unset, .unset] [])) t := by
      intro t kt
      refine XS.iload X4.here hx rfl (hb hby d9_29) rfl ?_
      show Steps p.tables e below (T4.setTop (mkF m 31 #[.val (.ref a1), .val (.int f), .val (.int k), .val (.int r), .val (.int (1 : Int32)), .unset, .unset] [(.int (1 : Int32))])) _
      refine XS.ifNo X4.here hx rfl (hb hby d9_31) rfl ((if0 _ _).trans (feq (by decide : ¬ ((1 : Int32) = (0 : Int32)))).1) ?_
      show Steps p.tables e below (T4.setTop (mkF m 34 #[.val (.ref a1), .val (.int f), .val (.int k), .val (.int r), .val (.int (1 : Int32)), .unset, .unset] [])) _
      refine XS.iloadN X4.here hx rfl (hb hby d9_34) rfl ?_
      show Steps p.tables e below (T4.setTop (mkF m 35 #[.val (.ref a1), .val (.int f), .val (.int k), .val (.int r), .val (.int (1 : Int32)), .unset, .unset] [(.int r)])) _
      refine XS.iconst X4.here hx rfl (hb hby d9_35) ?_
      show Steps p.tables e below (T4.setTop (mkF m 36 #[.val (.ref a1), .val (.int f), .val (.int k), .val (.int r), .val (.int (1 : Int32)), .unset, .unset] [(.int (1 : Int32)), (.int r)])) _
      refine XS.iadd X4.here hx rfl (hb hby d9_36) rfl ?_
      show Steps p.tables e below (T4.setTop (mkF m 37 #[.val (.ref a1), .val (.int f), .val (.int k), .val (.int r), .val (.int (1 : Int32)), .unset, .unset] [(.int (r + (1 : Int32)))])) _
      refine XS.goto X4.here hx rfl (pc0 := 37) (pc' := 41) rfl (hb hby d9_37) (by decide) (by decide) ?_
      show Steps p.tables e below (T4.setTop (mkF m 41 #[.val (.ref a1), .val (.int f), .val (.int k), .val (.int r), .val (.int (1 : Int32)), .unset, .unset] [(.int (r + (1 : Int32)))])) _
      refine XS.istore X4.here hx rfl (hb hby d9_41) rfl (l' := #[.val (.ref a1), .val (.int f), .val (.int k), .val (.int r), .val (.int (1 : Int32)), .val (.int (r + (1 : Int32))), .unset]) rfl ?_
      show Steps p.tables e below (T4.setTop (mkF m 43 #[.val (.ref a1), .val (.int f), .val (.int k), .val (.int r), .val (.int (1 : Int32)), .val (.int (r + (1 : Int32))), .unset] [])) _
      refine XS.aloadN X4.here hx rfl (hb hby d9_43) rfl rfl ?_
      exact kt
    obtain ⟨cq7, kq7, q7a, q7b, q7c⟩ := isOf hZ rfl Ex4
    obtain ⟨_, _, ⟨T7, L7, k7, n7⟩, -, X7, ⟨Lc7, hQ7, l7, y7, z7⟩, st7⟩ := X4.virtualBack hx (y := (⟨"com/example/handoff/handoff/WorkerTurns", "slotFirst", "()Z"⟩ : MethodName)) (z := (⟨"com/example/handoff/handoff/WorkerTurns", "slotFirst", "()Z"⟩ : MethodName)) hown (mvT hZ (hw _ (List.mem_of_getElem? (i := 27) rfl))) (mvT hZ (hw _ (List.mem_of_getElem? (i := 28) rfl))) (notFace_of_selects (args := #[]) (mvT hZ (hw _ (List.mem_of_getElem? (i := 30) rfl)))) (mvT hZ (hw _ (List.mem_of_getElem? (i := 30) rfl))) (mvT hZ (hw _ (List.mem_of_getElem? (i := 29) rfl))) (by decide) (backOf (W := 0) (rm6 l Z a0 hw [] a1 (r + (1 : Int32)) T4.heap n0 Zs5 Fs4) hZ (hw _ (List.mem_of_getElem? (i := 31) rfl)) (hw _ (List.mem_of_getElem? (i := 2) rfl)) (by decide) (by decide)) q7a q7c (g := (mkF m 44 #[.val (.ref a1), .val (.int f), .val (.int k), .val (.int r), .val (.int (1 : Int32)), .val (.int (r + (1 : Int32))), .unset] [(.ref a1)])) rfl (by rw [hml]; rfl) (Steps.refl _) (argsL := []) (rest := []) (lenOf pd_4 rfl) rfl (by show 2 * 0 + _ ≤ _; exact Nat.le_of_eq rfl) (hb hby d9_44) (fun _ _ => ⟨rfl, rfl, (by decide : 0 + 0 ≤ _), (by decide : 0 + 0 ≤ _)⟩)
    dsimp only [Pt.U, Pt.locs, Pt.cells, Pt.slots] at X7 l7 y7 z7 st7 hQ7
    subst l7 y7 z7
    obtain ⟨rfl, Nq7, eq7⟩ := hQ7
    have N7 := Fr.app N4 Nq7
    have sA : ∀ t, Steps p.tables e below (T7.setTop (mkF m 61 #[.val (.ref a1), .val (.int f), .val (.int k), .val (.int r), .val (.int (1 : Int32)), .val (.int (r + (1 : Int32))), .unset] [])) t → Steps p.tables e below (T7.setTop (mkF m 47 #[.val (.ref a1), .val (.int f), .val (.int k), .val (.int r), .val (.int (1 : Int32)), .val (.int (r + (1 : Int32))), .unset] [(.int (if (r + (1 : Int32)) < (3 : Int32) then (1 : Int32) else 0))])) t := by
      intro t kt
      by_cases cA : (r + (1 : Int32)) < (3 : Int32)
      · refine XS.iload X7.here hx rfl (hb hby d9_47) rfl ?_
        show Steps p.tables e below (T7.setTop (mkF m 49 #[.val (.ref a1), .val (.int f), .val (.int k), .val (.int r), .val (.int (1 : Int32)), .val (.int (r + (1 : Int32))), .unset] [(.int (r + (1 : Int32))), (.int (if (r + (1 : Int32)) < (3 : Int32) then (1 : Int32) else 0))])) _
        refine XS.iconst X7.here hx rfl (hb hby d9_49) ?_
        show Steps p.tables e below (T7.setTop (mkF m 50 #[.val (.ref a1), .val (.int f), .val (.int k), .val (.int r), .val (.int (1 : Int32)), .val (.int (r + (1 : Int32))), .unset] [(.int (3 : Int32)), (.int (r + (1 : Int32))), (.int (if (r + (1 : Int32)) < (3 : Int32) then (1 : Int32) else 0))])) _
        refine XS.icmpNo X7.here hx rfl (hb hby d9_50) rfl (tlt (cA : (r + (1 : Int32)) < (3 : Int32))).2.1 ?_
        show Steps p.tables e below (T7.setTop (mkF m 53 #[.val (.ref a1), .val (.int f), .val (.int k), .val (.int r), .val (.int (1 : Int32)), .val (.int (r + (1 : Int32))), .unset] [(.int (if (r + (1 : Int32)) < (3 : Int32) then (1 : Int32) else 0))])) _
        refine XS.iconst X7.here hx rfl (hb hby d9_53) ?_
        show Steps p.tables e below (T7.setTop (mkF m 54 #[.val (.ref a1), .val (.int f), .val (.int k), .val (.int r), .val (.int (1 : Int32)), .val (.int (r + (1 : Int32))), .unset] [(.int (1 : Int32)), (.int (if (r + (1 : Int32)) < (3 : Int32) then (1 : Int32) else 0))])) _
        refine XS.goto X7.here hx rfl (pc0 := 54) (pc' := 58) rfl (hb hby d9_54) (by decide) (by decide) ?_
        show Steps p.tables e below (T7.setTop (mkF m 58 #[.val (.ref a1), .val (.int f), .val (.int k), .val (.int r), .val (.int (1 : Int32)), .val (.int (r + (1 : Int32))), .unset] [(.int (1 : Int32)), (.int (if (r + (1 : Int32)) < (3 : Int32) then (1 : Int32) else 0))])) _
        refine XS.icmpNo X7.here hx rfl (hb hby d9_58) rfl (teq (by rw [if_pos cA] : (if (r + (1 : Int32)) < (3 : Int32) then (1 : Int32) else 0) = (1 : Int32))).2 ?_
        exact kt
      · refine XS.iload X7.here hx rfl (hb hby d9_47) rfl ?_
        show Steps p.tables e below (T7.setTop (mkF m 49 #[.val (.ref a1), .val (.int f), .val (.int k), .val (.int r), .val (.int (1 : Int32)), .val (.int (r + (1 : Int32))), .unset] [(.int (r + (1 : Int32))), (.int (if (r + (1 : Int32)) < (3 : Int32) then (1 : Int32) else 0))])) _
        refine XS.iconst X7.here hx rfl (hb hby d9_49) ?_
        show Steps p.tables e below (T7.setTop (mkF m 50 #[.val (.ref a1), .val (.int f), .val (.int k), .val (.int r), .val (.int (1 : Int32)), .val (.int (r + (1 : Int32))), .unset] [(.int (3 : Int32)), (.int (r + (1 : Int32))), (.int (if (r + (1 : Int32)) < (3 : Int32) then (1 : Int32) else 0))])) _
        refine XS.icmpYes X7.here hx rfl (pc0 := 50) (pc' := 57) rfl (hb hby d9_50) rfl (flt (cA : ¬ ((r + (1 : Int32)) < (3 : Int32)))).2.1 (by decide) (by decide) ?_
        show Steps p.tables e below (T7.setTop (mkF m 57 #[.val (.ref a1), .val (.int f), .val (.int k), .val (.int r), .val (.int (1 : Int32)), .val (.int (r + (1 : Int32))), .unset] [(.int (if (r + (1 : Int32)) < (3 : Int32) then (1 : Int32) else 0))])) _
        refine XS.iconst X7.here hx rfl (hb hby d9_57) ?_
        show Steps p.tables e below (T7.setTop (mkF m 58 #[.val (.ref a1), .val (.int f), .val (.int k), .val (.int r), .val (.int (1 : Int32)), .val (.int (r + (1 : Int32))), .unset] [(.int (0 : Int32)), (.int (if (r + (1 : Int32)) < (3 : Int32) then (1 : Int32) else 0))])) _
        refine XS.icmpNo X7.here hx rfl (hb hby d9_58) rfl (teq (by rw [if_neg cA] : (if (r + (1 : Int32)) < (3 : Int32) then (1 : Int32) else 0) = (0 : Int32))).2 ?_
        exact kt
    have sg8 : ∀ t, Steps p.tables e below (T7.setTop (mkF m 62 #[.val (.ref a1), .val (.int f), .val (.int k), .val (.int r), .val (.int (1 : Int32)), .val (.int (r + (1 : Int32))), .unset] [(.ref a1)])) t → Steps p.tables e below (T7.setTop (mkF m 61 #[.val (.ref a1), .val (.int f), .val (.int k), .val (.int r), .val (.int (1 : Int32)), .val (.int (r + (1 : Int32))), .unset] [])) t := by
      intro t kt
      refine XS.aloadN X7.here hx rfl (hb hby d9_61) rfl rfl ?_
      exact kt
    obtain ⟨cq9, kq9, q9a, q9b, q9c⟩ := isOf hZ eq7 Ex4
    obtain ⟨_, _, ⟨T9, L9, k9, n9⟩, -, X9, ⟨Lc9, hQ9, l9, y9, z9⟩, st9⟩ := X7.virtualBack hx (y := (⟨"com/example/handoff/handoff/WorkerTurns", "sharedFirst", "()Z"⟩ : MethodName)) (z := (⟨"com/example/handoff/handoff/WorkerTurns", "sharedFirst", "()Z"⟩ : MethodName)) hown (mvT hZ (hw _ (List.mem_of_getElem? (i := 34) rfl))) (mvT hZ (hw _ (List.mem_of_getElem? (i := 35) rfl))) (notFace_of_selects (args := #[]) (mvT hZ (hw _ (List.mem_of_getElem? (i := 37) rfl)))) (mvT hZ (hw _ (List.mem_of_getElem? (i := 37) rfl))) (mvT hZ (hw _ (List.mem_of_getElem? (i := 36) rfl))) (by decide) (backOf (W := 0) (rm7 l Z a0 hw [] a1 k T4.heap n0 Zs5 Fp4 Fi4) hZ (hw _ (List.mem_of_getElem? (i := 38) rfl)) (hw _ (List.mem_of_getElem? (i := 2) rfl)) (by decide) (by decide)) q9a q9c (g := (mkF m 62 #[.val (.ref a1), .val (.int f), .val (.int k), .val (.int r), .val (.int (1 : Int32)), .val (.int (r + (1 : Int32))), .unset] [(.ref a1)])) rfl (by rw [hml]; rfl) (Steps.refl _) (argsL := []) (rest := []) (lenOf pd_4 rfl) rfl (by show 2 * 0 + _ ≤ _; exact Nat.le_of_eq rfl) (hb hby d9_62) (fun _ _ => ⟨rfl, eq7, (by decide : 0 + 0 ≤ _), (by decide : 0 + 0 ≤ _)⟩)
    dsimp only [Pt.U, Pt.locs, Pt.cells, Pt.slots] at X9 l9 y9 z9 st9 hQ9
    subst l9 y9 z9
    obtain ⟨rfl, Nq9, eq9⟩ := hQ9
    have N9 := Fr.app N7 Nq9
    have sB : ∀ t, Steps p.tables e below (T9.setTop (mkF m 86 #[.val (.ref a1), .val (.int f), .val (.int k), .val (.int r), .val (.int (1 : Int32)), .val (.int (r + (1 : Int32))), .val (.int (1 : Int32))] [])) t → Steps p.tables e below (T9.setTop (mkF m 65 #[.val (.ref a1), .val (.int f), .val (.int k), .val (.int r), .val (.int (1 : Int32)), .val (.int (r + (1 : Int32))), .unset] [(.int (if k < (20 : Int32) then (0 : Int32) else 1))])) t := by
      intro t kt
      by_cases cB : k < (20 : Int32)
      · refine XS.iloadN X9.here hx rfl (hb hby d9_65) rfl ?_
        show Steps p.tables e below (T9.setTop (mkF m 66 #[.val (.ref a1), .val (.int f), .val (.int k), .val (.int r), .val (.int (1 : Int32)), .val (.int (r + (1 : Int32))), .unset] [(.int k), (.int (if k < (20 : Int32) then (0 : Int32) else 1))])) _
        refine XS.bipush X9.here hx rfl (hb hby d9_66) ?_
        show Steps p.tables e below (T9.setTop (mkF m 68 #[.val (.ref a1), .val (.int f), .val (.int k), .val (.int r), .val (.int (1 : Int32)), .val (.int (r + (1 : Int32))), .unset] [(.int (20 : Int32)), (.int k), (.int (if k < (20 : Int32) then (0 : Int32) else 1))])) _
        refine XS.icmpYes X9.here hx rfl (pc0 := 68) (pc' := 75) rfl (hb hby d9_68) rfl (tlt (cB : k < (20 : Int32))).1 (by decide) (by decide) ?_
        show Steps p.tables e below (T9.setTop (mkF m 75 #[.val (.ref a1), .val (.int f), .val (.int k), .val (.int r), .val (.int (1 : Int32)), .val (.int (r + (1 : Int32))), .unset] [(.int (if k < (20 : Int32) then (0 : Int32) else 1))])) _
        refine XS.iconst X9.here hx rfl (hb hby d9_75) ?_
        show Steps p.tables e below (T9.setTop (mkF m 76 #[.val (.ref a1), .val (.int f), .val (.int k), .val (.int r), .val (.int (1 : Int32)), .val (.int (r + (1 : Int32))), .unset] [(.int (0 : Int32)), (.int (if k < (20 : Int32) then (0 : Int32) else 1))])) _
        refine XS.icmpNo X9.here hx rfl (hb hby d9_76) rfl (teq (by rw [if_pos cB] : (if k < (20 : Int32) then (0 : Int32) else 1) = (0 : Int32))).2 ?_
        show Steps p.tables e below (T9.setTop (mkF m 79 #[.val (.ref a1), .val (.int f), .val (.int k), .val (.int r), .val (.int (1 : Int32)), .val (.int (r + (1 : Int32))), .unset] [])) _
        refine XS.iconst X9.here hx rfl (hb hby d9_79) ?_
        show Steps p.tables e below (T9.setTop (mkF m 80 #[.val (.ref a1), .val (.int f), .val (.int k), .val (.int r), .val (.int (1 : Int32)), .val (.int (r + (1 : Int32))), .unset] [(.int (1 : Int32))])) _
        refine XS.goto X9.here hx rfl (pc0 := 80) (pc' := 84) rfl (hb hby d9_80) (by decide) (by decide) ?_
        show Steps p.tables e below (T9.setTop (mkF m 84 #[.val (.ref a1), .val (.int f), .val (.int k), .val (.int r), .val (.int (1 : Int32)), .val (.int (r + (1 : Int32))), .unset] [(.int (1 : Int32))])) _
        refine XS.istore X9.here hx rfl (hb hby d9_84) rfl (l' := #[.val (.ref a1), .val (.int f), .val (.int k), .val (.int r), .val (.int (1 : Int32)), .val (.int (r + (1 : Int32))), .val (.int (1 : Int32))]) rfl ?_
        exact kt
      · refine XS.iloadN X9.here hx rfl (hb hby d9_65) rfl ?_
        show Steps p.tables e below (T9.setTop (mkF m 66 #[.val (.ref a1), .val (.int f), .val (.int k), .val (.int r), .val (.int (1 : Int32)), .val (.int (r + (1 : Int32))), .unset] [(.int k), (.int (if k < (20 : Int32) then (0 : Int32) else 1))])) _
        refine XS.bipush X9.here hx rfl (hb hby d9_66) ?_
        show Steps p.tables e below (T9.setTop (mkF m 68 #[.val (.ref a1), .val (.int f), .val (.int k), .val (.int r), .val (.int (1 : Int32)), .val (.int (r + (1 : Int32))), .unset] [(.int (20 : Int32)), (.int k), (.int (if k < (20 : Int32) then (0 : Int32) else 1))])) _
        refine XS.icmpNo X9.here hx rfl (hb hby d9_68) rfl (flt (cB : ¬ (k < (20 : Int32)))).1 ?_
        show Steps p.tables e below (T9.setTop (mkF m 71 #[.val (.ref a1), .val (.int f), .val (.int k), .val (.int r), .val (.int (1 : Int32)), .val (.int (r + (1 : Int32))), .unset] [(.int (if k < (20 : Int32) then (0 : Int32) else 1))])) _
        refine XS.iconst X9.here hx rfl (hb hby d9_71) ?_
        show Steps p.tables e below (T9.setTop (mkF m 72 #[.val (.ref a1), .val (.int f), .val (.int k), .val (.int r), .val (.int (1 : Int32)), .val (.int (r + (1 : Int32))), .unset] [(.int (1 : Int32)), (.int (if k < (20 : Int32) then (0 : Int32) else 1))])) _
        refine XS.goto X9.here hx rfl (pc0 := 72) (pc' := 76) rfl (hb hby d9_72) (by decide) (by decide) ?_
        show Steps p.tables e below (T9.setTop (mkF m 76 #[.val (.ref a1), .val (.int f), .val (.int k), .val (.int r), .val (.int (1 : Int32)), .val (.int (r + (1 : Int32))), .unset] [(.int (1 : Int32)), (.int (if k < (20 : Int32) then (0 : Int32) else 1))])) _
        refine XS.icmpNo X9.here hx rfl (hb hby d9_76) rfl (teq (by rw [if_neg cB] : (if k < (20 : Int32) then (0 : Int32) else 1) = (1 : Int32))).2 ?_
        show Steps p.tables e below (T9.setTop (mkF m 79 #[.val (.ref a1), .val (.int f), .val (.int k), .val (.int r), .val (.int (1 : Int32)), .val (.int (r + (1 : Int32))), .unset] [])) _
        refine XS.iconst X9.here hx rfl (hb hby d9_79) ?_
        show Steps p.tables e below (T9.setTop (mkF m 80 #[.val (.ref a1), .val (.int f), .val (.int k), .val (.int r), .val (.int (1 : Int32)), .val (.int (r + (1 : Int32))), .unset] [(.int (1 : Int32))])) _
        refine XS.goto X9.here hx rfl (pc0 := 80) (pc' := 84) rfl (hb hby d9_80) (by decide) (by decide) ?_
        show Steps p.tables e below (T9.setTop (mkF m 84 #[.val (.ref a1), .val (.int f), .val (.int k), .val (.int r), .val (.int (1 : Int32)), .val (.int (r + (1 : Int32))), .unset] [(.int (1 : Int32))])) _
        refine XS.istore X9.here hx rfl (hb hby d9_84) rfl (l' := #[.val (.ref a1), .val (.int f), .val (.int k), .val (.int r), .val (.int (1 : Int32)), .val (.int (r + (1 : Int32))), .val (.int (1 : Int32))]) rfl ?_
        exact kt
    have sg10 : ∀ t, Steps p.tables e below (T9.setTop (mkF m 97 #[.val (.ref a1), .val (.int f), .val (.int k), .val (.int r), .val (.int (1 : Int32)), .val (.int (r + (1 : Int32))), .val (.int (1 : Int32))] [(.int (r + (1 : Int32)))])) t → Steps p.tables e below (T9.setTop (mkF m 86 #[.val (.ref a1), .val (.int f), .val (.int k), .val (.int r), .val (.int (1 : Int32)), .val (.int (r + (1 : Int32))), .val (.int (1 : Int32))] [])) t := by
      intro t kt
      refine XS.iload X9.here hx rfl (hb hby d9_86) rfl ?_
      show Steps p.tables e below (T9.setTop (mkF m 88 #[.val (.ref a1), .val (.int f), .val (.int k), .val (.int r), .val (.int (1 : Int32)), .val (.int (r + (1 : Int32))), .val (.int (1 : Int32))] [(.int (1 : Int32))])) _
      refine XS.ifNo X9.here hx rfl (hb hby d9_88) rfl ((if0 _ _).trans (feq (by decide : ¬ ((1 : Int32) = (0 : Int32)))).1) ?_
      show Steps p.tables e below (T9.setTop (mkF m 91 #[.val (.ref a1), .val (.int f), .val (.int k), .val (.int r), .val (.int (1 : Int32)), .val (.int (r + (1 : Int32))), .val (.int (1 : Int32))] [])) _
      refine XS.iload X9.here hx rfl (hb hby d9_91) rfl ?_
      show Steps p.tables e below (T9.setTop (mkF m 93 #[.val (.ref a1), .val (.int f), .val (.int k), .val (.int r), .val (.int (1 : Int32)), .val (.int (r + (1 : Int32))), .val (.int (1 : Int32))] [(.int (r + (1 : Int32)))])) _
      refine XS.goto X9.here hx rfl (pc0 := 93) (pc' := 97) rfl (hb hby d9_93) (by decide) (by decide) ?_
      exact kt
    obtain ⟨fs, hr, hrun, hended, hW, hsame⟩ := X9.leave (v := some (.int (r + (1 : Int32)))) (fun h => by rw [Bd.returns] at h; cases h)
    refine ⟨_, _, pre0 _ ?_, hrun, hended, _, _, rfl, ?_, ⟨_, rfl⟩, hW, hsame.mono (by decide) (by decide)⟩
    · refine sg1 _ ?_
      refine sg2 _ ?_
      refine sg3 _ ?_
      refine st4.trans ?_
      refine sg6 _ ?_
      refine st7.trans ?_
      refine sA _ ?_
      refine sg8 _ ?_
      refine st9.trans ?_
      refine sB _ ?_
      refine sg10 _ ?_
      exact retI X9 hx Bd.returns (hb hby d9_97) hr
    · show Q9 Z a1 f k r pl h0 n0 _ T9.heap _
      rw [eq9]; exact ⟨⟨_, rfl, (by rw [own_inc hr0 hr1]; omega), (by rw [own_inc hr0 hr1]; exact Int.le_refl _), Fs4⟩, N9, Kq4, Ex4, Fi4, Fp4⟩
def own_S (Z : State) (h : Heap) (n0 : Nat) (b : Addr) (k r : Int32) (u : Int) : Prop := n0 ≤ h.size ∧ Exa Z h b "com/example/handoff/handoff/WorkerTurns" ∧ Fld Z h b "com/example/handoff/handoff/WorkerTurns" "interval" "I" (.int (20 : Int32)) ∧ Fld Z h b "com/example/handoff/handoff/WorkerTurns" "polls" "I" (.int k) ∧ Fld Z h b "com/example/handoff/handoff/WorkerTurns" "slotRuns" "I" (.int r) ∧ 0 ≤ r.toInt ∧ r.toInt ≤ u
theorem pn_0 : plainName "com/example/handoff/handoff/WorkerTurnsTookPinLaw" = true := by first | (simp [plainName, overriddenIn]; done) | decide +kernel
theorem ef_0 (m : MethodId) (x0 : Int32) : entryFrame m #[(.int x0)] maxLocals = mkF m 0 #[.val (.int x0), .unset, .unset] [] := by first | (simp [entryFrame, mkF, argsToLocals, Value.category, maxLocals]; done) | rfl
theorem pd_5 : parseMethodDescriptor "(Lcom/example/handoff/handoff/WorkerTurns;III)I" = some ⟨[(.object "com/example/handoff/handoff/WorkerTurns"), .int, .int, .int], some .int⟩ := by decide +kernel
set_option maxRecDepth 65536 in
set_option maxHeartbeats 40000000 in
theorem own_s1 {p : Program} {l : Launch} {e : Env} {s : State} {m : MethodId} {args : Array Value} {below : List Frame} {meth : Method} {c : Code} {T0 : State} {locs : List Loc} {Z : State} {h0 : Heap} {a0 : Array Value} {n0 : Nat} (X0 : Stand p l e room_1 s m args below meth c T0 locs 1 5) (hx : p.tables.exec = Jvm.exec) (hZ : Z.Warmed39 s.vm) (hw : ∀ d ∈ tables_1, d.before a0 Z = true) (hby : c.code = code) (hml : c.maxLocals = 3) (hown : s.vm.findClass "com/example/handoff/handoff/WorkerTurnsTookPinLaw" = some m.cls) (e0 : T0.heap = h0) (N0 : Fr n0 locs) (b : Addr) (g_b : n0 ≤ b) (f r : Int32) (B : own_S Z h0 n0 b (0 : Int32) r 0) :
    ∃ T' h' locs' r', Stand p l e room_1 s m args below meth c T' locs' 1 5 ∧ T'.heap = h' ∧ Fr n0 locs' ∧ own_S Z h' n0 b (1 : Int32) r' 1 ∧ ∀ t, Steps p.tables e below (T'.setTop (mkF m 34 #[.val (.int f), .val (.ref b), .val (.int r')] [])) t → Steps p.tables e below (T0.setTop (mkF m 26 #[.val (.int f), .val (.ref b), .val (.int r)] [])) t := by
  obtain ⟨B0, Ex, Fi, Fp, Fs, lo, up⟩ := B
  have sg1 : ∀ t, Steps p.tables e below (T0.setTop (mkF m 30 #[.val (.int f), .val (.ref b), .val (.int r)] [(.int r), (.int (1 : Int32)), (.int f), (.ref b)])) t → Steps p.tables e below (T0.setTop (mkF m 26 #[.val (.int f), .val (.ref b), .val (.int r)] [])) t := by
    intro t kt
    refine XS.aloadN X0.here hx rfl (hb hby at_26) rfl rfl ?_
    show Steps p.tables e below (T0.setTop (mkF m 27 #[.val (.int f), .val (.ref b), .val (.int r)] [(.ref b)])) _
    refine XS.iloadN X0.here hx rfl (hb hby at_27) rfl ?_
    show Steps p.tables e below (T0.setTop (mkF m 28 #[.val (.int f), .val (.ref b), .val (.int r)] [(.int f), (.ref b)])) _
    refine XS.iconst X0.here hx rfl (hb hby at_28) ?_
    show Steps p.tables e below (T0.setTop (mkF m 29 #[.val (.int f), .val (.ref b), .val (.int r)] [(.int (1 : Int32)), (.int f), (.ref b)])) _
    refine XS.iloadN X0.here hx rfl (hb hby at_29) rfl ?_
    exact kt
  obtain ⟨_, _, ⟨T2, L2, k2, n2⟩, -, X2, ⟨Lc2, hQ2, l2, y2, z2⟩, st2⟩ := Jvm.LawKit.callS X0 hx (y := (⟨"com/example/handoff/handoff/WorkerTurnsTookPinLaw", "step", "(Lcom/example/handoff/handoff/WorkerTurns;III)I"⟩ : MethodName)) hown (mvT hZ (hw _ (List.mem_of_getElem? (i := 44) rfl))) (mvT hZ (hw _ (List.mem_of_getElem? (i := 45) rfl))) (mvT hZ (hw _ (List.mem_of_getElem? (i := 46) rfl))) (mvT hZ (hw _ (List.mem_of_getElem? (i := 47) rfl))) (by decide) (backOf (W := 0) (rm9 l Z a0 hw [] b f (1 : Int32) r (0 : Int32) h0 n0 B0 (by decide) lo (Int.le_trans up (by decide)) Ex Fi Fp Fs g_b) hZ (hw _ (List.mem_of_getElem? (i := 47) rfl)) (hw _ (List.mem_of_getElem? (i := 46) rfl)) (by decide) (by decide)) (g := (mkF m 30 #[.val (.int f), .val (.ref b), .val (.int r)] [(.int r), (.int (1 : Int32)), (.int f), (.ref b)])) rfl (by rw [hml]; rfl) (argsL := [(.ref b), (.int f), (.int (1 : Int32)), (.int r)]) (rest := []) (lenOf pd_5 rfl) rfl (by show 2 * 0 + _ ≤ _; exact Nat.le_of_eq rfl) (hb hby at_30) (fun _ _ => ⟨rfl, e0, (by decide : 1 + 0 ≤ _), (by decide : 5 + 0 ≤ _)⟩)
  dsimp only [Pt.U, Pt.locs, Pt.cells, Pt.slots] at X2 l2 y2 z2 st2 hQ2
  subst l2 y2 z2
  obtain ⟨⟨r1, rfl, lo1, up1, Fs2⟩, Nq2, Kq2, Ex2, Fi2, Fp2⟩ := hQ2
  have N2 := Fr.app N0 Nq2
  have sg3 : ∀ t, Steps p.tables e below (T2.setTop (mkF m 34 #[.val (.int f), .val (.ref b), .val (.int r1)] [])) t → Steps p.tables e below (T2.setTop (mkF m 33 #[.val (.int f), .val (.ref b), .val (.int r)] [(.int r1)])) t := by
    intro t kt
    refine XS.istoreN X2.here hx rfl (hb hby at_33) rfl (l' := #[.val (.int f), .val (.ref b), .val (.int r1)]) rfl ?_
    exact kt
  refine ⟨T2, _, _, r1, X2, rfl, N2, ⟨Nat.le_trans B0 Kq2.1, Ex2, Fi2, Fp2, Fs2, lo1, Int.le_trans up1 (Int.add_le_add_right up 1)⟩, fun t kt => ?_⟩
  refine sg1 _ ?_
  refine st2 _ ?_
  refine sg3 _ ?_
  exact kt
set_option maxRecDepth 65536 in
set_option maxHeartbeats 40000000 in
theorem own_s2 {p : Program} {l : Launch} {e : Env} {s : State} {m : MethodId} {args : Array Value} {below : List Frame} {meth : Method} {c : Code} {T0 : State} {locs : List Loc} {Z : State} {h0 : Heap} {a0 : Array Value} {n0 : Nat} (X0 : Stand p l e room_1 s m args below meth c T0 locs 1 5) (hx : p.tables.exec = Jvm.exec) (hZ : Z.Warmed39 s.vm) (hw : ∀ d ∈ tables_1, d.before a0 Z = true) (hby : c.code = code) (hml : c.maxLocals = 3) (hown : s.vm.findClass "com/example/handoff/handoff/WorkerTurnsTookPinLaw" = some m.cls) (e0 : T0.heap = h0) (N0 : Fr n0 locs) (b : Addr) (g_b : n0 ≤ b) (f r : Int32) (B : own_S Z h0 n0 b (1 : Int32) r 1) :
    ∃ T' h' locs' r', Stand p l e room_1 s m args below meth c T' locs' 1 5 ∧ T'.heap = h' ∧ Fr n0 locs' ∧ own_S Z h' n0 b (2 : Int32) r' 2 ∧ ∀ t, Steps p.tables e below (T'.setTop (mkF m 42 #[.val (.int f), .val (.ref b), .val (.int r')] [])) t → Steps p.tables e below (T0.setTop (mkF m 34 #[.val (.int f), .val (.ref b), .val (.int r)] [])) t := by
  obtain ⟨B0, Ex, Fi, Fp, Fs, lo, up⟩ := B
  have sg1 : ∀ t, Steps p.tables e below (T0.setTop (mkF m 38 #[.val (.int f), .val (.ref b), .val (.int r)] [(.int r), (.int (2 : Int32)), (.int f), (.ref b)])) t → Steps p.tables e below (T0.setTop (mkF m 34 #[.val (.int f), .val (.ref b), .val (.int r)] [])) t := by
    intro t kt
    refine XS.aloadN X0.here hx rfl (hb hby at_34) rfl rfl ?_
    show Steps p.tables e below (T0.setTop (mkF m 35 #[.val (.int f), .val (.ref b), .val (.int r)] [(.ref b)])) _
    refine XS.iloadN X0.here hx rfl (hb hby at_35) rfl ?_
    show Steps p.tables e below (T0.setTop (mkF m 36 #[.val (.int f), .val (.ref b), .val (.int r)] [(.int f), (.ref b)])) _
    refine XS.iconst X0.here hx rfl (hb hby at_36) ?_
    show Steps p.tables e below (T0.setTop (mkF m 37 #[.val (.int f), .val (.ref b), .val (.int r)] [(.int (2 : Int32)), (.int f), (.ref b)])) _
    refine XS.iloadN X0.here hx rfl (hb hby at_37) rfl ?_
    exact kt
  obtain ⟨_, _, ⟨T2, L2, k2, n2⟩, -, X2, ⟨Lc2, hQ2, l2, y2, z2⟩, st2⟩ := Jvm.LawKit.callS X0 hx (y := (⟨"com/example/handoff/handoff/WorkerTurnsTookPinLaw", "step", "(Lcom/example/handoff/handoff/WorkerTurns;III)I"⟩ : MethodName)) hown (mvT hZ (hw _ (List.mem_of_getElem? (i := 44) rfl))) (mvT hZ (hw _ (List.mem_of_getElem? (i := 45) rfl))) (mvT hZ (hw _ (List.mem_of_getElem? (i := 46) rfl))) (mvT hZ (hw _ (List.mem_of_getElem? (i := 47) rfl))) (by decide) (backOf (W := 0) (rm9 l Z a0 hw [] b f (2 : Int32) r (1 : Int32) h0 n0 B0 (by decide) lo (Int.le_trans up (by decide)) Ex Fi Fp Fs g_b) hZ (hw _ (List.mem_of_getElem? (i := 47) rfl)) (hw _ (List.mem_of_getElem? (i := 46) rfl)) (by decide) (by decide)) (g := (mkF m 38 #[.val (.int f), .val (.ref b), .val (.int r)] [(.int r), (.int (2 : Int32)), (.int f), (.ref b)])) rfl (by rw [hml]; rfl) (argsL := [(.ref b), (.int f), (.int (2 : Int32)), (.int r)]) (rest := []) (lenOf pd_5 rfl) rfl (by show 2 * 0 + _ ≤ _; exact Nat.le_of_eq rfl) (hb hby at_38) (fun _ _ => ⟨rfl, e0, (by decide : 1 + 0 ≤ _), (by decide : 5 + 0 ≤ _)⟩)
  dsimp only [Pt.U, Pt.locs, Pt.cells, Pt.slots] at X2 l2 y2 z2 st2 hQ2
  subst l2 y2 z2
  obtain ⟨⟨r1, rfl, lo1, up1, Fs2⟩, Nq2, Kq2, Ex2, Fi2, Fp2⟩ := hQ2
  have N2 := Fr.app N0 Nq2
  have sg3 : ∀ t, Steps p.tables e below (T2.setTop (mkF m 42 #[.val (.int f), .val (.ref b), .val (.int r1)] [])) t → Steps p.tables e below (T2.setTop (mkF m 41 #[.val (.int f), .val (.ref b), .val (.int r)] [(.int r1)])) t := by
    intro t kt
    refine XS.istoreN X2.here hx rfl (hb hby at_41) rfl (l' := #[.val (.int f), .val (.ref b), .val (.int r1)]) rfl ?_
    exact kt
  refine ⟨T2, _, _, r1, X2, rfl, N2, ⟨Nat.le_trans B0 Kq2.1, Ex2, Fi2, Fp2, Fs2, lo1, Int.le_trans up1 (Int.add_le_add_right up 1)⟩, fun t kt => ?_⟩
  refine sg1 _ ?_
  refine st2 _ ?_
  refine sg3 _ ?_
  exact kt
set_option maxRecDepth 65536 in
set_option maxHeartbeats 40000000 in
theorem own_s3 {p : Program} {l : Launch} {e : Env} {s : State} {m : MethodId} {args : Array Value} {below : List Frame} {meth : Method} {c : Code} {T0 : State} {locs : List Loc} {Z : State} {h0 : Heap} {a0 : Array Value} {n0 : Nat} (X0 : Stand p l e room_1 s m args below meth c T0 locs 1 5) (hx : p.tables.exec = Jvm.exec) (hZ : Z.Warmed39 s.vm) (hw : ∀ d ∈ tables_1, d.before a0 Z = true) (hby : c.code = code) (hml : c.maxLocals = 3) (hown : s.vm.findClass "com/example/handoff/handoff/WorkerTurnsTookPinLaw" = some m.cls) (e0 : T0.heap = h0) (N0 : Fr n0 locs) (b : Addr) (g_b : n0 ≤ b) (f r : Int32) (B : own_S Z h0 n0 b (2 : Int32) r 2) :
    ∃ T' h' locs' r', Stand p l e room_1 s m args below meth c T' locs' 1 5 ∧ T'.heap = h' ∧ Fr n0 locs' ∧ own_S Z h' n0 b (3 : Int32) r' 3 ∧ ∀ t, Steps p.tables e below (T'.setTop (mkF m 50 #[.val (.int f), .val (.ref b), .val (.int r')] [])) t → Steps p.tables e below (T0.setTop (mkF m 42 #[.val (.int f), .val (.ref b), .val (.int r)] [])) t := by
  obtain ⟨B0, Ex, Fi, Fp, Fs, lo, up⟩ := B
  have sg1 : ∀ t, Steps p.tables e below (T0.setTop (mkF m 46 #[.val (.int f), .val (.ref b), .val (.int r)] [(.int r), (.int (3 : Int32)), (.int f), (.ref b)])) t → Steps p.tables e below (T0.setTop (mkF m 42 #[.val (.int f), .val (.ref b), .val (.int r)] [])) t := by
    intro t kt
    refine XS.aloadN X0.here hx rfl (hb hby at_42) rfl rfl ?_
    show Steps p.tables e below (T0.setTop (mkF m 43 #[.val (.int f), .val (.ref b), .val (.int r)] [(.ref b)])) _
    refine XS.iloadN X0.here hx rfl (hb hby at_43) rfl ?_
    show Steps p.tables e below (T0.setTop (mkF m 44 #[.val (.int f), .val (.ref b), .val (.int r)] [(.int f), (.ref b)])) _
    refine XS.iconst X0.here hx rfl (hb hby at_44) ?_
    show Steps p.tables e below (T0.setTop (mkF m 45 #[.val (.int f), .val (.ref b), .val (.int r)] [(.int (3 : Int32)), (.int f), (.ref b)])) _
    refine XS.iloadN X0.here hx rfl (hb hby at_45) rfl ?_
    exact kt
  obtain ⟨_, _, ⟨T2, L2, k2, n2⟩, -, X2, ⟨Lc2, hQ2, l2, y2, z2⟩, st2⟩ := Jvm.LawKit.callS X0 hx (y := (⟨"com/example/handoff/handoff/WorkerTurnsTookPinLaw", "step", "(Lcom/example/handoff/handoff/WorkerTurns;III)I"⟩ : MethodName)) hown (mvT hZ (hw _ (List.mem_of_getElem? (i := 44) rfl))) (mvT hZ (hw _ (List.mem_of_getElem? (i := 45) rfl))) (mvT hZ (hw _ (List.mem_of_getElem? (i := 46) rfl))) (mvT hZ (hw _ (List.mem_of_getElem? (i := 47) rfl))) (by decide) (backOf (W := 0) (rm9 l Z a0 hw [] b f (3 : Int32) r (2 : Int32) h0 n0 B0 (by decide) lo (Int.le_trans up (by decide)) Ex Fi Fp Fs g_b) hZ (hw _ (List.mem_of_getElem? (i := 47) rfl)) (hw _ (List.mem_of_getElem? (i := 46) rfl)) (by decide) (by decide)) (g := (mkF m 46 #[.val (.int f), .val (.ref b), .val (.int r)] [(.int r), (.int (3 : Int32)), (.int f), (.ref b)])) rfl (by rw [hml]; rfl) (argsL := [(.ref b), (.int f), (.int (3 : Int32)), (.int r)]) (rest := []) (lenOf pd_5 rfl) rfl (by show 2 * 0 + _ ≤ _; exact Nat.le_of_eq rfl) (hb hby at_46) (fun _ _ => ⟨rfl, e0, (by decide : 1 + 0 ≤ _), (by decide : 5 + 0 ≤ _)⟩)
  dsimp only [Pt.U, Pt.locs, Pt.cells, Pt.slots] at X2 l2 y2 z2 st2 hQ2
  subst l2 y2 z2
  obtain ⟨⟨r1, rfl, lo1, up1, Fs2⟩, Nq2, Kq2, Ex2, Fi2, Fp2⟩ := hQ2
  have N2 := Fr.app N0 Nq2
  have sg3 : ∀ t, Steps p.tables e below (T2.setTop (mkF m 50 #[.val (.int f), .val (.ref b), .val (.int r1)] [])) t → Steps p.tables e below (T2.setTop (mkF m 49 #[.val (.int f), .val (.ref b), .val (.int r)] [(.int r1)])) t := by
    intro t kt
    refine XS.istoreN X2.here hx rfl (hb hby at_49) rfl (l' := #[.val (.int f), .val (.ref b), .val (.int r1)]) rfl ?_
    exact kt
  refine ⟨T2, _, _, r1, X2, rfl, N2, ⟨Nat.le_trans B0 Kq2.1, Ex2, Fi2, Fp2, Fs2, lo1, Int.le_trans up1 (Int.add_le_add_right up 1)⟩, fun t kt => ?_⟩
  refine sg1 _ ?_
  refine st2 _ ?_
  refine sg3 _ ?_
  exact kt
set_option maxRecDepth 65536 in
set_option maxHeartbeats 40000000 in
theorem own_s4 {p : Program} {l : Launch} {e : Env} {s : State} {m : MethodId} {args : Array Value} {below : List Frame} {meth : Method} {c : Code} {T0 : State} {locs : List Loc} {Z : State} {h0 : Heap} {a0 : Array Value} {n0 : Nat} (X0 : Stand p l e room_1 s m args below meth c T0 locs 1 5) (hx : p.tables.exec = Jvm.exec) (hZ : Z.Warmed39 s.vm) (hw : ∀ d ∈ tables_1, d.before a0 Z = true) (hby : c.code = code) (hml : c.maxLocals = 3) (hown : s.vm.findClass "com/example/handoff/handoff/WorkerTurnsTookPinLaw" = some m.cls) (e0 : T0.heap = h0) (N0 : Fr n0 locs) (b : Addr) (g_b : n0 ≤ b) (f r : Int32) (B : own_S Z h0 n0 b (3 : Int32) r 3) :
    ∃ T' h' locs' r', Stand p l e room_1 s m args below meth c T' locs' 1 5 ∧ T'.heap = h' ∧ Fr n0 locs' ∧ own_S Z h' n0 b (4 : Int32) r' 4 ∧ ∀ t, Steps p.tables e below (T'.setTop (mkF m 58 #[.val (.int f), .val (.ref b), .val (.int r')] [])) t → Steps p.tables e below (T0.setTop (mkF m 50 #[.val (.int f), .val (.ref b), .val (.int r)] [])) t := by
  obtain ⟨B0, Ex, Fi, Fp, Fs, lo, up⟩ := B
  have sg1 : ∀ t, Steps p.tables e below (T0.setTop (mkF m 54 #[.val (.int f), .val (.ref b), .val (.int r)] [(.int r), (.int (4 : Int32)), (.int f), (.ref b)])) t → Steps p.tables e below (T0.setTop (mkF m 50 #[.val (.int f), .val (.ref b), .val (.int r)] [])) t := by
    intro t kt
    refine XS.aloadN X0.here hx rfl (hb hby at_50) rfl rfl ?_
    show Steps p.tables e below (T0.setTop (mkF m 51 #[.val (.int f), .val (.ref b), .val (.int r)] [(.ref b)])) _
    refine XS.iloadN X0.here hx rfl (hb hby at_51) rfl ?_
    show Steps p.tables e below (T0.setTop (mkF m 52 #[.val (.int f), .val (.ref b), .val (.int r)] [(.int f), (.ref b)])) _
    refine XS.iconst X0.here hx rfl (hb hby at_52) ?_
    show Steps p.tables e below (T0.setTop (mkF m 53 #[.val (.int f), .val (.ref b), .val (.int r)] [(.int (4 : Int32)), (.int f), (.ref b)])) _
    refine XS.iloadN X0.here hx rfl (hb hby at_53) rfl ?_
    exact kt
  obtain ⟨_, _, ⟨T2, L2, k2, n2⟩, -, X2, ⟨Lc2, hQ2, l2, y2, z2⟩, st2⟩ := Jvm.LawKit.callS X0 hx (y := (⟨"com/example/handoff/handoff/WorkerTurnsTookPinLaw", "step", "(Lcom/example/handoff/handoff/WorkerTurns;III)I"⟩ : MethodName)) hown (mvT hZ (hw _ (List.mem_of_getElem? (i := 44) rfl))) (mvT hZ (hw _ (List.mem_of_getElem? (i := 45) rfl))) (mvT hZ (hw _ (List.mem_of_getElem? (i := 46) rfl))) (mvT hZ (hw _ (List.mem_of_getElem? (i := 47) rfl))) (by decide) (backOf (W := 0) (rm9 l Z a0 hw [] b f (4 : Int32) r (3 : Int32) h0 n0 B0 (by decide) lo (Int.le_trans up (by decide)) Ex Fi Fp Fs g_b) hZ (hw _ (List.mem_of_getElem? (i := 47) rfl)) (hw _ (List.mem_of_getElem? (i := 46) rfl)) (by decide) (by decide)) (g := (mkF m 54 #[.val (.int f), .val (.ref b), .val (.int r)] [(.int r), (.int (4 : Int32)), (.int f), (.ref b)])) rfl (by rw [hml]; rfl) (argsL := [(.ref b), (.int f), (.int (4 : Int32)), (.int r)]) (rest := []) (lenOf pd_5 rfl) rfl (by show 2 * 0 + _ ≤ _; exact Nat.le_of_eq rfl) (hb hby at_54) (fun _ _ => ⟨rfl, e0, (by decide : 1 + 0 ≤ _), (by decide : 5 + 0 ≤ _)⟩)
  dsimp only [Pt.U, Pt.locs, Pt.cells, Pt.slots] at X2 l2 y2 z2 st2 hQ2
  subst l2 y2 z2
  obtain ⟨⟨r1, rfl, lo1, up1, Fs2⟩, Nq2, Kq2, Ex2, Fi2, Fp2⟩ := hQ2
  have N2 := Fr.app N0 Nq2
  have sg3 : ∀ t, Steps p.tables e below (T2.setTop (mkF m 58 #[.val (.int f), .val (.ref b), .val (.int r1)] [])) t → Steps p.tables e below (T2.setTop (mkF m 57 #[.val (.int f), .val (.ref b), .val (.int r)] [(.int r1)])) t := by
    intro t kt
    refine XS.istoreN X2.here hx rfl (hb hby at_57) rfl (l' := #[.val (.int f), .val (.ref b), .val (.int r1)]) rfl ?_
    exact kt
  refine ⟨T2, _, _, r1, X2, rfl, N2, ⟨Nat.le_trans B0 Kq2.1, Ex2, Fi2, Fp2, Fs2, lo1, Int.le_trans up1 (Int.add_le_add_right up 1)⟩, fun t kt => ?_⟩
  refine sg1 _ ?_
  refine st2 _ ?_
  refine sg3 _ ?_
  exact kt
set_option maxRecDepth 65536 in
set_option maxHeartbeats 40000000 in
theorem own_s5 {p : Program} {l : Launch} {e : Env} {s : State} {m : MethodId} {args : Array Value} {below : List Frame} {meth : Method} {c : Code} {T0 : State} {locs : List Loc} {Z : State} {h0 : Heap} {a0 : Array Value} {n0 : Nat} (X0 : Stand p l e room_1 s m args below meth c T0 locs 1 5) (hx : p.tables.exec = Jvm.exec) (hZ : Z.Warmed39 s.vm) (hw : ∀ d ∈ tables_1, d.before a0 Z = true) (hby : c.code = code) (hml : c.maxLocals = 3) (hown : s.vm.findClass "com/example/handoff/handoff/WorkerTurnsTookPinLaw" = some m.cls) (e0 : T0.heap = h0) (N0 : Fr n0 locs) (b : Addr) (g_b : n0 ≤ b) (f r : Int32) (B : own_S Z h0 n0 b (4 : Int32) r 4) :
    ∃ T' h' locs' r', Stand p l e room_1 s m args below meth c T' locs' 1 5 ∧ T'.heap = h' ∧ Fr n0 locs' ∧ own_S Z h' n0 b (5 : Int32) r' 5 ∧ ∀ t, Steps p.tables e below (T'.setTop (mkF m 66 #[.val (.int f), .val (.ref b), .val (.int r')] [])) t → Steps p.tables e below (T0.setTop (mkF m 58 #[.val (.int f), .val (.ref b), .val (.int r)] [])) t := by
  obtain ⟨B0, Ex, Fi, Fp, Fs, lo, up⟩ := B
  have sg1 : ∀ t, Steps p.tables e below (T0.setTop (mkF m 62 #[.val (.int f), .val (.ref b), .val (.int r)] [(.int r), (.int (5 : Int32)), (.int f), (.ref b)])) t → Steps p.tables e below (T0.setTop (mkF m 58 #[.val (.int f), .val (.ref b), .val (.int r)] [])) t := by
    intro t kt
    refine XS.aloadN X0.here hx rfl (hb hby at_58) rfl rfl ?_
    show Steps p.tables e below (T0.setTop (mkF m 59 #[.val (.int f), .val (.ref b), .val (.int r)] [(.ref b)])) _
    refine XS.iloadN X0.here hx rfl (hb hby at_59) rfl ?_
    show Steps p.tables e below (T0.setTop (mkF m 60 #[.val (.int f), .val (.ref b), .val (.int r)] [(.int f), (.ref b)])) _
    refine XS.iconst X0.here hx rfl (hb hby at_60) ?_
    show Steps p.tables e below (T0.setTop (mkF m 61 #[.val (.int f), .val (.ref b), .val (.int r)] [(.int (5 : Int32)), (.int f), (.ref b)])) _
    refine XS.iloadN X0.here hx rfl (hb hby at_61) rfl ?_
    exact kt
  obtain ⟨_, _, ⟨T2, L2, k2, n2⟩, -, X2, ⟨Lc2, hQ2, l2, y2, z2⟩, st2⟩ := Jvm.LawKit.callS X0 hx (y := (⟨"com/example/handoff/handoff/WorkerTurnsTookPinLaw", "step", "(Lcom/example/handoff/handoff/WorkerTurns;III)I"⟩ : MethodName)) hown (mvT hZ (hw _ (List.mem_of_getElem? (i := 44) rfl))) (mvT hZ (hw _ (List.mem_of_getElem? (i := 45) rfl))) (mvT hZ (hw _ (List.mem_of_getElem? (i := 46) rfl))) (mvT hZ (hw _ (List.mem_of_getElem? (i := 47) rfl))) (by decide) (backOf (W := 0) (rm9 l Z a0 hw [] b f (5 : Int32) r (4 : Int32) h0 n0 B0 (by decide) lo (Int.le_trans up (by decide)) Ex Fi Fp Fs g_b) hZ (hw _ (List.mem_of_getElem? (i := 47) rfl)) (hw _ (List.mem_of_getElem? (i := 46) rfl)) (by decide) (by decide)) (g := (mkF m 62 #[.val (.int f), .val (.ref b), .val (.int r)] [(.int r), (.int (5 : Int32)), (.int f), (.ref b)])) rfl (by rw [hml]; rfl) (argsL := [(.ref b), (.int f), (.int (5 : Int32)), (.int r)]) (rest := []) (lenOf pd_5 rfl) rfl (by show 2 * 0 + _ ≤ _; exact Nat.le_of_eq rfl) (hb hby at_62) (fun _ _ => ⟨rfl, e0, (by decide : 1 + 0 ≤ _), (by decide : 5 + 0 ≤ _)⟩)
  dsimp only [Pt.U, Pt.locs, Pt.cells, Pt.slots] at X2 l2 y2 z2 st2 hQ2
  subst l2 y2 z2
  obtain ⟨⟨r1, rfl, lo1, up1, Fs2⟩, Nq2, Kq2, Ex2, Fi2, Fp2⟩ := hQ2
  have N2 := Fr.app N0 Nq2
  have sg3 : ∀ t, Steps p.tables e below (T2.setTop (mkF m 66 #[.val (.int f), .val (.ref b), .val (.int r1)] [])) t → Steps p.tables e below (T2.setTop (mkF m 65 #[.val (.int f), .val (.ref b), .val (.int r)] [(.int r1)])) t := by
    intro t kt
    refine XS.istoreN X2.here hx rfl (hb hby at_65) rfl (l' := #[.val (.int f), .val (.ref b), .val (.int r1)]) rfl ?_
    exact kt
  refine ⟨T2, _, _, r1, X2, rfl, N2, ⟨Nat.le_trans B0 Kq2.1, Ex2, Fi2, Fp2, Fs2, lo1, Int.le_trans up1 (Int.add_le_add_right up 1)⟩, fun t kt => ?_⟩
  refine sg1 _ ?_
  refine st2 _ ?_
  refine sg3 _ ?_
  exact kt
set_option maxRecDepth 65536 in
set_option maxHeartbeats 40000000 in
theorem own_s6 {p : Program} {l : Launch} {e : Env} {s : State} {m : MethodId} {args : Array Value} {below : List Frame} {meth : Method} {c : Code} {T0 : State} {locs : List Loc} {Z : State} {h0 : Heap} {a0 : Array Value} {n0 : Nat} (X0 : Stand p l e room_1 s m args below meth c T0 locs 1 5) (hx : p.tables.exec = Jvm.exec) (hZ : Z.Warmed39 s.vm) (hw : ∀ d ∈ tables_1, d.before a0 Z = true) (hby : c.code = code) (hml : c.maxLocals = 3) (hown : s.vm.findClass "com/example/handoff/handoff/WorkerTurnsTookPinLaw" = some m.cls) (e0 : T0.heap = h0) (N0 : Fr n0 locs) (b : Addr) (g_b : n0 ≤ b) (f r : Int32) (B : own_S Z h0 n0 b (5 : Int32) r 5) :
    ∃ T' h' locs' r', Stand p l e room_1 s m args below meth c T' locs' 1 5 ∧ T'.heap = h' ∧ Fr n0 locs' ∧ own_S Z h' n0 b (6 : Int32) r' 6 ∧ ∀ t, Steps p.tables e below (T'.setTop (mkF m 75 #[.val (.int f), .val (.ref b), .val (.int r')] [])) t → Steps p.tables e below (T0.setTop (mkF m 66 #[.val (.int f), .val (.ref b), .val (.int r)] [])) t := by
  obtain ⟨B0, Ex, Fi, Fp, Fs, lo, up⟩ := B
  have sg1 : ∀ t, Steps p.tables e below (T0.setTop (mkF m 71 #[.val (.int f), .val (.ref b), .val (.int r)] [(.int r), (.int (6 : Int32)), (.int f), (.ref b)])) t → Steps p.tables e below (T0.setTop (mkF m 66 #[.val (.int f), .val (.ref b), .val (.int r)] [])) t := by
    intro t kt
    refine XS.aloadN X0.here hx rfl (hb hby at_66) rfl rfl ?_
    show Steps p.tables e below (T0.setTop (mkF m 67 #[.val (.int f), .val (.ref b), .val (.int r)] [(.ref b)])) _
    refine XS.iloadN X0.here hx rfl (hb hby at_67) rfl ?_
    show Steps p.tables e below (T0.setTop (mkF m 68 #[.val (.int f), .val (.ref b), .val (.int r)] [(.int f), (.ref b)])) _
    refine XS.bipush X0.here hx rfl (hb hby at_68) ?_
    show Steps p.tables e below (T0.setTop (mkF m 70 #[.val (.int f), .val (.ref b), .val (.int r)] [(.int (6 : Int32)), (.int f), (.ref b)])) _
    refine XS.iloadN X0.here hx rfl (hb hby at_70) rfl ?_
    exact kt
  obtain ⟨_, _, ⟨T2, L2, k2, n2⟩, -, X2, ⟨Lc2, hQ2, l2, y2, z2⟩, st2⟩ := Jvm.LawKit.callS X0 hx (y := (⟨"com/example/handoff/handoff/WorkerTurnsTookPinLaw", "step", "(Lcom/example/handoff/handoff/WorkerTurns;III)I"⟩ : MethodName)) hown (mvT hZ (hw _ (List.mem_of_getElem? (i := 44) rfl))) (mvT hZ (hw _ (List.mem_of_getElem? (i := 45) rfl))) (mvT hZ (hw _ (List.mem_of_getElem? (i := 46) rfl))) (mvT hZ (hw _ (List.mem_of_getElem? (i := 47) rfl))) (by decide) (backOf (W := 0) (rm9 l Z a0 hw [] b f (6 : Int32) r (5 : Int32) h0 n0 B0 (by decide) lo (Int.le_trans up (by decide)) Ex Fi Fp Fs g_b) hZ (hw _ (List.mem_of_getElem? (i := 47) rfl)) (hw _ (List.mem_of_getElem? (i := 46) rfl)) (by decide) (by decide)) (g := (mkF m 71 #[.val (.int f), .val (.ref b), .val (.int r)] [(.int r), (.int (6 : Int32)), (.int f), (.ref b)])) rfl (by rw [hml]; rfl) (argsL := [(.ref b), (.int f), (.int (6 : Int32)), (.int r)]) (rest := []) (lenOf pd_5 rfl) rfl (by show 2 * 0 + _ ≤ _; exact Nat.le_of_eq rfl) (hb hby at_71) (fun _ _ => ⟨rfl, e0, (by decide : 1 + 0 ≤ _), (by decide : 5 + 0 ≤ _)⟩)
  dsimp only [Pt.U, Pt.locs, Pt.cells, Pt.slots] at X2 l2 y2 z2 st2 hQ2
  subst l2 y2 z2
  obtain ⟨⟨r1, rfl, lo1, up1, Fs2⟩, Nq2, Kq2, Ex2, Fi2, Fp2⟩ := hQ2
  have N2 := Fr.app N0 Nq2
  have sg3 : ∀ t, Steps p.tables e below (T2.setTop (mkF m 75 #[.val (.int f), .val (.ref b), .val (.int r1)] [])) t → Steps p.tables e below (T2.setTop (mkF m 74 #[.val (.int f), .val (.ref b), .val (.int r)] [(.int r1)])) t := by
    intro t kt
    refine XS.istoreN X2.here hx rfl (hb hby at_74) rfl (l' := #[.val (.int f), .val (.ref b), .val (.int r1)]) rfl ?_
    exact kt
  refine ⟨T2, _, _, r1, X2, rfl, N2, ⟨Nat.le_trans B0 Kq2.1, Ex2, Fi2, Fp2, Fs2, lo1, Int.le_trans up1 (Int.add_le_add_right up 1)⟩, fun t kt => ?_⟩
  refine sg1 _ ?_
  refine st2 _ ?_
  refine sg3 _ ?_
  exact kt
set_option maxRecDepth 65536 in
set_option maxHeartbeats 40000000 in
theorem own_s7 {p : Program} {l : Launch} {e : Env} {s : State} {m : MethodId} {args : Array Value} {below : List Frame} {meth : Method} {c : Code} {T0 : State} {locs : List Loc} {Z : State} {h0 : Heap} {a0 : Array Value} {n0 : Nat} (X0 : Stand p l e room_1 s m args below meth c T0 locs 1 5) (hx : p.tables.exec = Jvm.exec) (hZ : Z.Warmed39 s.vm) (hw : ∀ d ∈ tables_1, d.before a0 Z = true) (hby : c.code = code) (hml : c.maxLocals = 3) (hown : s.vm.findClass "com/example/handoff/handoff/WorkerTurnsTookPinLaw" = some m.cls) (e0 : T0.heap = h0) (N0 : Fr n0 locs) (b : Addr) (g_b : n0 ≤ b) (f r : Int32) (B : own_S Z h0 n0 b (6 : Int32) r 6) :
    ∃ T' h' locs' r', Stand p l e room_1 s m args below meth c T' locs' 1 5 ∧ T'.heap = h' ∧ Fr n0 locs' ∧ own_S Z h' n0 b (7 : Int32) r' 7 ∧ ∀ t, Steps p.tables e below (T'.setTop (mkF m 84 #[.val (.int f), .val (.ref b), .val (.int r')] [])) t → Steps p.tables e below (T0.setTop (mkF m 75 #[.val (.int f), .val (.ref b), .val (.int r)] [])) t := by
  obtain ⟨B0, Ex, Fi, Fp, Fs, lo, up⟩ := B
  have sg1 : ∀ t, Steps p.tables e below (T0.setTop (mkF m 80 #[.val (.int f), .val (.ref b), .val (.int r)] [(.int r), (.int (7 : Int32)), (.int f), (.ref b)])) t → Steps p.tables e below (T0.setTop (mkF m 75 #[.val (.int f), .val (.ref b), .val (.int r)] [])) t := by
    intro t kt
    refine XS.aloadN X0.here hx rfl (hb hby at_75) rfl rfl ?_
    show Steps p.tables e below (T0.setTop (mkF m 76 #[.val (.int f), .val (.ref b), .val (.int r)] [(.ref b)])) _
    refine XS.iloadN X0.here hx rfl (hb hby at_76) rfl ?_
    show Steps p.tables e below (T0.setTop (mkF m 77 #[.val (.int f), .val (.ref b), .val (.int r)] [(.int f), (.ref b)])) _
    refine XS.bipush X0.here hx rfl (hb hby at_77) ?_
    show Steps p.tables e below (T0.setTop (mkF m 79 #[.val (.int f), .val (.ref b), .val (.int r)] [(.int (7 : Int32)), (.int f), (.ref b)])) _
    refine XS.iloadN X0.here hx rfl (hb hby at_79) rfl ?_
    exact kt
  obtain ⟨_, _, ⟨T2, L2, k2, n2⟩, -, X2, ⟨Lc2, hQ2, l2, y2, z2⟩, st2⟩ := Jvm.LawKit.callS X0 hx (y := (⟨"com/example/handoff/handoff/WorkerTurnsTookPinLaw", "step", "(Lcom/example/handoff/handoff/WorkerTurns;III)I"⟩ : MethodName)) hown (mvT hZ (hw _ (List.mem_of_getElem? (i := 44) rfl))) (mvT hZ (hw _ (List.mem_of_getElem? (i := 45) rfl))) (mvT hZ (hw _ (List.mem_of_getElem? (i := 46) rfl))) (mvT hZ (hw _ (List.mem_of_getElem? (i := 47) rfl))) (by decide) (backOf (W := 0) (rm9 l Z a0 hw [] b f (7 : Int32) r (6 : Int32) h0 n0 B0 (by decide) lo (Int.le_trans up (by decide)) Ex Fi Fp Fs g_b) hZ (hw _ (List.mem_of_getElem? (i := 47) rfl)) (hw _ (List.mem_of_getElem? (i := 46) rfl)) (by decide) (by decide)) (g := (mkF m 80 #[.val (.int f), .val (.ref b), .val (.int r)] [(.int r), (.int (7 : Int32)), (.int f), (.ref b)])) rfl (by rw [hml]; rfl) (argsL := [(.ref b), (.int f), (.int (7 : Int32)), (.int r)]) (rest := []) (lenOf pd_5 rfl) rfl (by show 2 * 0 + _ ≤ _; exact Nat.le_of_eq rfl) (hb hby at_80) (fun _ _ => ⟨rfl, e0, (by decide : 1 + 0 ≤ _), (by decide : 5 + 0 ≤ _)⟩)
  dsimp only [Pt.U, Pt.locs, Pt.cells, Pt.slots] at X2 l2 y2 z2 st2 hQ2
  subst l2 y2 z2
  obtain ⟨⟨r1, rfl, lo1, up1, Fs2⟩, Nq2, Kq2, Ex2, Fi2, Fp2⟩ := hQ2
  have N2 := Fr.app N0 Nq2
  have sg3 : ∀ t, Steps p.tables e below (T2.setTop (mkF m 84 #[.val (.int f), .val (.ref b), .val (.int r1)] [])) t → Steps p.tables e below (T2.setTop (mkF m 83 #[.val (.int f), .val (.ref b), .val (.int r)] [(.int r1)])) t := by
    intro t kt
    refine XS.istoreN X2.here hx rfl (hb hby at_83) rfl (l' := #[.val (.int f), .val (.ref b), .val (.int r1)]) rfl ?_
    exact kt
  refine ⟨T2, _, _, r1, X2, rfl, N2, ⟨Nat.le_trans B0 Kq2.1, Ex2, Fi2, Fp2, Fs2, lo1, Int.le_trans up1 (Int.add_le_add_right up 1)⟩, fun t kt => ?_⟩
  refine sg1 _ ?_
  refine st2 _ ?_
  refine sg3 _ ?_
  exact kt
set_option maxRecDepth 65536 in
set_option maxHeartbeats 40000000 in
theorem own_s8 {p : Program} {l : Launch} {e : Env} {s : State} {m : MethodId} {args : Array Value} {below : List Frame} {meth : Method} {c : Code} {T0 : State} {locs : List Loc} {Z : State} {h0 : Heap} {a0 : Array Value} {n0 : Nat} (X0 : Stand p l e room_1 s m args below meth c T0 locs 1 5) (hx : p.tables.exec = Jvm.exec) (hZ : Z.Warmed39 s.vm) (hw : ∀ d ∈ tables_1, d.before a0 Z = true) (hby : c.code = code) (hml : c.maxLocals = 3) (hown : s.vm.findClass "com/example/handoff/handoff/WorkerTurnsTookPinLaw" = some m.cls) (e0 : T0.heap = h0) (N0 : Fr n0 locs) (b : Addr) (g_b : n0 ≤ b) (f r : Int32) (B : own_S Z h0 n0 b (7 : Int32) r 7) :
    ∃ T' h' locs' r', Stand p l e room_1 s m args below meth c T' locs' 1 5 ∧ T'.heap = h' ∧ Fr n0 locs' ∧ own_S Z h' n0 b (8 : Int32) r' 8 ∧ ∀ t, Steps p.tables e below (T'.setTop (mkF m 93 #[.val (.int f), .val (.ref b), .val (.int r')] [])) t → Steps p.tables e below (T0.setTop (mkF m 84 #[.val (.int f), .val (.ref b), .val (.int r)] [])) t := by
  obtain ⟨B0, Ex, Fi, Fp, Fs, lo, up⟩ := B
  have sg1 : ∀ t, Steps p.tables e below (T0.setTop (mkF m 89 #[.val (.int f), .val (.ref b), .val (.int r)] [(.int r), (.int (8 : Int32)), (.int f), (.ref b)])) t → Steps p.tables e below (T0.setTop (mkF m 84 #[.val (.int f), .val (.ref b), .val (.int r)] [])) t := by
    intro t kt
    refine XS.aloadN X0.here hx rfl (hb hby at_84) rfl rfl ?_
    show Steps p.tables e below (T0.setTop (mkF m 85 #[.val (.int f), .val (.ref b), .val (.int r)] [(.ref b)])) _
    refine XS.iloadN X0.here hx rfl (hb hby at_85) rfl ?_
    show Steps p.tables e below (T0.setTop (mkF m 86 #[.val (.int f), .val (.ref b), .val (.int r)] [(.int f), (.ref b)])) _
    refine XS.bipush X0.here hx rfl (hb hby at_86) ?_
    show Steps p.tables e below (T0.setTop (mkF m 88 #[.val (.int f), .val (.ref b), .val (.int r)] [(.int (8 : Int32)), (.int f), (.ref b)])) _
    refine XS.iloadN X0.here hx rfl (hb hby at_88) rfl ?_
    exact kt
  obtain ⟨_, _, ⟨T2, L2, k2, n2⟩, -, X2, ⟨Lc2, hQ2, l2, y2, z2⟩, st2⟩ := Jvm.LawKit.callS X0 hx (y := (⟨"com/example/handoff/handoff/WorkerTurnsTookPinLaw", "step", "(Lcom/example/handoff/handoff/WorkerTurns;III)I"⟩ : MethodName)) hown (mvT hZ (hw _ (List.mem_of_getElem? (i := 44) rfl))) (mvT hZ (hw _ (List.mem_of_getElem? (i := 45) rfl))) (mvT hZ (hw _ (List.mem_of_getElem? (i := 46) rfl))) (mvT hZ (hw _ (List.mem_of_getElem? (i := 47) rfl))) (by decide) (backOf (W := 0) (rm9 l Z a0 hw [] b f (8 : Int32) r (7 : Int32) h0 n0 B0 (by decide) lo (Int.le_trans up (by decide)) Ex Fi Fp Fs g_b) hZ (hw _ (List.mem_of_getElem? (i := 47) rfl)) (hw _ (List.mem_of_getElem? (i := 46) rfl)) (by decide) (by decide)) (g := (mkF m 89 #[.val (.int f), .val (.ref b), .val (.int r)] [(.int r), (.int (8 : Int32)), (.int f), (.ref b)])) rfl (by rw [hml]; rfl) (argsL := [(.ref b), (.int f), (.int (8 : Int32)), (.int r)]) (rest := []) (lenOf pd_5 rfl) rfl (by show 2 * 0 + _ ≤ _; exact Nat.le_of_eq rfl) (hb hby at_89) (fun _ _ => ⟨rfl, e0, (by decide : 1 + 0 ≤ _), (by decide : 5 + 0 ≤ _)⟩)
  dsimp only [Pt.U, Pt.locs, Pt.cells, Pt.slots] at X2 l2 y2 z2 st2 hQ2
  subst l2 y2 z2
  obtain ⟨⟨r1, rfl, lo1, up1, Fs2⟩, Nq2, Kq2, Ex2, Fi2, Fp2⟩ := hQ2
  have N2 := Fr.app N0 Nq2
  have sg3 : ∀ t, Steps p.tables e below (T2.setTop (mkF m 93 #[.val (.int f), .val (.ref b), .val (.int r1)] [])) t → Steps p.tables e below (T2.setTop (mkF m 92 #[.val (.int f), .val (.ref b), .val (.int r)] [(.int r1)])) t := by
    intro t kt
    refine XS.istoreN X2.here hx rfl (hb hby at_92) rfl (l' := #[.val (.int f), .val (.ref b), .val (.int r1)]) rfl ?_
    exact kt
  refine ⟨T2, _, _, r1, X2, rfl, N2, ⟨Nat.le_trans B0 Kq2.1, Ex2, Fi2, Fp2, Fs2, lo1, Int.le_trans up1 (Int.add_le_add_right up 1)⟩, fun t kt => ?_⟩
  refine sg1 _ ?_
  refine st2 _ ?_
  refine sg3 _ ?_
  exact kt
set_option maxRecDepth 65536 in
set_option maxHeartbeats 40000000 in
theorem own_s9 {p : Program} {l : Launch} {e : Env} {s : State} {m : MethodId} {args : Array Value} {below : List Frame} {meth : Method} {c : Code} {T0 : State} {locs : List Loc} {Z : State} {h0 : Heap} {a0 : Array Value} {n0 : Nat} (X0 : Stand p l e room_1 s m args below meth c T0 locs 1 5) (hx : p.tables.exec = Jvm.exec) (hZ : Z.Warmed39 s.vm) (hw : ∀ d ∈ tables_1, d.before a0 Z = true) (hby : c.code = code) (hml : c.maxLocals = 3) (hown : s.vm.findClass "com/example/handoff/handoff/WorkerTurnsTookPinLaw" = some m.cls) (e0 : T0.heap = h0) (N0 : Fr n0 locs) (b : Addr) (g_b : n0 ≤ b) (f r : Int32) (B : own_S Z h0 n0 b (8 : Int32) r 8) :
    ∃ T' h' locs' r', Stand p l e room_1 s m args below meth c T' locs' 1 5 ∧ T'.heap = h' ∧ Fr n0 locs' ∧ own_S Z h' n0 b (9 : Int32) r' 9 ∧ ∀ t, Steps p.tables e below (T'.setTop (mkF m 102 #[.val (.int f), .val (.ref b), .val (.int r')] [])) t → Steps p.tables e below (T0.setTop (mkF m 93 #[.val (.int f), .val (.ref b), .val (.int r)] [])) t := by
  obtain ⟨B0, Ex, Fi, Fp, Fs, lo, up⟩ := B
  have sg1 : ∀ t, Steps p.tables e below (T0.setTop (mkF m 98 #[.val (.int f), .val (.ref b), .val (.int r)] [(.int r), (.int (9 : Int32)), (.int f), (.ref b)])) t → Steps p.tables e below (T0.setTop (mkF m 93 #[.val (.int f), .val (.ref b), .val (.int r)] [])) t := by
    intro t kt
    refine XS.aloadN X0.here hx rfl (hb hby at_93) rfl rfl ?_
    show Steps p.tables e below (T0.setTop (mkF m 94 #[.val (.int f), .val (.ref b), .val (.int r)] [(.ref b)])) _
    refine XS.iloadN X0.here hx rfl (hb hby at_94) rfl ?_
    show Steps p.tables e below (T0.setTop (mkF m 95 #[.val (.int f), .val (.ref b), .val (.int r)] [(.int f), (.ref b)])) _
    refine XS.bipush X0.here hx rfl (hb hby at_95) ?_
    show Steps p.tables e below (T0.setTop (mkF m 97 #[.val (.int f), .val (.ref b), .val (.int r)] [(.int (9 : Int32)), (.int f), (.ref b)])) _
    refine XS.iloadN X0.here hx rfl (hb hby at_97) rfl ?_
    exact kt
  obtain ⟨_, _, ⟨T2, L2, k2, n2⟩, -, X2, ⟨Lc2, hQ2, l2, y2, z2⟩, st2⟩ := Jvm.LawKit.callS X0 hx (y := (⟨"com/example/handoff/handoff/WorkerTurnsTookPinLaw", "step", "(Lcom/example/handoff/handoff/WorkerTurns;III)I"⟩ : MethodName)) hown (mvT hZ (hw _ (List.mem_of_getElem? (i := 44) rfl))) (mvT hZ (hw _ (List.mem_of_getElem? (i := 45) rfl))) (mvT hZ (hw _ (List.mem_of_getElem? (i := 46) rfl))) (mvT hZ (hw _ (List.mem_of_getElem? (i := 47) rfl))) (by decide) (backOf (W := 0) (rm9 l Z a0 hw [] b f (9 : Int32) r (8 : Int32) h0 n0 B0 (by decide) lo (Int.le_trans up (by decide)) Ex Fi Fp Fs g_b) hZ (hw _ (List.mem_of_getElem? (i := 47) rfl)) (hw _ (List.mem_of_getElem? (i := 46) rfl)) (by decide) (by decide)) (g := (mkF m 98 #[.val (.int f), .val (.ref b), .val (.int r)] [(.int r), (.int (9 : Int32)), (.int f), (.ref b)])) rfl (by rw [hml]; rfl) (argsL := [(.ref b), (.int f), (.int (9 : Int32)), (.int r)]) (rest := []) (lenOf pd_5 rfl) rfl (by show 2 * 0 + _ ≤ _; exact Nat.le_of_eq rfl) (hb hby at_98) (fun _ _ => ⟨rfl, e0, (by decide : 1 + 0 ≤ _), (by decide : 5 + 0 ≤ _)⟩)
  dsimp only [Pt.U, Pt.locs, Pt.cells, Pt.slots] at X2 l2 y2 z2 st2 hQ2
  subst l2 y2 z2
  obtain ⟨⟨r1, rfl, lo1, up1, Fs2⟩, Nq2, Kq2, Ex2, Fi2, Fp2⟩ := hQ2
  have N2 := Fr.app N0 Nq2
  have sg3 : ∀ t, Steps p.tables e below (T2.setTop (mkF m 102 #[.val (.int f), .val (.ref b), .val (.int r1)] [])) t → Steps p.tables e below (T2.setTop (mkF m 101 #[.val (.int f), .val (.ref b), .val (.int r)] [(.int r1)])) t := by
    intro t kt
    refine XS.istoreN X2.here hx rfl (hb hby at_101) rfl (l' := #[.val (.int f), .val (.ref b), .val (.int r1)]) rfl ?_
    exact kt
  refine ⟨T2, _, _, r1, X2, rfl, N2, ⟨Nat.le_trans B0 Kq2.1, Ex2, Fi2, Fp2, Fs2, lo1, Int.le_trans up1 (Int.add_le_add_right up 1)⟩, fun t kt => ?_⟩
  refine sg1 _ ?_
  refine st2 _ ?_
  refine sg3 _ ?_
  exact kt
set_option maxRecDepth 65536 in
set_option maxHeartbeats 40000000 in
theorem own_s10 {p : Program} {l : Launch} {e : Env} {s : State} {m : MethodId} {args : Array Value} {below : List Frame} {meth : Method} {c : Code} {T0 : State} {locs : List Loc} {Z : State} {h0 : Heap} {a0 : Array Value} {n0 : Nat} (X0 : Stand p l e room_1 s m args below meth c T0 locs 1 5) (hx : p.tables.exec = Jvm.exec) (hZ : Z.Warmed39 s.vm) (hw : ∀ d ∈ tables_1, d.before a0 Z = true) (hby : c.code = code) (hml : c.maxLocals = 3) (hown : s.vm.findClass "com/example/handoff/handoff/WorkerTurnsTookPinLaw" = some m.cls) (e0 : T0.heap = h0) (N0 : Fr n0 locs) (b : Addr) (g_b : n0 ≤ b) (f r : Int32) (B : own_S Z h0 n0 b (9 : Int32) r 9) :
    ∃ T' h' locs' r', Stand p l e room_1 s m args below meth c T' locs' 1 5 ∧ T'.heap = h' ∧ Fr n0 locs' ∧ own_S Z h' n0 b (10 : Int32) r' 10 ∧ ∀ t, Steps p.tables e below (T'.setTop (mkF m 111 #[.val (.int f), .val (.ref b), .val (.int r')] [])) t → Steps p.tables e below (T0.setTop (mkF m 102 #[.val (.int f), .val (.ref b), .val (.int r)] [])) t := by
  obtain ⟨B0, Ex, Fi, Fp, Fs, lo, up⟩ := B
  have sg1 : ∀ t, Steps p.tables e below (T0.setTop (mkF m 107 #[.val (.int f), .val (.ref b), .val (.int r)] [(.int r), (.int (10 : Int32)), (.int f), (.ref b)])) t → Steps p.tables e below (T0.setTop (mkF m 102 #[.val (.int f), .val (.ref b), .val (.int r)] [])) t := by
    intro t kt
    refine XS.aloadN X0.here hx rfl (hb hby at_102) rfl rfl ?_
    show Steps p.tables e below (T0.setTop (mkF m 103 #[.val (.int f), .val (.ref b), .val (.int r)] [(.ref b)])) _
    refine XS.iloadN X0.here hx rfl (hb hby at_103) rfl ?_
    show Steps p.tables e below (T0.setTop (mkF m 104 #[.val (.int f), .val (.ref b), .val (.int r)] [(.int f), (.ref b)])) _
    refine XS.bipush X0.here hx rfl (hb hby at_104) ?_
    show Steps p.tables e below (T0.setTop (mkF m 106 #[.val (.int f), .val (.ref b), .val (.int r)] [(.int (10 : Int32)), (.int f), (.ref b)])) _
    refine XS.iloadN X0.here hx rfl (hb hby at_106) rfl ?_
    exact kt
  obtain ⟨_, _, ⟨T2, L2, k2, n2⟩, -, X2, ⟨Lc2, hQ2, l2, y2, z2⟩, st2⟩ := Jvm.LawKit.callS X0 hx (y := (⟨"com/example/handoff/handoff/WorkerTurnsTookPinLaw", "step", "(Lcom/example/handoff/handoff/WorkerTurns;III)I"⟩ : MethodName)) hown (mvT hZ (hw _ (List.mem_of_getElem? (i := 44) rfl))) (mvT hZ (hw _ (List.mem_of_getElem? (i := 45) rfl))) (mvT hZ (hw _ (List.mem_of_getElem? (i := 46) rfl))) (mvT hZ (hw _ (List.mem_of_getElem? (i := 47) rfl))) (by decide) (backOf (W := 0) (rm9 l Z a0 hw [] b f (10 : Int32) r (9 : Int32) h0 n0 B0 (by decide) lo (Int.le_trans up (by decide)) Ex Fi Fp Fs g_b) hZ (hw _ (List.mem_of_getElem? (i := 47) rfl)) (hw _ (List.mem_of_getElem? (i := 46) rfl)) (by decide) (by decide)) (g := (mkF m 107 #[.val (.int f), .val (.ref b), .val (.int r)] [(.int r), (.int (10 : Int32)), (.int f), (.ref b)])) rfl (by rw [hml]; rfl) (argsL := [(.ref b), (.int f), (.int (10 : Int32)), (.int r)]) (rest := []) (lenOf pd_5 rfl) rfl (by show 2 * 0 + _ ≤ _; exact Nat.le_of_eq rfl) (hb hby at_107) (fun _ _ => ⟨rfl, e0, (by decide : 1 + 0 ≤ _), (by decide : 5 + 0 ≤ _)⟩)
  dsimp only [Pt.U, Pt.locs, Pt.cells, Pt.slots] at X2 l2 y2 z2 st2 hQ2
  subst l2 y2 z2
  obtain ⟨⟨r1, rfl, lo1, up1, Fs2⟩, Nq2, Kq2, Ex2, Fi2, Fp2⟩ := hQ2
  have N2 := Fr.app N0 Nq2
  have sg3 : ∀ t, Steps p.tables e below (T2.setTop (mkF m 111 #[.val (.int f), .val (.ref b), .val (.int r1)] [])) t → Steps p.tables e below (T2.setTop (mkF m 110 #[.val (.int f), .val (.ref b), .val (.int r)] [(.int r1)])) t := by
    intro t kt
    refine XS.istoreN X2.here hx rfl (hb hby at_110) rfl (l' := #[.val (.int f), .val (.ref b), .val (.int r1)]) rfl ?_
    exact kt
  refine ⟨T2, _, _, r1, X2, rfl, N2, ⟨Nat.le_trans B0 Kq2.1, Ex2, Fi2, Fp2, Fs2, lo1, Int.le_trans up1 (Int.add_le_add_right up 1)⟩, fun t kt => ?_⟩
  refine sg1 _ ?_
  refine st2 _ ?_
  refine sg3 _ ?_
  exact kt
set_option maxRecDepth 65536 in
set_option maxHeartbeats 40000000 in
theorem own_s11 {p : Program} {l : Launch} {e : Env} {s : State} {m : MethodId} {args : Array Value} {below : List Frame} {meth : Method} {c : Code} {T0 : State} {locs : List Loc} {Z : State} {h0 : Heap} {a0 : Array Value} {n0 : Nat} (X0 : Stand p l e room_1 s m args below meth c T0 locs 1 5) (hx : p.tables.exec = Jvm.exec) (hZ : Z.Warmed39 s.vm) (hw : ∀ d ∈ tables_1, d.before a0 Z = true) (hby : c.code = code) (hml : c.maxLocals = 3) (hown : s.vm.findClass "com/example/handoff/handoff/WorkerTurnsTookPinLaw" = some m.cls) (e0 : T0.heap = h0) (N0 : Fr n0 locs) (b : Addr) (g_b : n0 ≤ b) (f r : Int32) (B : own_S Z h0 n0 b (10 : Int32) r 10) :
    ∃ T' h' locs' r', Stand p l e room_1 s m args below meth c T' locs' 1 5 ∧ T'.heap = h' ∧ Fr n0 locs' ∧ own_S Z h' n0 b (11 : Int32) r' 11 ∧ ∀ t, Steps p.tables e below (T'.setTop (mkF m 120 #[.val (.int f), .val (.ref b), .val (.int r')] [])) t → Steps p.tables e below (T0.setTop (mkF m 111 #[.val (.int f), .val (.ref b), .val (.int r)] [])) t := by
  obtain ⟨B0, Ex, Fi, Fp, Fs, lo, up⟩ := B
  have sg1 : ∀ t, Steps p.tables e below (T0.setTop (mkF m 116 #[.val (.int f), .val (.ref b), .val (.int r)] [(.int r), (.int (11 : Int32)), (.int f), (.ref b)])) t → Steps p.tables e below (T0.setTop (mkF m 111 #[.val (.int f), .val (.ref b), .val (.int r)] [])) t := by
    intro t kt
    refine XS.aloadN X0.here hx rfl (hb hby at_111) rfl rfl ?_
    show Steps p.tables e below (T0.setTop (mkF m 112 #[.val (.int f), .val (.ref b), .val (.int r)] [(.ref b)])) _
    refine XS.iloadN X0.here hx rfl (hb hby at_112) rfl ?_
    show Steps p.tables e below (T0.setTop (mkF m 113 #[.val (.int f), .val (.ref b), .val (.int r)] [(.int f), (.ref b)])) _
    refine XS.bipush X0.here hx rfl (hb hby at_113) ?_
    show Steps p.tables e below (T0.setTop (mkF m 115 #[.val (.int f), .val (.ref b), .val (.int r)] [(.int (11 : Int32)), (.int f), (.ref b)])) _
    refine XS.iloadN X0.here hx rfl (hb hby at_115) rfl ?_
    exact kt
  obtain ⟨_, _, ⟨T2, L2, k2, n2⟩, -, X2, ⟨Lc2, hQ2, l2, y2, z2⟩, st2⟩ := Jvm.LawKit.callS X0 hx (y := (⟨"com/example/handoff/handoff/WorkerTurnsTookPinLaw", "step", "(Lcom/example/handoff/handoff/WorkerTurns;III)I"⟩ : MethodName)) hown (mvT hZ (hw _ (List.mem_of_getElem? (i := 44) rfl))) (mvT hZ (hw _ (List.mem_of_getElem? (i := 45) rfl))) (mvT hZ (hw _ (List.mem_of_getElem? (i := 46) rfl))) (mvT hZ (hw _ (List.mem_of_getElem? (i := 47) rfl))) (by decide) (backOf (W := 0) (rm9 l Z a0 hw [] b f (11 : Int32) r (10 : Int32) h0 n0 B0 (by decide) lo (Int.le_trans up (by decide)) Ex Fi Fp Fs g_b) hZ (hw _ (List.mem_of_getElem? (i := 47) rfl)) (hw _ (List.mem_of_getElem? (i := 46) rfl)) (by decide) (by decide)) (g := (mkF m 116 #[.val (.int f), .val (.ref b), .val (.int r)] [(.int r), (.int (11 : Int32)), (.int f), (.ref b)])) rfl (by rw [hml]; rfl) (argsL := [(.ref b), (.int f), (.int (11 : Int32)), (.int r)]) (rest := []) (lenOf pd_5 rfl) rfl (by show 2 * 0 + _ ≤ _; exact Nat.le_of_eq rfl) (hb hby at_116) (fun _ _ => ⟨rfl, e0, (by decide : 1 + 0 ≤ _), (by decide : 5 + 0 ≤ _)⟩)
  dsimp only [Pt.U, Pt.locs, Pt.cells, Pt.slots] at X2 l2 y2 z2 st2 hQ2
  subst l2 y2 z2
  obtain ⟨⟨r1, rfl, lo1, up1, Fs2⟩, Nq2, Kq2, Ex2, Fi2, Fp2⟩ := hQ2
  have N2 := Fr.app N0 Nq2
  have sg3 : ∀ t, Steps p.tables e below (T2.setTop (mkF m 120 #[.val (.int f), .val (.ref b), .val (.int r1)] [])) t → Steps p.tables e below (T2.setTop (mkF m 119 #[.val (.int f), .val (.ref b), .val (.int r)] [(.int r1)])) t := by
    intro t kt
    refine XS.istoreN X2.here hx rfl (hb hby at_119) rfl (l' := #[.val (.int f), .val (.ref b), .val (.int r1)]) rfl ?_
    exact kt
  refine ⟨T2, _, _, r1, X2, rfl, N2, ⟨Nat.le_trans B0 Kq2.1, Ex2, Fi2, Fp2, Fs2, lo1, Int.le_trans up1 (Int.add_le_add_right up 1)⟩, fun t kt => ?_⟩
  refine sg1 _ ?_
  refine st2 _ ?_
  refine sg3 _ ?_
  exact kt
set_option maxRecDepth 65536 in
set_option maxHeartbeats 40000000 in
theorem own_s12 {p : Program} {l : Launch} {e : Env} {s : State} {m : MethodId} {args : Array Value} {below : List Frame} {meth : Method} {c : Code} {T0 : State} {locs : List Loc} {Z : State} {h0 : Heap} {a0 : Array Value} {n0 : Nat} (X0 : Stand p l e room_1 s m args below meth c T0 locs 1 5) (hx : p.tables.exec = Jvm.exec) (hZ : Z.Warmed39 s.vm) (hw : ∀ d ∈ tables_1, d.before a0 Z = true) (hby : c.code = code) (hml : c.maxLocals = 3) (hown : s.vm.findClass "com/example/handoff/handoff/WorkerTurnsTookPinLaw" = some m.cls) (e0 : T0.heap = h0) (N0 : Fr n0 locs) (b : Addr) (g_b : n0 ≤ b) (f r : Int32) (B : own_S Z h0 n0 b (11 : Int32) r 11) :
    ∃ T' h' locs' r', Stand p l e room_1 s m args below meth c T' locs' 1 5 ∧ T'.heap = h' ∧ Fr n0 locs' ∧ own_S Z h' n0 b (12 : Int32) r' 12 ∧ ∀ t, Steps p.tables e below (T'.setTop (mkF m 129 #[.val (.int f), .val (.ref b), .val (.int r')] [])) t → Steps p.tables e below (T0.setTop (mkF m 120 #[.val (.int f), .val (.ref b), .val (.int r)] [])) t := by
  obtain ⟨B0, Ex, Fi, Fp, Fs, lo, up⟩ := B
  have sg1 : ∀ t, Steps p.tables e below (T0.setTop (mkF m 125 #[.val (.int f), .val (.ref b), .val (.int r)] [(.int r), (.int (12 : Int32)), (.int f), (.ref b)])) t → Steps p.tables e below (T0.setTop (mkF m 120 #[.val (.int f), .val (.ref b), .val (.int r)] [])) t := by
    intro t kt
    refine XS.aloadN X0.here hx rfl (hb hby at_120) rfl rfl ?_
    show Steps p.tables e below (T0.setTop (mkF m 121 #[.val (.int f), .val (.ref b), .val (.int r)] [(.ref b)])) _
    refine XS.iloadN X0.here hx rfl (hb hby at_121) rfl ?_
    show Steps p.tables e below (T0.setTop (mkF m 122 #[.val (.int f), .val (.ref b), .val (.int r)] [(.int f), (.ref b)])) _
    refine XS.bipush X0.here hx rfl (hb hby at_122) ?_
    show Steps p.tables e below (T0.setTop (mkF m 124 #[.val (.int f), .val (.ref b), .val (.int r)] [(.int (12 : Int32)), (.int f), (.ref b)])) _
    refine XS.iloadN X0.here hx rfl (hb hby at_124) rfl ?_
    exact kt
  obtain ⟨_, _, ⟨T2, L2, k2, n2⟩, -, X2, ⟨Lc2, hQ2, l2, y2, z2⟩, st2⟩ := Jvm.LawKit.callS X0 hx (y := (⟨"com/example/handoff/handoff/WorkerTurnsTookPinLaw", "step", "(Lcom/example/handoff/handoff/WorkerTurns;III)I"⟩ : MethodName)) hown (mvT hZ (hw _ (List.mem_of_getElem? (i := 44) rfl))) (mvT hZ (hw _ (List.mem_of_getElem? (i := 45) rfl))) (mvT hZ (hw _ (List.mem_of_getElem? (i := 46) rfl))) (mvT hZ (hw _ (List.mem_of_getElem? (i := 47) rfl))) (by decide) (backOf (W := 0) (rm9 l Z a0 hw [] b f (12 : Int32) r (11 : Int32) h0 n0 B0 (by decide) lo (Int.le_trans up (by decide)) Ex Fi Fp Fs g_b) hZ (hw _ (List.mem_of_getElem? (i := 47) rfl)) (hw _ (List.mem_of_getElem? (i := 46) rfl)) (by decide) (by decide)) (g := (mkF m 125 #[.val (.int f), .val (.ref b), .val (.int r)] [(.int r), (.int (12 : Int32)), (.int f), (.ref b)])) rfl (by rw [hml]; rfl) (argsL := [(.ref b), (.int f), (.int (12 : Int32)), (.int r)]) (rest := []) (lenOf pd_5 rfl) rfl (by show 2 * 0 + _ ≤ _; exact Nat.le_of_eq rfl) (hb hby at_125) (fun _ _ => ⟨rfl, e0, (by decide : 1 + 0 ≤ _), (by decide : 5 + 0 ≤ _)⟩)
  dsimp only [Pt.U, Pt.locs, Pt.cells, Pt.slots] at X2 l2 y2 z2 st2 hQ2
  subst l2 y2 z2
  obtain ⟨⟨r1, rfl, lo1, up1, Fs2⟩, Nq2, Kq2, Ex2, Fi2, Fp2⟩ := hQ2
  have N2 := Fr.app N0 Nq2
  have sg3 : ∀ t, Steps p.tables e below (T2.setTop (mkF m 129 #[.val (.int f), .val (.ref b), .val (.int r1)] [])) t → Steps p.tables e below (T2.setTop (mkF m 128 #[.val (.int f), .val (.ref b), .val (.int r)] [(.int r1)])) t := by
    intro t kt
    refine XS.istoreN X2.here hx rfl (hb hby at_128) rfl (l' := #[.val (.int f), .val (.ref b), .val (.int r1)]) rfl ?_
    exact kt
  refine ⟨T2, _, _, r1, X2, rfl, N2, ⟨Nat.le_trans B0 Kq2.1, Ex2, Fi2, Fp2, Fs2, lo1, Int.le_trans up1 (Int.add_le_add_right up 1)⟩, fun t kt => ?_⟩
  refine sg1 _ ?_
  refine st2 _ ?_
  refine sg3 _ ?_
  exact kt
set_option maxRecDepth 65536 in
set_option maxHeartbeats 40000000 in
theorem own_s13 {p : Program} {l : Launch} {e : Env} {s : State} {m : MethodId} {args : Array Value} {below : List Frame} {meth : Method} {c : Code} {T0 : State} {locs : List Loc} {Z : State} {h0 : Heap} {a0 : Array Value} {n0 : Nat} (X0 : Stand p l e room_1 s m args below meth c T0 locs 1 5) (hx : p.tables.exec = Jvm.exec) (hZ : Z.Warmed39 s.vm) (hw : ∀ d ∈ tables_1, d.before a0 Z = true) (hby : c.code = code) (hml : c.maxLocals = 3) (hown : s.vm.findClass "com/example/handoff/handoff/WorkerTurnsTookPinLaw" = some m.cls) (e0 : T0.heap = h0) (N0 : Fr n0 locs) (b : Addr) (g_b : n0 ≤ b) (f r : Int32) (B : own_S Z h0 n0 b (12 : Int32) r 12) :
    ∃ T' h' locs' r', Stand p l e room_1 s m args below meth c T' locs' 1 5 ∧ T'.heap = h' ∧ Fr n0 locs' ∧ own_S Z h' n0 b (13 : Int32) r' 13 ∧ ∀ t, Steps p.tables e below (T'.setTop (mkF m 138 #[.val (.int f), .val (.ref b), .val (.int r')] [])) t → Steps p.tables e below (T0.setTop (mkF m 129 #[.val (.int f), .val (.ref b), .val (.int r)] [])) t := by
  obtain ⟨B0, Ex, Fi, Fp, Fs, lo, up⟩ := B
  have sg1 : ∀ t, Steps p.tables e below (T0.setTop (mkF m 134 #[.val (.int f), .val (.ref b), .val (.int r)] [(.int r), (.int (13 : Int32)), (.int f), (.ref b)])) t → Steps p.tables e below (T0.setTop (mkF m 129 #[.val (.int f), .val (.ref b), .val (.int r)] [])) t := by
    intro t kt
    refine XS.aloadN X0.here hx rfl (hb hby at_129) rfl rfl ?_
    show Steps p.tables e below (T0.setTop (mkF m 130 #[.val (.int f), .val (.ref b), .val (.int r)] [(.ref b)])) _
    refine XS.iloadN X0.here hx rfl (hb hby at_130) rfl ?_
    show Steps p.tables e below (T0.setTop (mkF m 131 #[.val (.int f), .val (.ref b), .val (.int r)] [(.int f), (.ref b)])) _
    refine XS.bipush X0.here hx rfl (hb hby at_131) ?_
    show Steps p.tables e below (T0.setTop (mkF m 133 #[.val (.int f), .val (.ref b), .val (.int r)] [(.int (13 : Int32)), (.int f), (.ref b)])) _
    refine XS.iloadN X0.here hx rfl (hb hby at_133) rfl ?_
    exact kt
  obtain ⟨_, _, ⟨T2, L2, k2, n2⟩, -, X2, ⟨Lc2, hQ2, l2, y2, z2⟩, st2⟩ := Jvm.LawKit.callS X0 hx (y := (⟨"com/example/handoff/handoff/WorkerTurnsTookPinLaw", "step", "(Lcom/example/handoff/handoff/WorkerTurns;III)I"⟩ : MethodName)) hown (mvT hZ (hw _ (List.mem_of_getElem? (i := 44) rfl))) (mvT hZ (hw _ (List.mem_of_getElem? (i := 45) rfl))) (mvT hZ (hw _ (List.mem_of_getElem? (i := 46) rfl))) (mvT hZ (hw _ (List.mem_of_getElem? (i := 47) rfl))) (by decide) (backOf (W := 0) (rm9 l Z a0 hw [] b f (13 : Int32) r (12 : Int32) h0 n0 B0 (by decide) lo (Int.le_trans up (by decide)) Ex Fi Fp Fs g_b) hZ (hw _ (List.mem_of_getElem? (i := 47) rfl)) (hw _ (List.mem_of_getElem? (i := 46) rfl)) (by decide) (by decide)) (g := (mkF m 134 #[.val (.int f), .val (.ref b), .val (.int r)] [(.int r), (.int (13 : Int32)), (.int f), (.ref b)])) rfl (by rw [hml]; rfl) (argsL := [(.ref b), (.int f), (.int (13 : Int32)), (.int r)]) (rest := []) (lenOf pd_5 rfl) rfl (by show 2 * 0 + _ ≤ _; exact Nat.le_of_eq rfl) (hb hby at_134) (fun _ _ => ⟨rfl, e0, (by decide : 1 + 0 ≤ _), (by decide : 5 + 0 ≤ _)⟩)
  dsimp only [Pt.U, Pt.locs, Pt.cells, Pt.slots] at X2 l2 y2 z2 st2 hQ2
  subst l2 y2 z2
  obtain ⟨⟨r1, rfl, lo1, up1, Fs2⟩, Nq2, Kq2, Ex2, Fi2, Fp2⟩ := hQ2
  have N2 := Fr.app N0 Nq2
  have sg3 : ∀ t, Steps p.tables e below (T2.setTop (mkF m 138 #[.val (.int f), .val (.ref b), .val (.int r1)] [])) t → Steps p.tables e below (T2.setTop (mkF m 137 #[.val (.int f), .val (.ref b), .val (.int r)] [(.int r1)])) t := by
    intro t kt
    refine XS.istoreN X2.here hx rfl (hb hby at_137) rfl (l' := #[.val (.int f), .val (.ref b), .val (.int r1)]) rfl ?_
    exact kt
  refine ⟨T2, _, _, r1, X2, rfl, N2, ⟨Nat.le_trans B0 Kq2.1, Ex2, Fi2, Fp2, Fs2, lo1, Int.le_trans up1 (Int.add_le_add_right up 1)⟩, fun t kt => ?_⟩
  refine sg1 _ ?_
  refine st2 _ ?_
  refine sg3 _ ?_
  exact kt
set_option maxRecDepth 65536 in
set_option maxHeartbeats 40000000 in
theorem own_s14 {p : Program} {l : Launch} {e : Env} {s : State} {m : MethodId} {args : Array Value} {below : List Frame} {meth : Method} {c : Code} {T0 : State} {locs : List Loc} {Z : State} {h0 : Heap} {a0 : Array Value} {n0 : Nat} (X0 : Stand p l e room_1 s m args below meth c T0 locs 1 5) (hx : p.tables.exec = Jvm.exec) (hZ : Z.Warmed39 s.vm) (hw : ∀ d ∈ tables_1, d.before a0 Z = true) (hby : c.code = code) (hml : c.maxLocals = 3) (hown : s.vm.findClass "com/example/handoff/handoff/WorkerTurnsTookPinLaw" = some m.cls) (e0 : T0.heap = h0) (N0 : Fr n0 locs) (b : Addr) (g_b : n0 ≤ b) (f r : Int32) (B : own_S Z h0 n0 b (13 : Int32) r 13) :
    ∃ T' h' locs' r', Stand p l e room_1 s m args below meth c T' locs' 1 5 ∧ T'.heap = h' ∧ Fr n0 locs' ∧ own_S Z h' n0 b (14 : Int32) r' 14 ∧ ∀ t, Steps p.tables e below (T'.setTop (mkF m 147 #[.val (.int f), .val (.ref b), .val (.int r')] [])) t → Steps p.tables e below (T0.setTop (mkF m 138 #[.val (.int f), .val (.ref b), .val (.int r)] [])) t := by
  obtain ⟨B0, Ex, Fi, Fp, Fs, lo, up⟩ := B
  have sg1 : ∀ t, Steps p.tables e below (T0.setTop (mkF m 143 #[.val (.int f), .val (.ref b), .val (.int r)] [(.int r), (.int (14 : Int32)), (.int f), (.ref b)])) t → Steps p.tables e below (T0.setTop (mkF m 138 #[.val (.int f), .val (.ref b), .val (.int r)] [])) t := by
    intro t kt
    refine XS.aloadN X0.here hx rfl (hb hby at_138) rfl rfl ?_
    show Steps p.tables e below (T0.setTop (mkF m 139 #[.val (.int f), .val (.ref b), .val (.int r)] [(.ref b)])) _
    refine XS.iloadN X0.here hx rfl (hb hby at_139) rfl ?_
    show Steps p.tables e below (T0.setTop (mkF m 140 #[.val (.int f), .val (.ref b), .val (.int r)] [(.int f), (.ref b)])) _
    refine XS.bipush X0.here hx rfl (hb hby at_140) ?_
    show Steps p.tables e below (T0.setTop (mkF m 142 #[.val (.int f), .val (.ref b), .val (.int r)] [(.int (14 : Int32)), (.int f), (.ref b)])) _
    refine XS.iloadN X0.here hx rfl (hb hby at_142) rfl ?_
    exact kt
  obtain ⟨_, _, ⟨T2, L2, k2, n2⟩, -, X2, ⟨Lc2, hQ2, l2, y2, z2⟩, st2⟩ := Jvm.LawKit.callS X0 hx (y := (⟨"com/example/handoff/handoff/WorkerTurnsTookPinLaw", "step", "(Lcom/example/handoff/handoff/WorkerTurns;III)I"⟩ : MethodName)) hown (mvT hZ (hw _ (List.mem_of_getElem? (i := 44) rfl))) (mvT hZ (hw _ (List.mem_of_getElem? (i := 45) rfl))) (mvT hZ (hw _ (List.mem_of_getElem? (i := 46) rfl))) (mvT hZ (hw _ (List.mem_of_getElem? (i := 47) rfl))) (by decide) (backOf (W := 0) (rm9 l Z a0 hw [] b f (14 : Int32) r (13 : Int32) h0 n0 B0 (by decide) lo (Int.le_trans up (by decide)) Ex Fi Fp Fs g_b) hZ (hw _ (List.mem_of_getElem? (i := 47) rfl)) (hw _ (List.mem_of_getElem? (i := 46) rfl)) (by decide) (by decide)) (g := (mkF m 143 #[.val (.int f), .val (.ref b), .val (.int r)] [(.int r), (.int (14 : Int32)), (.int f), (.ref b)])) rfl (by rw [hml]; rfl) (argsL := [(.ref b), (.int f), (.int (14 : Int32)), (.int r)]) (rest := []) (lenOf pd_5 rfl) rfl (by show 2 * 0 + _ ≤ _; exact Nat.le_of_eq rfl) (hb hby at_143) (fun _ _ => ⟨rfl, e0, (by decide : 1 + 0 ≤ _), (by decide : 5 + 0 ≤ _)⟩)
  dsimp only [Pt.U, Pt.locs, Pt.cells, Pt.slots] at X2 l2 y2 z2 st2 hQ2
  subst l2 y2 z2
  obtain ⟨⟨r1, rfl, lo1, up1, Fs2⟩, Nq2, Kq2, Ex2, Fi2, Fp2⟩ := hQ2
  have N2 := Fr.app N0 Nq2
  have sg3 : ∀ t, Steps p.tables e below (T2.setTop (mkF m 147 #[.val (.int f), .val (.ref b), .val (.int r1)] [])) t → Steps p.tables e below (T2.setTop (mkF m 146 #[.val (.int f), .val (.ref b), .val (.int r)] [(.int r1)])) t := by
    intro t kt
    refine XS.istoreN X2.here hx rfl (hb hby at_146) rfl (l' := #[.val (.int f), .val (.ref b), .val (.int r1)]) rfl ?_
    exact kt
  refine ⟨T2, _, _, r1, X2, rfl, N2, ⟨Nat.le_trans B0 Kq2.1, Ex2, Fi2, Fp2, Fs2, lo1, Int.le_trans up1 (Int.add_le_add_right up 1)⟩, fun t kt => ?_⟩
  refine sg1 _ ?_
  refine st2 _ ?_
  refine sg3 _ ?_
  exact kt
set_option maxRecDepth 65536 in
set_option maxHeartbeats 40000000 in
theorem own_s15 {p : Program} {l : Launch} {e : Env} {s : State} {m : MethodId} {args : Array Value} {below : List Frame} {meth : Method} {c : Code} {T0 : State} {locs : List Loc} {Z : State} {h0 : Heap} {a0 : Array Value} {n0 : Nat} (X0 : Stand p l e room_1 s m args below meth c T0 locs 1 5) (hx : p.tables.exec = Jvm.exec) (hZ : Z.Warmed39 s.vm) (hw : ∀ d ∈ tables_1, d.before a0 Z = true) (hby : c.code = code) (hml : c.maxLocals = 3) (hown : s.vm.findClass "com/example/handoff/handoff/WorkerTurnsTookPinLaw" = some m.cls) (e0 : T0.heap = h0) (N0 : Fr n0 locs) (b : Addr) (g_b : n0 ≤ b) (f r : Int32) (B : own_S Z h0 n0 b (14 : Int32) r 14) :
    ∃ T' h' locs' r', Stand p l e room_1 s m args below meth c T' locs' 1 5 ∧ T'.heap = h' ∧ Fr n0 locs' ∧ own_S Z h' n0 b (15 : Int32) r' 15 ∧ ∀ t, Steps p.tables e below (T'.setTop (mkF m 156 #[.val (.int f), .val (.ref b), .val (.int r')] [])) t → Steps p.tables e below (T0.setTop (mkF m 147 #[.val (.int f), .val (.ref b), .val (.int r)] [])) t := by
  obtain ⟨B0, Ex, Fi, Fp, Fs, lo, up⟩ := B
  have sg1 : ∀ t, Steps p.tables e below (T0.setTop (mkF m 152 #[.val (.int f), .val (.ref b), .val (.int r)] [(.int r), (.int (15 : Int32)), (.int f), (.ref b)])) t → Steps p.tables e below (T0.setTop (mkF m 147 #[.val (.int f), .val (.ref b), .val (.int r)] [])) t := by
    intro t kt
    refine XS.aloadN X0.here hx rfl (hb hby at_147) rfl rfl ?_
    show Steps p.tables e below (T0.setTop (mkF m 148 #[.val (.int f), .val (.ref b), .val (.int r)] [(.ref b)])) _
    refine XS.iloadN X0.here hx rfl (hb hby at_148) rfl ?_
    show Steps p.tables e below (T0.setTop (mkF m 149 #[.val (.int f), .val (.ref b), .val (.int r)] [(.int f), (.ref b)])) _
    refine XS.bipush X0.here hx rfl (hb hby at_149) ?_
    show Steps p.tables e below (T0.setTop (mkF m 151 #[.val (.int f), .val (.ref b), .val (.int r)] [(.int (15 : Int32)), (.int f), (.ref b)])) _
    refine XS.iloadN X0.here hx rfl (hb hby at_151) rfl ?_
    exact kt
  obtain ⟨_, _, ⟨T2, L2, k2, n2⟩, -, X2, ⟨Lc2, hQ2, l2, y2, z2⟩, st2⟩ := Jvm.LawKit.callS X0 hx (y := (⟨"com/example/handoff/handoff/WorkerTurnsTookPinLaw", "step", "(Lcom/example/handoff/handoff/WorkerTurns;III)I"⟩ : MethodName)) hown (mvT hZ (hw _ (List.mem_of_getElem? (i := 44) rfl))) (mvT hZ (hw _ (List.mem_of_getElem? (i := 45) rfl))) (mvT hZ (hw _ (List.mem_of_getElem? (i := 46) rfl))) (mvT hZ (hw _ (List.mem_of_getElem? (i := 47) rfl))) (by decide) (backOf (W := 0) (rm9 l Z a0 hw [] b f (15 : Int32) r (14 : Int32) h0 n0 B0 (by decide) lo (Int.le_trans up (by decide)) Ex Fi Fp Fs g_b) hZ (hw _ (List.mem_of_getElem? (i := 47) rfl)) (hw _ (List.mem_of_getElem? (i := 46) rfl)) (by decide) (by decide)) (g := (mkF m 152 #[.val (.int f), .val (.ref b), .val (.int r)] [(.int r), (.int (15 : Int32)), (.int f), (.ref b)])) rfl (by rw [hml]; rfl) (argsL := [(.ref b), (.int f), (.int (15 : Int32)), (.int r)]) (rest := []) (lenOf pd_5 rfl) rfl (by show 2 * 0 + _ ≤ _; exact Nat.le_of_eq rfl) (hb hby at_152) (fun _ _ => ⟨rfl, e0, (by decide : 1 + 0 ≤ _), (by decide : 5 + 0 ≤ _)⟩)
  dsimp only [Pt.U, Pt.locs, Pt.cells, Pt.slots] at X2 l2 y2 z2 st2 hQ2
  subst l2 y2 z2
  obtain ⟨⟨r1, rfl, lo1, up1, Fs2⟩, Nq2, Kq2, Ex2, Fi2, Fp2⟩ := hQ2
  have N2 := Fr.app N0 Nq2
  have sg3 : ∀ t, Steps p.tables e below (T2.setTop (mkF m 156 #[.val (.int f), .val (.ref b), .val (.int r1)] [])) t → Steps p.tables e below (T2.setTop (mkF m 155 #[.val (.int f), .val (.ref b), .val (.int r)] [(.int r1)])) t := by
    intro t kt
    refine XS.istoreN X2.here hx rfl (hb hby at_155) rfl (l' := #[.val (.int f), .val (.ref b), .val (.int r1)]) rfl ?_
    exact kt
  refine ⟨T2, _, _, r1, X2, rfl, N2, ⟨Nat.le_trans B0 Kq2.1, Ex2, Fi2, Fp2, Fs2, lo1, Int.le_trans up1 (Int.add_le_add_right up 1)⟩, fun t kt => ?_⟩
  refine sg1 _ ?_
  refine st2 _ ?_
  refine sg3 _ ?_
  exact kt
set_option maxRecDepth 65536 in
set_option maxHeartbeats 40000000 in
theorem own_s16 {p : Program} {l : Launch} {e : Env} {s : State} {m : MethodId} {args : Array Value} {below : List Frame} {meth : Method} {c : Code} {T0 : State} {locs : List Loc} {Z : State} {h0 : Heap} {a0 : Array Value} {n0 : Nat} (X0 : Stand p l e room_1 s m args below meth c T0 locs 1 5) (hx : p.tables.exec = Jvm.exec) (hZ : Z.Warmed39 s.vm) (hw : ∀ d ∈ tables_1, d.before a0 Z = true) (hby : c.code = code) (hml : c.maxLocals = 3) (hown : s.vm.findClass "com/example/handoff/handoff/WorkerTurnsTookPinLaw" = some m.cls) (e0 : T0.heap = h0) (N0 : Fr n0 locs) (b : Addr) (g_b : n0 ≤ b) (f r : Int32) (B : own_S Z h0 n0 b (15 : Int32) r 15) :
    ∃ T' h' locs' r', Stand p l e room_1 s m args below meth c T' locs' 1 5 ∧ T'.heap = h' ∧ Fr n0 locs' ∧ own_S Z h' n0 b (16 : Int32) r' 16 ∧ ∀ t, Steps p.tables e below (T'.setTop (mkF m 165 #[.val (.int f), .val (.ref b), .val (.int r')] [])) t → Steps p.tables e below (T0.setTop (mkF m 156 #[.val (.int f), .val (.ref b), .val (.int r)] [])) t := by
  obtain ⟨B0, Ex, Fi, Fp, Fs, lo, up⟩ := B
  have sg1 : ∀ t, Steps p.tables e below (T0.setTop (mkF m 161 #[.val (.int f), .val (.ref b), .val (.int r)] [(.int r), (.int (16 : Int32)), (.int f), (.ref b)])) t → Steps p.tables e below (T0.setTop (mkF m 156 #[.val (.int f), .val (.ref b), .val (.int r)] [])) t := by
    intro t kt
    refine XS.aloadN X0.here hx rfl (hb hby at_156) rfl rfl ?_
    show Steps p.tables e below (T0.setTop (mkF m 157 #[.val (.int f), .val (.ref b), .val (.int r)] [(.ref b)])) _
    refine XS.iloadN X0.here hx rfl (hb hby at_157) rfl ?_
    show Steps p.tables e below (T0.setTop (mkF m 158 #[.val (.int f), .val (.ref b), .val (.int r)] [(.int f), (.ref b)])) _
    refine XS.bipush X0.here hx rfl (hb hby at_158) ?_
    show Steps p.tables e below (T0.setTop (mkF m 160 #[.val (.int f), .val (.ref b), .val (.int r)] [(.int (16 : Int32)), (.int f), (.ref b)])) _
    refine XS.iloadN X0.here hx rfl (hb hby at_160) rfl ?_
    exact kt
  obtain ⟨_, _, ⟨T2, L2, k2, n2⟩, -, X2, ⟨Lc2, hQ2, l2, y2, z2⟩, st2⟩ := Jvm.LawKit.callS X0 hx (y := (⟨"com/example/handoff/handoff/WorkerTurnsTookPinLaw", "step", "(Lcom/example/handoff/handoff/WorkerTurns;III)I"⟩ : MethodName)) hown (mvT hZ (hw _ (List.mem_of_getElem? (i := 44) rfl))) (mvT hZ (hw _ (List.mem_of_getElem? (i := 45) rfl))) (mvT hZ (hw _ (List.mem_of_getElem? (i := 46) rfl))) (mvT hZ (hw _ (List.mem_of_getElem? (i := 47) rfl))) (by decide) (backOf (W := 0) (rm9 l Z a0 hw [] b f (16 : Int32) r (15 : Int32) h0 n0 B0 (by decide) lo (Int.le_trans up (by decide)) Ex Fi Fp Fs g_b) hZ (hw _ (List.mem_of_getElem? (i := 47) rfl)) (hw _ (List.mem_of_getElem? (i := 46) rfl)) (by decide) (by decide)) (g := (mkF m 161 #[.val (.int f), .val (.ref b), .val (.int r)] [(.int r), (.int (16 : Int32)), (.int f), (.ref b)])) rfl (by rw [hml]; rfl) (argsL := [(.ref b), (.int f), (.int (16 : Int32)), (.int r)]) (rest := []) (lenOf pd_5 rfl) rfl (by show 2 * 0 + _ ≤ _; exact Nat.le_of_eq rfl) (hb hby at_161) (fun _ _ => ⟨rfl, e0, (by decide : 1 + 0 ≤ _), (by decide : 5 + 0 ≤ _)⟩)
  dsimp only [Pt.U, Pt.locs, Pt.cells, Pt.slots] at X2 l2 y2 z2 st2 hQ2
  subst l2 y2 z2
  obtain ⟨⟨r1, rfl, lo1, up1, Fs2⟩, Nq2, Kq2, Ex2, Fi2, Fp2⟩ := hQ2
  have N2 := Fr.app N0 Nq2
  have sg3 : ∀ t, Steps p.tables e below (T2.setTop (mkF m 165 #[.val (.int f), .val (.ref b), .val (.int r1)] [])) t → Steps p.tables e below (T2.setTop (mkF m 164 #[.val (.int f), .val (.ref b), .val (.int r)] [(.int r1)])) t := by
    intro t kt
    refine XS.istoreN X2.here hx rfl (hb hby at_164) rfl (l' := #[.val (.int f), .val (.ref b), .val (.int r1)]) rfl ?_
    exact kt
  refine ⟨T2, _, _, r1, X2, rfl, N2, ⟨Nat.le_trans B0 Kq2.1, Ex2, Fi2, Fp2, Fs2, lo1, Int.le_trans up1 (Int.add_le_add_right up 1)⟩, fun t kt => ?_⟩
  refine sg1 _ ?_
  refine st2 _ ?_
  refine sg3 _ ?_
  exact kt
set_option maxRecDepth 65536 in
set_option maxHeartbeats 40000000 in
theorem own_s17 {p : Program} {l : Launch} {e : Env} {s : State} {m : MethodId} {args : Array Value} {below : List Frame} {meth : Method} {c : Code} {T0 : State} {locs : List Loc} {Z : State} {h0 : Heap} {a0 : Array Value} {n0 : Nat} (X0 : Stand p l e room_1 s m args below meth c T0 locs 1 5) (hx : p.tables.exec = Jvm.exec) (hZ : Z.Warmed39 s.vm) (hw : ∀ d ∈ tables_1, d.before a0 Z = true) (hby : c.code = code) (hml : c.maxLocals = 3) (hown : s.vm.findClass "com/example/handoff/handoff/WorkerTurnsTookPinLaw" = some m.cls) (e0 : T0.heap = h0) (N0 : Fr n0 locs) (b : Addr) (g_b : n0 ≤ b) (f r : Int32) (B : own_S Z h0 n0 b (16 : Int32) r 16) :
    ∃ T' h' locs' r', Stand p l e room_1 s m args below meth c T' locs' 1 5 ∧ T'.heap = h' ∧ Fr n0 locs' ∧ own_S Z h' n0 b (17 : Int32) r' 17 ∧ ∀ t, Steps p.tables e below (T'.setTop (mkF m 174 #[.val (.int f), .val (.ref b), .val (.int r')] [])) t → Steps p.tables e below (T0.setTop (mkF m 165 #[.val (.int f), .val (.ref b), .val (.int r)] [])) t := by
  obtain ⟨B0, Ex, Fi, Fp, Fs, lo, up⟩ := B
  have sg1 : ∀ t, Steps p.tables e below (T0.setTop (mkF m 170 #[.val (.int f), .val (.ref b), .val (.int r)] [(.int r), (.int (17 : Int32)), (.int f), (.ref b)])) t → Steps p.tables e below (T0.setTop (mkF m 165 #[.val (.int f), .val (.ref b), .val (.int r)] [])) t := by
    intro t kt
    refine XS.aloadN X0.here hx rfl (hb hby at_165) rfl rfl ?_
    show Steps p.tables e below (T0.setTop (mkF m 166 #[.val (.int f), .val (.ref b), .val (.int r)] [(.ref b)])) _
    refine XS.iloadN X0.here hx rfl (hb hby at_166) rfl ?_
    show Steps p.tables e below (T0.setTop (mkF m 167 #[.val (.int f), .val (.ref b), .val (.int r)] [(.int f), (.ref b)])) _
    refine XS.bipush X0.here hx rfl (hb hby at_167) ?_
    show Steps p.tables e below (T0.setTop (mkF m 169 #[.val (.int f), .val (.ref b), .val (.int r)] [(.int (17 : Int32)), (.int f), (.ref b)])) _
    refine XS.iloadN X0.here hx rfl (hb hby at_169) rfl ?_
    exact kt
  obtain ⟨_, _, ⟨T2, L2, k2, n2⟩, -, X2, ⟨Lc2, hQ2, l2, y2, z2⟩, st2⟩ := Jvm.LawKit.callS X0 hx (y := (⟨"com/example/handoff/handoff/WorkerTurnsTookPinLaw", "step", "(Lcom/example/handoff/handoff/WorkerTurns;III)I"⟩ : MethodName)) hown (mvT hZ (hw _ (List.mem_of_getElem? (i := 44) rfl))) (mvT hZ (hw _ (List.mem_of_getElem? (i := 45) rfl))) (mvT hZ (hw _ (List.mem_of_getElem? (i := 46) rfl))) (mvT hZ (hw _ (List.mem_of_getElem? (i := 47) rfl))) (by decide) (backOf (W := 0) (rm9 l Z a0 hw [] b f (17 : Int32) r (16 : Int32) h0 n0 B0 (by decide) lo (Int.le_trans up (by decide)) Ex Fi Fp Fs g_b) hZ (hw _ (List.mem_of_getElem? (i := 47) rfl)) (hw _ (List.mem_of_getElem? (i := 46) rfl)) (by decide) (by decide)) (g := (mkF m 170 #[.val (.int f), .val (.ref b), .val (.int r)] [(.int r), (.int (17 : Int32)), (.int f), (.ref b)])) rfl (by rw [hml]; rfl) (argsL := [(.ref b), (.int f), (.int (17 : Int32)), (.int r)]) (rest := []) (lenOf pd_5 rfl) rfl (by show 2 * 0 + _ ≤ _; exact Nat.le_of_eq rfl) (hb hby at_170) (fun _ _ => ⟨rfl, e0, (by decide : 1 + 0 ≤ _), (by decide : 5 + 0 ≤ _)⟩)
  dsimp only [Pt.U, Pt.locs, Pt.cells, Pt.slots] at X2 l2 y2 z2 st2 hQ2
  subst l2 y2 z2
  obtain ⟨⟨r1, rfl, lo1, up1, Fs2⟩, Nq2, Kq2, Ex2, Fi2, Fp2⟩ := hQ2
  have N2 := Fr.app N0 Nq2
  have sg3 : ∀ t, Steps p.tables e below (T2.setTop (mkF m 174 #[.val (.int f), .val (.ref b), .val (.int r1)] [])) t → Steps p.tables e below (T2.setTop (mkF m 173 #[.val (.int f), .val (.ref b), .val (.int r)] [(.int r1)])) t := by
    intro t kt
    refine XS.istoreN X2.here hx rfl (hb hby at_173) rfl (l' := #[.val (.int f), .val (.ref b), .val (.int r1)]) rfl ?_
    exact kt
  refine ⟨T2, _, _, r1, X2, rfl, N2, ⟨Nat.le_trans B0 Kq2.1, Ex2, Fi2, Fp2, Fs2, lo1, Int.le_trans up1 (Int.add_le_add_right up 1)⟩, fun t kt => ?_⟩
  refine sg1 _ ?_
  refine st2 _ ?_
  refine sg3 _ ?_
  exact kt
set_option maxRecDepth 65536 in
set_option maxHeartbeats 40000000 in
theorem own_s18 {p : Program} {l : Launch} {e : Env} {s : State} {m : MethodId} {args : Array Value} {below : List Frame} {meth : Method} {c : Code} {T0 : State} {locs : List Loc} {Z : State} {h0 : Heap} {a0 : Array Value} {n0 : Nat} (X0 : Stand p l e room_1 s m args below meth c T0 locs 1 5) (hx : p.tables.exec = Jvm.exec) (hZ : Z.Warmed39 s.vm) (hw : ∀ d ∈ tables_1, d.before a0 Z = true) (hby : c.code = code) (hml : c.maxLocals = 3) (hown : s.vm.findClass "com/example/handoff/handoff/WorkerTurnsTookPinLaw" = some m.cls) (e0 : T0.heap = h0) (N0 : Fr n0 locs) (b : Addr) (g_b : n0 ≤ b) (f r : Int32) (B : own_S Z h0 n0 b (17 : Int32) r 17) :
    ∃ T' h' locs' r', Stand p l e room_1 s m args below meth c T' locs' 1 5 ∧ T'.heap = h' ∧ Fr n0 locs' ∧ own_S Z h' n0 b (18 : Int32) r' 18 ∧ ∀ t, Steps p.tables e below (T'.setTop (mkF m 183 #[.val (.int f), .val (.ref b), .val (.int r')] [])) t → Steps p.tables e below (T0.setTop (mkF m 174 #[.val (.int f), .val (.ref b), .val (.int r)] [])) t := by
  obtain ⟨B0, Ex, Fi, Fp, Fs, lo, up⟩ := B
  have sg1 : ∀ t, Steps p.tables e below (T0.setTop (mkF m 179 #[.val (.int f), .val (.ref b), .val (.int r)] [(.int r), (.int (18 : Int32)), (.int f), (.ref b)])) t → Steps p.tables e below (T0.setTop (mkF m 174 #[.val (.int f), .val (.ref b), .val (.int r)] [])) t := by
    intro t kt
    refine XS.aloadN X0.here hx rfl (hb hby at_174) rfl rfl ?_
    show Steps p.tables e below (T0.setTop (mkF m 175 #[.val (.int f), .val (.ref b), .val (.int r)] [(.ref b)])) _
    refine XS.iloadN X0.here hx rfl (hb hby at_175) rfl ?_
    show Steps p.tables e below (T0.setTop (mkF m 176 #[.val (.int f), .val (.ref b), .val (.int r)] [(.int f), (.ref b)])) _
    refine XS.bipush X0.here hx rfl (hb hby at_176) ?_
    show Steps p.tables e below (T0.setTop (mkF m 178 #[.val (.int f), .val (.ref b), .val (.int r)] [(.int (18 : Int32)), (.int f), (.ref b)])) _
    refine XS.iloadN X0.here hx rfl (hb hby at_178) rfl ?_
    exact kt
  obtain ⟨_, _, ⟨T2, L2, k2, n2⟩, -, X2, ⟨Lc2, hQ2, l2, y2, z2⟩, st2⟩ := Jvm.LawKit.callS X0 hx (y := (⟨"com/example/handoff/handoff/WorkerTurnsTookPinLaw", "step", "(Lcom/example/handoff/handoff/WorkerTurns;III)I"⟩ : MethodName)) hown (mvT hZ (hw _ (List.mem_of_getElem? (i := 44) rfl))) (mvT hZ (hw _ (List.mem_of_getElem? (i := 45) rfl))) (mvT hZ (hw _ (List.mem_of_getElem? (i := 46) rfl))) (mvT hZ (hw _ (List.mem_of_getElem? (i := 47) rfl))) (by decide) (backOf (W := 0) (rm9 l Z a0 hw [] b f (18 : Int32) r (17 : Int32) h0 n0 B0 (by decide) lo (Int.le_trans up (by decide)) Ex Fi Fp Fs g_b) hZ (hw _ (List.mem_of_getElem? (i := 47) rfl)) (hw _ (List.mem_of_getElem? (i := 46) rfl)) (by decide) (by decide)) (g := (mkF m 179 #[.val (.int f), .val (.ref b), .val (.int r)] [(.int r), (.int (18 : Int32)), (.int f), (.ref b)])) rfl (by rw [hml]; rfl) (argsL := [(.ref b), (.int f), (.int (18 : Int32)), (.int r)]) (rest := []) (lenOf pd_5 rfl) rfl (by show 2 * 0 + _ ≤ _; exact Nat.le_of_eq rfl) (hb hby at_179) (fun _ _ => ⟨rfl, e0, (by decide : 1 + 0 ≤ _), (by decide : 5 + 0 ≤ _)⟩)
  dsimp only [Pt.U, Pt.locs, Pt.cells, Pt.slots] at X2 l2 y2 z2 st2 hQ2
  subst l2 y2 z2
  obtain ⟨⟨r1, rfl, lo1, up1, Fs2⟩, Nq2, Kq2, Ex2, Fi2, Fp2⟩ := hQ2
  have N2 := Fr.app N0 Nq2
  have sg3 : ∀ t, Steps p.tables e below (T2.setTop (mkF m 183 #[.val (.int f), .val (.ref b), .val (.int r1)] [])) t → Steps p.tables e below (T2.setTop (mkF m 182 #[.val (.int f), .val (.ref b), .val (.int r)] [(.int r1)])) t := by
    intro t kt
    refine XS.istoreN X2.here hx rfl (hb hby at_182) rfl (l' := #[.val (.int f), .val (.ref b), .val (.int r1)]) rfl ?_
    exact kt
  refine ⟨T2, _, _, r1, X2, rfl, N2, ⟨Nat.le_trans B0 Kq2.1, Ex2, Fi2, Fp2, Fs2, lo1, Int.le_trans up1 (Int.add_le_add_right up 1)⟩, fun t kt => ?_⟩
  refine sg1 _ ?_
  refine st2 _ ?_
  refine sg3 _ ?_
  exact kt
set_option maxRecDepth 65536 in
set_option maxHeartbeats 40000000 in
theorem own_s19 {p : Program} {l : Launch} {e : Env} {s : State} {m : MethodId} {args : Array Value} {below : List Frame} {meth : Method} {c : Code} {T0 : State} {locs : List Loc} {Z : State} {h0 : Heap} {a0 : Array Value} {n0 : Nat} (X0 : Stand p l e room_1 s m args below meth c T0 locs 1 5) (hx : p.tables.exec = Jvm.exec) (hZ : Z.Warmed39 s.vm) (hw : ∀ d ∈ tables_1, d.before a0 Z = true) (hby : c.code = code) (hml : c.maxLocals = 3) (hown : s.vm.findClass "com/example/handoff/handoff/WorkerTurnsTookPinLaw" = some m.cls) (e0 : T0.heap = h0) (N0 : Fr n0 locs) (b : Addr) (g_b : n0 ≤ b) (f r : Int32) (B : own_S Z h0 n0 b (18 : Int32) r 18) :
    ∃ T' h' locs' r', Stand p l e room_1 s m args below meth c T' locs' 1 5 ∧ T'.heap = h' ∧ Fr n0 locs' ∧ own_S Z h' n0 b (19 : Int32) r' 19 ∧ ∀ t, Steps p.tables e below (T'.setTop (mkF m 192 #[.val (.int f), .val (.ref b), .val (.int r')] [])) t → Steps p.tables e below (T0.setTop (mkF m 183 #[.val (.int f), .val (.ref b), .val (.int r)] [])) t := by
  obtain ⟨B0, Ex, Fi, Fp, Fs, lo, up⟩ := B
  have sg1 : ∀ t, Steps p.tables e below (T0.setTop (mkF m 188 #[.val (.int f), .val (.ref b), .val (.int r)] [(.int r), (.int (19 : Int32)), (.int f), (.ref b)])) t → Steps p.tables e below (T0.setTop (mkF m 183 #[.val (.int f), .val (.ref b), .val (.int r)] [])) t := by
    intro t kt
    refine XS.aloadN X0.here hx rfl (hb hby at_183) rfl rfl ?_
    show Steps p.tables e below (T0.setTop (mkF m 184 #[.val (.int f), .val (.ref b), .val (.int r)] [(.ref b)])) _
    refine XS.iloadN X0.here hx rfl (hb hby at_184) rfl ?_
    show Steps p.tables e below (T0.setTop (mkF m 185 #[.val (.int f), .val (.ref b), .val (.int r)] [(.int f), (.ref b)])) _
    refine XS.bipush X0.here hx rfl (hb hby at_185) ?_
    show Steps p.tables e below (T0.setTop (mkF m 187 #[.val (.int f), .val (.ref b), .val (.int r)] [(.int (19 : Int32)), (.int f), (.ref b)])) _
    refine XS.iloadN X0.here hx rfl (hb hby at_187) rfl ?_
    exact kt
  obtain ⟨_, _, ⟨T2, L2, k2, n2⟩, -, X2, ⟨Lc2, hQ2, l2, y2, z2⟩, st2⟩ := Jvm.LawKit.callS X0 hx (y := (⟨"com/example/handoff/handoff/WorkerTurnsTookPinLaw", "step", "(Lcom/example/handoff/handoff/WorkerTurns;III)I"⟩ : MethodName)) hown (mvT hZ (hw _ (List.mem_of_getElem? (i := 44) rfl))) (mvT hZ (hw _ (List.mem_of_getElem? (i := 45) rfl))) (mvT hZ (hw _ (List.mem_of_getElem? (i := 46) rfl))) (mvT hZ (hw _ (List.mem_of_getElem? (i := 47) rfl))) (by decide) (backOf (W := 0) (rm9 l Z a0 hw [] b f (19 : Int32) r (18 : Int32) h0 n0 B0 (by decide) lo (Int.le_trans up (by decide)) Ex Fi Fp Fs g_b) hZ (hw _ (List.mem_of_getElem? (i := 47) rfl)) (hw _ (List.mem_of_getElem? (i := 46) rfl)) (by decide) (by decide)) (g := (mkF m 188 #[.val (.int f), .val (.ref b), .val (.int r)] [(.int r), (.int (19 : Int32)), (.int f), (.ref b)])) rfl (by rw [hml]; rfl) (argsL := [(.ref b), (.int f), (.int (19 : Int32)), (.int r)]) (rest := []) (lenOf pd_5 rfl) rfl (by show 2 * 0 + _ ≤ _; exact Nat.le_of_eq rfl) (hb hby at_188) (fun _ _ => ⟨rfl, e0, (by decide : 1 + 0 ≤ _), (by decide : 5 + 0 ≤ _)⟩)
  dsimp only [Pt.U, Pt.locs, Pt.cells, Pt.slots] at X2 l2 y2 z2 st2 hQ2
  subst l2 y2 z2
  obtain ⟨⟨r1, rfl, lo1, up1, Fs2⟩, Nq2, Kq2, Ex2, Fi2, Fp2⟩ := hQ2
  have N2 := Fr.app N0 Nq2
  have sg3 : ∀ t, Steps p.tables e below (T2.setTop (mkF m 192 #[.val (.int f), .val (.ref b), .val (.int r1)] [])) t → Steps p.tables e below (T2.setTop (mkF m 191 #[.val (.int f), .val (.ref b), .val (.int r)] [(.int r1)])) t := by
    intro t kt
    refine XS.istoreN X2.here hx rfl (hb hby at_191) rfl (l' := #[.val (.int f), .val (.ref b), .val (.int r1)]) rfl ?_
    exact kt
  refine ⟨T2, _, _, r1, X2, rfl, N2, ⟨Nat.le_trans B0 Kq2.1, Ex2, Fi2, Fp2, Fs2, lo1, Int.le_trans up1 (Int.add_le_add_right up 1)⟩, fun t kt => ?_⟩
  refine sg1 _ ?_
  refine st2 _ ?_
  refine sg3 _ ?_
  exact kt
set_option maxRecDepth 65536 in
set_option maxHeartbeats 40000000 in
theorem own_s20 {p : Program} {l : Launch} {e : Env} {s : State} {m : MethodId} {args : Array Value} {below : List Frame} {meth : Method} {c : Code} {T0 : State} {locs : List Loc} {Z : State} {h0 : Heap} {a0 : Array Value} {n0 : Nat} (X0 : Stand p l e room_1 s m args below meth c T0 locs 1 5) (hx : p.tables.exec = Jvm.exec) (hZ : Z.Warmed39 s.vm) (hw : ∀ d ∈ tables_1, d.before a0 Z = true) (hby : c.code = code) (hml : c.maxLocals = 3) (hown : s.vm.findClass "com/example/handoff/handoff/WorkerTurnsTookPinLaw" = some m.cls) (e0 : T0.heap = h0) (N0 : Fr n0 locs) (b : Addr) (g_b : n0 ≤ b) (f r : Int32) (B : own_S Z h0 n0 b (19 : Int32) r 19) :
    ∃ T' h' locs' r', Stand p l e room_1 s m args below meth c T' locs' 1 5 ∧ T'.heap = h' ∧ Fr n0 locs' ∧ own_S Z h' n0 b (20 : Int32) r' 20 ∧ ∀ t, Steps p.tables e below (T'.setTop (mkF m 201 #[.val (.int f), .val (.ref b), .val (.int r')] [])) t → Steps p.tables e below (T0.setTop (mkF m 192 #[.val (.int f), .val (.ref b), .val (.int r)] [])) t := by
  obtain ⟨B0, Ex, Fi, Fp, Fs, lo, up⟩ := B
  have sg1 : ∀ t, Steps p.tables e below (T0.setTop (mkF m 197 #[.val (.int f), .val (.ref b), .val (.int r)] [(.int r), (.int (20 : Int32)), (.int f), (.ref b)])) t → Steps p.tables e below (T0.setTop (mkF m 192 #[.val (.int f), .val (.ref b), .val (.int r)] [])) t := by
    intro t kt
    refine XS.aloadN X0.here hx rfl (hb hby at_192) rfl rfl ?_
    show Steps p.tables e below (T0.setTop (mkF m 193 #[.val (.int f), .val (.ref b), .val (.int r)] [(.ref b)])) _
    refine XS.iloadN X0.here hx rfl (hb hby at_193) rfl ?_
    show Steps p.tables e below (T0.setTop (mkF m 194 #[.val (.int f), .val (.ref b), .val (.int r)] [(.int f), (.ref b)])) _
    refine XS.bipush X0.here hx rfl (hb hby at_194) ?_
    show Steps p.tables e below (T0.setTop (mkF m 196 #[.val (.int f), .val (.ref b), .val (.int r)] [(.int (20 : Int32)), (.int f), (.ref b)])) _
    refine XS.iloadN X0.here hx rfl (hb hby at_196) rfl ?_
    exact kt
  obtain ⟨_, _, ⟨T2, L2, k2, n2⟩, -, X2, ⟨Lc2, hQ2, l2, y2, z2⟩, st2⟩ := Jvm.LawKit.callS X0 hx (y := (⟨"com/example/handoff/handoff/WorkerTurnsTookPinLaw", "step", "(Lcom/example/handoff/handoff/WorkerTurns;III)I"⟩ : MethodName)) hown (mvT hZ (hw _ (List.mem_of_getElem? (i := 44) rfl))) (mvT hZ (hw _ (List.mem_of_getElem? (i := 45) rfl))) (mvT hZ (hw _ (List.mem_of_getElem? (i := 46) rfl))) (mvT hZ (hw _ (List.mem_of_getElem? (i := 47) rfl))) (by decide) (backOf (W := 0) (rm9 l Z a0 hw [] b f (20 : Int32) r (19 : Int32) h0 n0 B0 (by decide) lo (Int.le_trans up (by decide)) Ex Fi Fp Fs g_b) hZ (hw _ (List.mem_of_getElem? (i := 47) rfl)) (hw _ (List.mem_of_getElem? (i := 46) rfl)) (by decide) (by decide)) (g := (mkF m 197 #[.val (.int f), .val (.ref b), .val (.int r)] [(.int r), (.int (20 : Int32)), (.int f), (.ref b)])) rfl (by rw [hml]; rfl) (argsL := [(.ref b), (.int f), (.int (20 : Int32)), (.int r)]) (rest := []) (lenOf pd_5 rfl) rfl (by show 2 * 0 + _ ≤ _; exact Nat.le_of_eq rfl) (hb hby at_197) (fun _ _ => ⟨rfl, e0, (by decide : 1 + 0 ≤ _), (by decide : 5 + 0 ≤ _)⟩)
  dsimp only [Pt.U, Pt.locs, Pt.cells, Pt.slots] at X2 l2 y2 z2 st2 hQ2
  subst l2 y2 z2
  obtain ⟨⟨r1, rfl, lo1, up1, Fs2⟩, Nq2, Kq2, Ex2, Fi2, Fp2⟩ := hQ2
  have N2 := Fr.app N0 Nq2
  have sg3 : ∀ t, Steps p.tables e below (T2.setTop (mkF m 201 #[.val (.int f), .val (.ref b), .val (.int r1)] [])) t → Steps p.tables e below (T2.setTop (mkF m 200 #[.val (.int f), .val (.ref b), .val (.int r)] [(.int r1)])) t := by
    intro t kt
    refine XS.istoreN X2.here hx rfl (hb hby at_200) rfl (l' := #[.val (.int f), .val (.ref b), .val (.int r1)]) rfl ?_
    exact kt
  refine ⟨T2, _, _, r1, X2, rfl, N2, ⟨Nat.le_trans B0 Kq2.1, Ex2, Fi2, Fp2, Fs2, lo1, Int.le_trans up1 (Int.add_le_add_right up 1)⟩, fun t kt => ?_⟩
  refine sg1 _ ?_
  refine st2 _ ?_
  refine sg3 _ ?_
  exact kt
set_option maxRecDepth 65536 in
set_option maxHeartbeats 40000000 in
theorem own_s21 {p : Program} {l : Launch} {e : Env} {s : State} {m : MethodId} {args : Array Value} {below : List Frame} {meth : Method} {c : Code} {T0 : State} {locs : List Loc} {Z : State} {h0 : Heap} {a0 : Array Value} {n0 : Nat} (X0 : Stand p l e room_1 s m args below meth c T0 locs 1 5) (hx : p.tables.exec = Jvm.exec) (hZ : Z.Warmed39 s.vm) (hw : ∀ d ∈ tables_1, d.before a0 Z = true) (hby : c.code = code) (hml : c.maxLocals = 3) (hown : s.vm.findClass "com/example/handoff/handoff/WorkerTurnsTookPinLaw" = some m.cls) (e0 : T0.heap = h0) (N0 : Fr n0 locs) (b : Addr) (g_b : n0 ≤ b) (f r : Int32) (B : own_S Z h0 n0 b (20 : Int32) r 20) :
    ∃ T' h' locs' r', Stand p l e room_1 s m args below meth c T' locs' 1 5 ∧ T'.heap = h' ∧ Fr n0 locs' ∧ own_S Z h' n0 b (21 : Int32) r' 21 ∧ ∀ t, Steps p.tables e below (T'.setTop (mkF m 210 #[.val (.int f), .val (.ref b), .val (.int r')] [])) t → Steps p.tables e below (T0.setTop (mkF m 201 #[.val (.int f), .val (.ref b), .val (.int r)] [])) t := by
  obtain ⟨B0, Ex, Fi, Fp, Fs, lo, up⟩ := B
  have sg1 : ∀ t, Steps p.tables e below (T0.setTop (mkF m 206 #[.val (.int f), .val (.ref b), .val (.int r)] [(.int r), (.int (21 : Int32)), (.int f), (.ref b)])) t → Steps p.tables e below (T0.setTop (mkF m 201 #[.val (.int f), .val (.ref b), .val (.int r)] [])) t := by
    intro t kt
    refine XS.aloadN X0.here hx rfl (hb hby at_201) rfl rfl ?_
    show Steps p.tables e below (T0.setTop (mkF m 202 #[.val (.int f), .val (.ref b), .val (.int r)] [(.ref b)])) _
    refine XS.iloadN X0.here hx rfl (hb hby at_202) rfl ?_
    show Steps p.tables e below (T0.setTop (mkF m 203 #[.val (.int f), .val (.ref b), .val (.int r)] [(.int f), (.ref b)])) _
    refine XS.bipush X0.here hx rfl (hb hby at_203) ?_
    show Steps p.tables e below (T0.setTop (mkF m 205 #[.val (.int f), .val (.ref b), .val (.int r)] [(.int (21 : Int32)), (.int f), (.ref b)])) _
    refine XS.iloadN X0.here hx rfl (hb hby at_205) rfl ?_
    exact kt
  obtain ⟨_, _, ⟨T2, L2, k2, n2⟩, -, X2, ⟨Lc2, hQ2, l2, y2, z2⟩, st2⟩ := Jvm.LawKit.callS X0 hx (y := (⟨"com/example/handoff/handoff/WorkerTurnsTookPinLaw", "step", "(Lcom/example/handoff/handoff/WorkerTurns;III)I"⟩ : MethodName)) hown (mvT hZ (hw _ (List.mem_of_getElem? (i := 44) rfl))) (mvT hZ (hw _ (List.mem_of_getElem? (i := 45) rfl))) (mvT hZ (hw _ (List.mem_of_getElem? (i := 46) rfl))) (mvT hZ (hw _ (List.mem_of_getElem? (i := 47) rfl))) (by decide) (backOf (W := 0) (rm9 l Z a0 hw [] b f (21 : Int32) r (20 : Int32) h0 n0 B0 (by decide) lo (Int.le_trans up (by decide)) Ex Fi Fp Fs g_b) hZ (hw _ (List.mem_of_getElem? (i := 47) rfl)) (hw _ (List.mem_of_getElem? (i := 46) rfl)) (by decide) (by decide)) (g := (mkF m 206 #[.val (.int f), .val (.ref b), .val (.int r)] [(.int r), (.int (21 : Int32)), (.int f), (.ref b)])) rfl (by rw [hml]; rfl) (argsL := [(.ref b), (.int f), (.int (21 : Int32)), (.int r)]) (rest := []) (lenOf pd_5 rfl) rfl (by show 2 * 0 + _ ≤ _; exact Nat.le_of_eq rfl) (hb hby at_206) (fun _ _ => ⟨rfl, e0, (by decide : 1 + 0 ≤ _), (by decide : 5 + 0 ≤ _)⟩)
  dsimp only [Pt.U, Pt.locs, Pt.cells, Pt.slots] at X2 l2 y2 z2 st2 hQ2
  subst l2 y2 z2
  obtain ⟨⟨r1, rfl, lo1, up1, Fs2⟩, Nq2, Kq2, Ex2, Fi2, Fp2⟩ := hQ2
  have N2 := Fr.app N0 Nq2
  have sg3 : ∀ t, Steps p.tables e below (T2.setTop (mkF m 210 #[.val (.int f), .val (.ref b), .val (.int r1)] [])) t → Steps p.tables e below (T2.setTop (mkF m 209 #[.val (.int f), .val (.ref b), .val (.int r)] [(.int r1)])) t := by
    intro t kt
    refine XS.istoreN X2.here hx rfl (hb hby at_209) rfl (l' := #[.val (.int f), .val (.ref b), .val (.int r1)]) rfl ?_
    exact kt
  refine ⟨T2, _, _, r1, X2, rfl, N2, ⟨Nat.le_trans B0 Kq2.1, Ex2, Fi2, Fp2, Fs2, lo1, Int.le_trans up1 (Int.add_le_add_right up 1)⟩, fun t kt => ?_⟩
  refine sg1 _ ?_
  refine st2 _ ?_
  refine sg3 _ ?_
  exact kt
set_option maxRecDepth 65536 in
set_option maxHeartbeats 40000000 in
theorem own_s22 {p : Program} {l : Launch} {e : Env} {s : State} {m : MethodId} {args : Array Value} {below : List Frame} {meth : Method} {c : Code} {T0 : State} {locs : List Loc} {Z : State} {h0 : Heap} {a0 : Array Value} {n0 : Nat} (X0 : Stand p l e room_1 s m args below meth c T0 locs 1 5) (hx : p.tables.exec = Jvm.exec) (hZ : Z.Warmed39 s.vm) (hw : ∀ d ∈ tables_1, d.before a0 Z = true) (hby : c.code = code) (hml : c.maxLocals = 3) (hown : s.vm.findClass "com/example/handoff/handoff/WorkerTurnsTookPinLaw" = some m.cls) (e0 : T0.heap = h0) (N0 : Fr n0 locs) (b : Addr) (g_b : n0 ≤ b) (f r : Int32) (B : own_S Z h0 n0 b (21 : Int32) r 21) :
    ∃ T' h' locs' r', Stand p l e room_1 s m args below meth c T' locs' 1 5 ∧ T'.heap = h' ∧ Fr n0 locs' ∧ own_S Z h' n0 b (22 : Int32) r' 22 ∧ ∀ t, Steps p.tables e below (T'.setTop (mkF m 219 #[.val (.int f), .val (.ref b), .val (.int r')] [])) t → Steps p.tables e below (T0.setTop (mkF m 210 #[.val (.int f), .val (.ref b), .val (.int r)] [])) t := by
  obtain ⟨B0, Ex, Fi, Fp, Fs, lo, up⟩ := B
  have sg1 : ∀ t, Steps p.tables e below (T0.setTop (mkF m 215 #[.val (.int f), .val (.ref b), .val (.int r)] [(.int r), (.int (22 : Int32)), (.int f), (.ref b)])) t → Steps p.tables e below (T0.setTop (mkF m 210 #[.val (.int f), .val (.ref b), .val (.int r)] [])) t := by
    intro t kt
    refine XS.aloadN X0.here hx rfl (hb hby at_210) rfl rfl ?_
    show Steps p.tables e below (T0.setTop (mkF m 211 #[.val (.int f), .val (.ref b), .val (.int r)] [(.ref b)])) _
    refine XS.iloadN X0.here hx rfl (hb hby at_211) rfl ?_
    show Steps p.tables e below (T0.setTop (mkF m 212 #[.val (.int f), .val (.ref b), .val (.int r)] [(.int f), (.ref b)])) _
    refine XS.bipush X0.here hx rfl (hb hby at_212) ?_
    show Steps p.tables e below (T0.setTop (mkF m 214 #[.val (.int f), .val (.ref b), .val (.int r)] [(.int (22 : Int32)), (.int f), (.ref b)])) _
    refine XS.iloadN X0.here hx rfl (hb hby at_214) rfl ?_
    exact kt
  obtain ⟨_, _, ⟨T2, L2, k2, n2⟩, -, X2, ⟨Lc2, hQ2, l2, y2, z2⟩, st2⟩ := Jvm.LawKit.callS X0 hx (y := (⟨"com/example/handoff/handoff/WorkerTurnsTookPinLaw", "step", "(Lcom/example/handoff/handoff/WorkerTurns;III)I"⟩ : MethodName)) hown (mvT hZ (hw _ (List.mem_of_getElem? (i := 44) rfl))) (mvT hZ (hw _ (List.mem_of_getElem? (i := 45) rfl))) (mvT hZ (hw _ (List.mem_of_getElem? (i := 46) rfl))) (mvT hZ (hw _ (List.mem_of_getElem? (i := 47) rfl))) (by decide) (backOf (W := 0) (rm9 l Z a0 hw [] b f (22 : Int32) r (21 : Int32) h0 n0 B0 (by decide) lo (Int.le_trans up (by decide)) Ex Fi Fp Fs g_b) hZ (hw _ (List.mem_of_getElem? (i := 47) rfl)) (hw _ (List.mem_of_getElem? (i := 46) rfl)) (by decide) (by decide)) (g := (mkF m 215 #[.val (.int f), .val (.ref b), .val (.int r)] [(.int r), (.int (22 : Int32)), (.int f), (.ref b)])) rfl (by rw [hml]; rfl) (argsL := [(.ref b), (.int f), (.int (22 : Int32)), (.int r)]) (rest := []) (lenOf pd_5 rfl) rfl (by show 2 * 0 + _ ≤ _; exact Nat.le_of_eq rfl) (hb hby at_215) (fun _ _ => ⟨rfl, e0, (by decide : 1 + 0 ≤ _), (by decide : 5 + 0 ≤ _)⟩)
  dsimp only [Pt.U, Pt.locs, Pt.cells, Pt.slots] at X2 l2 y2 z2 st2 hQ2
  subst l2 y2 z2
  obtain ⟨⟨r1, rfl, lo1, up1, Fs2⟩, Nq2, Kq2, Ex2, Fi2, Fp2⟩ := hQ2
  have N2 := Fr.app N0 Nq2
  have sg3 : ∀ t, Steps p.tables e below (T2.setTop (mkF m 219 #[.val (.int f), .val (.ref b), .val (.int r1)] [])) t → Steps p.tables e below (T2.setTop (mkF m 218 #[.val (.int f), .val (.ref b), .val (.int r)] [(.int r1)])) t := by
    intro t kt
    refine XS.istoreN X2.here hx rfl (hb hby at_218) rfl (l' := #[.val (.int f), .val (.ref b), .val (.int r1)]) rfl ?_
    exact kt
  refine ⟨T2, _, _, r1, X2, rfl, N2, ⟨Nat.le_trans B0 Kq2.1, Ex2, Fi2, Fp2, Fs2, lo1, Int.le_trans up1 (Int.add_le_add_right up 1)⟩, fun t kt => ?_⟩
  refine sg1 _ ?_
  refine st2 _ ?_
  refine sg3 _ ?_
  exact kt
theorem pd_6 : parseMethodDescriptor "()V" = some ⟨[], none⟩ := by decide +kernel
def Q0 (Z : State) (f : Int32) (h0 : Heap) (n0 : Nat) (v : Option Value) (h : Heap) (L : List Loc) : Prop := v = some (.int 1) ∧ Fr n0 L
set_option maxRecDepth 65536 in
set_option maxHeartbeats 40000000 in
theorem rm0 (l : Launch) (Z : State) (a0 : Array Value) (hw : ∀ d ∈ tables_1, d.before a0 Z = true) (ws : List Jvm.Cond) (f : Int32) (h0 : Heap) (n0 : Nat) (Z0 : n0 ≤ h0.size)  :
    MetFree l x (head1 (Jvm.Cond.code x code maxLocals ret :: ws) room_1) (fun a U => a = #[(.int f)] ∧ Z.Warmed39 U.vm ∧ U.heap = h0) (fun _ _ _ _ _ => True) (fun _ U o U' => ∃ v L, o = .returned v ∧ Q0 Z f h0 n0 v U'.heap L ∧ FrameEnd U o U' L 1 5) := by
  refine MetFree.of_bodySF (plainFor_of_name pn_0) hisR ?_
  intro p e s m args below meth c s₁ Bd hml0 hP hK
  obtain ⟨rfl, hZ, hh⟩ := hP
  have hx := Bd.exec
  have hby := Bd.bytes
  have hml : c.maxLocals = 3 := hml0
  have hown : s.vm.findClass "com/example/handoff/handoff/WorkerTurnsTookPinLaw" = some m.cls := findClass_of_methodNamed Bd.named
  have hnm := (name_of_methodNamed Bd.named Bd.method).1
  have X0 : Stand p l e room_1 s m #[(.int f)] below meth c s₁ [] 0 0 := Stand.of_body Bd
  have e0 : s₁.heap = h0 := by rw [← hh, Bd.state]; rfl
  have N0 := Fr.nil n0
  have pre0 : ∀ t, Steps p.tables e below (s₁.setTop (mkF m 0 #[.val (.int f), .unset, .unset] [])) t → Steps p.tables e below (s₁.setTop (entryFrame m #[(.int f)] maxLocals)) t := fun t kq0 => castTop (ef_0 m f) kq0
  obtain ⟨T1, h1, X1, e1, E1, A1, D1, -, st1⟩ := newO X0 hx hZ hown (hw _ (List.mem_of_getElem? (i := 0) rfl)) (hw _ (List.mem_of_getElem? (i := 1) rfl)) (hw _ (List.mem_of_getElem? (i := 2) rfl)) e0 (g := (mkF m 0 #[.val (.int f), .unset, .unset] [])) rfl (hb hby at_0) (by decide) (by decide)
  obtain ⟨b2, g1⟩ : ∃ z, z = h0.size := ⟨_, rfl⟩
  rw [← g1] at A1 D1 st1
  have g_b2 : n0 ≤ b2 := Nat.le_trans Z0 (Nat.le_of_eq g1.symm)
  have Zs3 : n0 ≤ h1.size := Nat.le_trans Z0 E1.1
  have f4 : Fld Z h1 b2 "com/example/handoff/handoff/WorkerTurns" "average" "D" (.double (0 : UInt64)) := D1 (Or.inl (hw _ (List.mem_of_getElem? (i := 11) rfl))) (ty := .double) (by decide)
  have f5 : Fld Z h1 b2 "com/example/handoff/handoff/WorkerTurns" "interval" "I" (.int (0 : Int32)) := D1 (Or.inl (hw _ (List.mem_of_getElem? (i := 26) rfl))) (ty := .int) (by decide)
  have f6 : Fld Z h1 b2 "com/example/handoff/handoff/WorkerTurns" "slotRuns" "I" (.int (0 : Int32)) := D1 (Or.inl (hw _ (List.mem_of_getElem? (i := 33) rfl))) (ty := .int) (by decide)
  have f7 : Fld Z h1 b2 "com/example/handoff/handoff/WorkerTurns" "polls" "I" (.int (0 : Int32)) := D1 (Or.inl (hw _ (List.mem_of_getElem? (i := 40) rfl))) (ty := .int) (by decide)
  have sg8 : ∀ t, Steps p.tables e below (T1.setTop (mkF m 4 #[.val (.int f), .unset, .unset] [(.ref b2), (.ref b2)])) t → Steps p.tables e below (T1.setTop (mkF m 3 #[.val (.int f), .unset, .unset] [(.ref b2)])) t := by
    intro t kt
    refine XS.dup X1.here hx rfl (hb hby at_3) rfl rfl ?_
    exact kt
  obtain ⟨_, _, ⟨T9, L9, k9, n9⟩, -, X9, ⟨Lc9, hQ9, l9, y9, z9⟩, st9⟩ := X1.specialBack hx (y := (⟨"com/example/handoff/handoff/WorkerTurns", "<init>", "()V"⟩ : MethodName)) rfl hown (mvT hZ (hw _ (List.mem_of_getElem? (i := 3) rfl))) (mvT hZ (hw _ (List.mem_of_getElem? (i := 4) rfl))) (mvT hZ (hw _ (List.mem_of_getElem? (i := 5) rfl))) (by decide) (backOf (W := 1) (rm1 l Z a0 hw [] b2 h1 n0 Zs3 A1 f4 f5 f7 f6 g_b2) hZ (hw _ (List.mem_of_getElem? (i := 5) rfl)) (hw _ (List.mem_of_getElem? (i := 2) rfl)) (by decide) (by decide)) (g := (mkF m 4 #[.val (.int f), .unset, .unset] [(.ref b2), (.ref b2)])) rfl (by rw [hml]; rfl) (Steps.refl _) (a := b2) (argsL := []) (rest := [(.ref b2)]) (lenOf pd_6 rfl) rfl (by show 2 * 0 + _ ≤ _; exact Nat.le_of_eq rfl) (hb hby at_4) (fun _ _ => ⟨rfl, e1, (by decide : 1 + 0 ≤ _), (by decide : 5 + 0 ≤ _)⟩)
  dsimp only [Pt.U, Pt.locs, Pt.cells, Pt.slots] at X9 l9 y9 z9 st9 hQ9
  subst l9 y9 z9
  obtain ⟨rfl, Nq9, Kq9, Ex9, Fi9, Fp9, Fs9⟩ := hQ9
  have N9 := Fr.app N0 Nq9
  have Zs10 : n0 ≤ T9.heap.size := Nat.le_trans Zs3 Kq9.1
  have sg11 : ∀ t, Steps p.tables e below (T9.setTop (mkF m 9 #[.val (.int f), .val (.ref b2), .unset] [(.ref b2)])) t → Steps p.tables e below (T9.setTop (mkF m 7 #[.val (.int f), .unset, .unset] [(.ref b2)])) t := by
    intro t kt
    refine XS.astoreN X9.here hx rfl (hb hby at_7) rfl rfl (l' := #[.val (.int f), .val (.ref b2), .unset]) rfl ?_
    show Steps p.tables e below (T9.setTop (mkF m 8 #[.val (.int f), .val (.ref b2), .unset] [])) _
    refine XS.aloadN X9.here hx rfl (hb hby at_8) rfl rfl ?_
    exact kt
  obtain ⟨cq12, kq12, q12a, q12b, q12c⟩ := isOf hZ rfl Ex9
  obtain ⟨_, _, ⟨T12, L12, k12, n12⟩, -, X12, ⟨Lc12, hQ12, l12, y12, z12⟩, st12⟩ := X9.virtualBack hx (y := (⟨"com/example/handoff/handoff/WorkerTurns", "slotFirst", "()Z"⟩ : MethodName)) (z := (⟨"com/example/handoff/handoff/WorkerTurns", "slotFirst", "()Z"⟩ : MethodName)) hown (mvT hZ (hw _ (List.mem_of_getElem? (i := 27) rfl))) (mvT hZ (hw _ (List.mem_of_getElem? (i := 28) rfl))) (notFace_of_selects (args := #[]) (mvT hZ (hw _ (List.mem_of_getElem? (i := 30) rfl)))) (mvT hZ (hw _ (List.mem_of_getElem? (i := 30) rfl))) (mvT hZ (hw _ (List.mem_of_getElem? (i := 29) rfl))) (by decide) (backOf (W := 0) (rm6 l Z a0 hw [] b2 (0 : Int32) T9.heap n0 Zs10 Fs9) hZ (hw _ (List.mem_of_getElem? (i := 31) rfl)) (hw _ (List.mem_of_getElem? (i := 2) rfl)) (by decide) (by decide)) q12a q12c (g := (mkF m 9 #[.val (.int f), .val (.ref b2), .unset] [(.ref b2)])) rfl (by rw [hml]; rfl) (Steps.refl _) (argsL := []) (rest := []) (lenOf pd_4 rfl) rfl (by show 2 * 0 + _ ≤ _; exact Nat.le_of_eq rfl) (hb hby at_9) (fun _ _ => ⟨rfl, rfl, (by decide : 1 + 0 ≤ _), (by decide : 5 + 0 ≤ _)⟩)
  dsimp only [Pt.U, Pt.locs, Pt.cells, Pt.slots] at X12 l12 y12 z12 st12 hQ12
  subst l12 y12 z12
  obtain ⟨rfl, Nq12, eq12⟩ := hQ12
  have N12 := Fr.app N9 Nq12
  have sg13 : ∀ t, Steps p.tables e below (T12.setTop (mkF m 16 #[.val (.int f), .val (.ref b2), .unset] [(.ref b2)])) t → Steps p.tables e below (T12.setTop (mkF m 12 #[.val (.int f), .val (.ref b2), .unset] [(.int (if (0 : Int32) < (3 : Int32) then (1 : Int32) else 0))])) t := by
    intro t kt
    refine XS.ifNo X12.here hx rfl (hb hby at_12) rfl ((if0 _ _).trans (feq (by decide : ¬ ((if (0 : Int32) < (3 : Int32) then (1 : Int32) else 0) = (0 : Int32)))).1) ?_
    show Steps p.tables e below (T12.setTop (mkF m 15 #[.val (.int f), .val (.ref b2), .unset] [])) _
    refine XS.aloadN X12.here hx rfl (hb hby at_15) rfl rfl ?_
    exact kt
  obtain ⟨cq14, kq14, q14a, q14b, q14c⟩ := isOf hZ eq12 Ex9
  obtain ⟨_, _, ⟨T14, L14, k14, n14⟩, -, X14, ⟨Lc14, hQ14, l14, y14, z14⟩, st14⟩ := X12.virtualBack hx (y := (⟨"com/example/handoff/handoff/WorkerTurns", "sharedFirst", "()Z"⟩ : MethodName)) (z := (⟨"com/example/handoff/handoff/WorkerTurns", "sharedFirst", "()Z"⟩ : MethodName)) hown (mvT hZ (hw _ (List.mem_of_getElem? (i := 34) rfl))) (mvT hZ (hw _ (List.mem_of_getElem? (i := 35) rfl))) (notFace_of_selects (args := #[]) (mvT hZ (hw _ (List.mem_of_getElem? (i := 37) rfl)))) (mvT hZ (hw _ (List.mem_of_getElem? (i := 37) rfl))) (mvT hZ (hw _ (List.mem_of_getElem? (i := 36) rfl))) (by decide) (backOf (W := 0) (rm7 l Z a0 hw [] b2 (0 : Int32) T9.heap n0 Zs10 Fp9 Fi9) hZ (hw _ (List.mem_of_getElem? (i := 38) rfl)) (hw _ (List.mem_of_getElem? (i := 2) rfl)) (by decide) (by decide)) q14a q14c (g := (mkF m 16 #[.val (.int f), .val (.ref b2), .unset] [(.ref b2)])) rfl (by rw [hml]; rfl) (Steps.refl _) (argsL := []) (rest := []) (lenOf pd_4 rfl) rfl (by show 2 * 0 + _ ≤ _; exact Nat.le_of_eq rfl) (hb hby at_16) (fun _ _ => ⟨rfl, eq12, (by decide : 1 + 0 ≤ _), (by decide : 5 + 0 ≤ _)⟩)
  dsimp only [Pt.U, Pt.locs, Pt.cells, Pt.slots] at X14 l14 y14 z14 st14 hQ14
  subst l14 y14 z14
  obtain ⟨rfl, Nq14, eq14⟩ := hQ14
  have N14 := Fr.app N12 Nq14
  have sg15 : ∀ t, Steps p.tables e below (T14.setTop (mkF m 26 #[.val (.int f), .val (.ref b2), .val (.int (0 : Int32))] [])) t → Steps p.tables e below (T14.setTop (mkF m 19 #[.val (.int f), .val (.ref b2), .unset] [(.int (if (0 : Int32) < (20 : Int32) then (0 : Int32) else 1))])) t := by
    intro t kt
    refine XS.ifYes X14.here hx rfl (pc0 := 19) (pc' := 24) rfl (hb hby at_19) rfl ((if0 _ _).trans (teq (by decide : (if (0 : Int32) < (20 : Int32) then (0 : Int32) else 1) = (0 : Int32))).1) (by decide) (by decide) ?_
    show Steps p.tables e below (T14.setTop (mkF m 24 #[.val (.int f), .val (.ref b2), .unset] [])) _
    refine XS.iconst X14.here hx rfl (hb hby at_24) ?_
    show Steps p.tables e below (T14.setTop (mkF m 25 #[.val (.int f), .val (.ref b2), .unset] [(.int (0 : Int32))])) _
    refine XS.istoreN X14.here hx rfl (hb hby at_25) rfl (l' := #[.val (.int f), .val (.ref b2), .val (.int (0 : Int32))]) rfl ?_
    exact kt
  have B0 : own_S Z T9.heap n0 b2 (0 : Int32) (0 : Int32) 0 := ⟨Zs10, Ex9, Fi9, Fp9, Fs9, by decide, by decide⟩
  obtain ⟨Ts1, hs1, Ls1, r1, Xs1, es1, Ns1, B1, sts1⟩ := own_s1 X14 hx hZ hw hby hml hown eq14 N14 b2 g_b2 f (0 : Int32) B0
  obtain ⟨Ts2, hs2, Ls2, r2, Xs2, es2, Ns2, B2, sts2⟩ := own_s2 Xs1 hx hZ hw hby hml hown es1 Ns1 b2 g_b2 f r1 B1
  obtain ⟨Ts3, hs3, Ls3, r3, Xs3, es3, Ns3, B3, sts3⟩ := own_s3 Xs2 hx hZ hw hby hml hown es2 Ns2 b2 g_b2 f r2 B2
  obtain ⟨Ts4, hs4, Ls4, r4, Xs4, es4, Ns4, B4, sts4⟩ := own_s4 Xs3 hx hZ hw hby hml hown es3 Ns3 b2 g_b2 f r3 B3
  obtain ⟨Ts5, hs5, Ls5, r5, Xs5, es5, Ns5, B5, sts5⟩ := own_s5 Xs4 hx hZ hw hby hml hown es4 Ns4 b2 g_b2 f r4 B4
  obtain ⟨Ts6, hs6, Ls6, r6, Xs6, es6, Ns6, B6, sts6⟩ := own_s6 Xs5 hx hZ hw hby hml hown es5 Ns5 b2 g_b2 f r5 B5
  obtain ⟨Ts7, hs7, Ls7, r7, Xs7, es7, Ns7, B7, sts7⟩ := own_s7 Xs6 hx hZ hw hby hml hown es6 Ns6 b2 g_b2 f r6 B6
  obtain ⟨Ts8, hs8, Ls8, r8, Xs8, es8, Ns8, B8, sts8⟩ := own_s8 Xs7 hx hZ hw hby hml hown es7 Ns7 b2 g_b2 f r7 B7
  obtain ⟨Ts9, hs9, Ls9, r9, Xs9, es9, Ns9, B9, sts9⟩ := own_s9 Xs8 hx hZ hw hby hml hown es8 Ns8 b2 g_b2 f r8 B8
  obtain ⟨Ts10, hs10, Ls10, r10, Xs10, es10, Ns10, B10, sts10⟩ := own_s10 Xs9 hx hZ hw hby hml hown es9 Ns9 b2 g_b2 f r9 B9
  obtain ⟨Ts11, hs11, Ls11, r11, Xs11, es11, Ns11, B11, sts11⟩ := own_s11 Xs10 hx hZ hw hby hml hown es10 Ns10 b2 g_b2 f r10 B10
  obtain ⟨Ts12, hs12, Ls12, r12, Xs12, es12, Ns12, B12, sts12⟩ := own_s12 Xs11 hx hZ hw hby hml hown es11 Ns11 b2 g_b2 f r11 B11
  obtain ⟨Ts13, hs13, Ls13, r13, Xs13, es13, Ns13, B13, sts13⟩ := own_s13 Xs12 hx hZ hw hby hml hown es12 Ns12 b2 g_b2 f r12 B12
  obtain ⟨Ts14, hs14, Ls14, r14, Xs14, es14, Ns14, B14, sts14⟩ := own_s14 Xs13 hx hZ hw hby hml hown es13 Ns13 b2 g_b2 f r13 B13
  obtain ⟨Ts15, hs15, Ls15, r15, Xs15, es15, Ns15, B15, sts15⟩ := own_s15 Xs14 hx hZ hw hby hml hown es14 Ns14 b2 g_b2 f r14 B14
  obtain ⟨Ts16, hs16, Ls16, r16, Xs16, es16, Ns16, B16, sts16⟩ := own_s16 Xs15 hx hZ hw hby hml hown es15 Ns15 b2 g_b2 f r15 B15
  obtain ⟨Ts17, hs17, Ls17, r17, Xs17, es17, Ns17, B17, sts17⟩ := own_s17 Xs16 hx hZ hw hby hml hown es16 Ns16 b2 g_b2 f r16 B16
  obtain ⟨Ts18, hs18, Ls18, r18, Xs18, es18, Ns18, B18, sts18⟩ := own_s18 Xs17 hx hZ hw hby hml hown es17 Ns17 b2 g_b2 f r17 B17
  obtain ⟨Ts19, hs19, Ls19, r19, Xs19, es19, Ns19, B19, sts19⟩ := own_s19 Xs18 hx hZ hw hby hml hown es18 Ns18 b2 g_b2 f r18 B18
  obtain ⟨Ts20, hs20, Ls20, r20, Xs20, es20, Ns20, B20, sts20⟩ := own_s20 Xs19 hx hZ hw hby hml hown es19 Ns19 b2 g_b2 f r19 B19
  obtain ⟨Ts21, hs21, Ls21, r21, Xs21, es21, Ns21, B21, sts21⟩ := own_s21 Xs20 hx hZ hw hby hml hown es20 Ns20 b2 g_b2 f r20 B20
  obtain ⟨Ts22, hs22, Ls22, r22, Xs22, es22, Ns22, B22, sts22⟩ := own_s22 Xs21 hx hZ hw hby hml hown es21 Ns21 b2 g_b2 f r21 B21
  have sg16 : ∀ t, Steps p.tables e below (Ts22.setTop (mkF m 228 #[.val (.int f), .val (.ref b2), .val (.int r22)] [(.int (1 : Int32))])) t → Steps p.tables e below (Ts22.setTop (mkF m 219 #[.val (.int f), .val (.ref b2), .val (.int r22)] [])) t := by
    intro t kt
    refine XS.iloadN Xs22.here hx rfl (hb hby at_219) rfl ?_
    show Steps p.tables e below (Ts22.setTop (mkF m 220 #[.val (.int f), .val (.ref b2), .val (.int r22)] [(.int r22)])) _
    refine XS.ifNo Xs22.here hx rfl (hb hby at_220) rfl ((if0 _ _).trans (flt (own_nn B22.2.2.2.2.2.1 : ¬ (r22 < (0 : Int32)))).1) ?_
    show Steps p.tables e below (Ts22.setTop (mkF m 223 #[.val (.int f), .val (.ref b2), .val (.int r22)] [])) _
    refine XS.iconst Xs22.here hx rfl (hb hby at_223) ?_
    show Steps p.tables e below (Ts22.setTop (mkF m 224 #[.val (.int f), .val (.ref b2), .val (.int r22)] [(.int (1 : Int32))])) _
    refine XS.goto Xs22.here hx rfl (pc0 := 224) (pc' := 228) rfl (hb hby at_224) (by decide) (by decide) ?_
    exact kt
  obtain ⟨fs, hr, hrun, hended, hW, hsame⟩ := Xs22.leave (v := some (.int (1 : Int32))) (fun h => by rw [Bd.returns] at h; cases h)
  refine ⟨_, _, pre0 _ ?_, hrun, hended, _, _, rfl, ?_, ⟨_, rfl⟩, hW, hsame.mono (by decide) (by decide)⟩
  · refine st1 _ ?_
    refine sg8 _ ?_
    refine st9.trans ?_
    refine sg11 _ ?_
    refine st12.trans ?_
    refine sg13 _ ?_
    refine st14.trans ?_
    refine sg15 _ ?_
    refine sts1 _ ?_
    refine sts2 _ ?_
    refine sts3 _ ?_
    refine sts4 _ ?_
    refine sts5 _ ?_
    refine sts6 _ ?_
    refine sts7 _ ?_
    refine sts8 _ ?_
    refine sts9 _ ?_
    refine sts10 _ ?_
    refine sts11 _ ?_
    refine sts12 _ ?_
    refine sts13 _ ?_
    refine sts14 _ ?_
    refine sts15 _ ?_
    refine sts16 _ ?_
    refine sts17 _ ?_
    refine sts18 _ ?_
    refine sts19 _ ?_
    refine sts20 _ ?_
    refine sts21 _ ?_
    refine sts22 _ ?_
    refine sg16 _ ?_
    exact retN Xs22 hx (t := .boolean) Bd.returns (by simp) (hb hby at_228) hr
  · show Q0 Z f h0 n0 _ Ts22.heap _
    exact ⟨rfl, Ns22⟩
set_option maxRecDepth 65536 in
set_option maxHeartbeats 40000000 in
theorem comes_1 {Post : Tables → Env → Array Value → State → Outcome → State → Prop} (hpost : ∀ tb e args s v u, (limb_1_1.after args s (.returned v) u = true ∧ limb_1_2.after args s (.returned v) u = true ∧ True) → FrameEnd s (.returned v) u (Jvm.fieldLocs frame_1_writes args s ++ Jvm.arrayLocs frame_1_arrays args s ++ Jvm.staticLocs frame_1_statics s) 16 128 → Post tb e args s (.returned v) u) :
    ArmFor flags0 classFile x code maxLocals ret World_1 tables_1 room_1 Calls_1 rest_1 Pre_1 Post := by
  intro l hfl _ _ p e ha hc hk s m args below hf hA hF happ hP
  obtain ⟨hcalls, hrest, hpre⟩ := hP
  obtain ⟨-, -, -, hnamed, -, -, -, hat⟩ := (Spec.applies_iff hf).mp happ
  obtain ⟨hg, hn⟩ := and_e (Cond.before_iff.mp (show (Jvm.Cond.and given_1 narrow_1).before args s = true from hpre))
  obtain ⟨h1, h2⟩ := and_e hg
  obtain ⟨w0, rfl⟩ : ∃ w0 : Value, args = #[w0] := by
    have hs : args.size = 1 := by simpa [Cond.value, given_1] using h1
    obtain ⟨L⟩ := args
    match L, hs with
    | [w0], _ => exact ⟨w0, rfl⟩
  have hw := fun d (hd : d ∈ tables_1) => atoms_spec (ws := Jvm.Cond.code x code maxLocals ret :: tables_1) hat d (List.mem_cons_of_mem _ hd)
  have hfit : Fit s := fun {y c} hc i hi => by
    obtain ⟨ha, rfl⟩ := Array.getElem?_eq_some_iff.mp hc
    have q := List.all_eq_true.mp ((Array.all_eq_true_iff_forall_mem.mp hF) _ (Array.getElem_mem ha)) i (List.mem_range.mpr hi)
    simpa [Array.getElem?_eq_getElem hi] using q
  obtain ⟨i0, e0⟩ := is_v h2
  obtain rfl : w0 = (.int i0) := Option.some.inj e0
  obtain ⟨n, o, h1, h2, h3, _, L, rfl, ⟨rfl, N⟩, hq⟩ := rm0 l s _ hw tables_1 i0 s.heap s.heap.size (Nat.le_refl _) p e ha hc hk s m _ below hf ((Spec.applies_iff_loose hf).mp happ).1 ⟨rfl, State.Warmed39.refl s, rfl⟩ trivial
  refine ⟨n, _, h1, h2, h3, hpost _ _ _ _ _ _ ⟨Cond.after_iff.mpr rfl, Cond.after_iff.mpr (eq_i res_at (Term.int_eval (1)) rfl), trivial⟩ ⟨hq.1, hq.2.1, (hq.2.2.sift fun y hy => Or.inr (N y hy)).mono (by decide) (by decide)⟩⟩
theorem main_1_1 : Claimed_1_1 := comes_1 fun _ _ _ _ _ _ h hF => ⟨h.1, hF⟩
theorem main_1_2 : Claimed_1_2 := comes_1 fun _ _ _ _ _ _ h hF => ⟨h.2.1, hF⟩
end Jvm.Pilot.@@N@@
namespace Jvm.Pilot.@@N@@
open Jvm Jvm.ClassFile Sem Op Lib Jvm.Free Jvm.Stand Jvm.Pilot.@@N@@.Jvm.D
/-! MADE BY PROGRAM (witnessworld.py) out of the Statement's table words and the real class files: 10 classes; the members and pool entries that the words name. The judged class is class 1, her method 1. -/
namespace start1
open Jvm.ClassFile
def u (s : String) : CpInfo := .utf8 (stringToUtf16 s)
/-- a pool by its gaps: so many unusable entries, then the entry; so many at the end -/
def gap : Nat → List CpInfo → List CpInfo
  | 0, r => r
  | n + 1, r => .unusable :: gap n r
def poolList (es : List (Nat × CpInfo)) (last : Nat) : List CpInfo := es.foldr (fun e r => gap e.1 (e.2 :: r)) (gap last [])
def pool (es : List (Nat × CpInfo)) (last : Nat) : Array CpInfo := ⟨poolList es last⟩
def fileOf (pool : Array CpInfo) (this : Nat) (attrs : Array Attribute := #[]) (ms : Array MethodInfo := #[]) (fl : Nat := 33) (sup : Nat := 0) (ifs : Array Nat := #[]) (fds : Array FieldInfo := #[]) : ClassFile where
  minorVersion := 0
  majorVersion := 65
  constantPool := pool
  accessFlags := fl
  thisClass := this
  superClass := sup
  interfaces := ifs
  fields := fds
  methods := ms
  attributes := attrs
def plain (name : String) (sup : Option ClassId) : Class where
  name := name
  kind := .ordinary
  loader := none
  accessFlags := 33
  super := sup
  interfaces := #[]
  cf := none
  fields := #[]
  methods := #[]
  instanceTypes := #[]
  staticTypes := #[]
  resolved := #[]
  callSites := []
  init := .initialized
  statics := none
  mirror := none

def pool0 : Array CpInfo := pool [(5, u "<init>"), (0, u "()V"), (1, .class_ 10), (1, u "java/lang/Object")] 113

def k0c0 : Code := { maxStack := 0, maxLocals := 1, code := object_method_1_code, exceptionTable := #[], attributes := #[] }
def k0m0 : Method := { name := "<init>", desc := "()V", sig := { parameters := [], returnType := none }, accessFlags := 1, code := some k0c0 }
/-- java/lang/Object -/
def k0 : Class := { plain "java/lang/Object" none with
  accessFlags := 33
  interfaces := #[]
  cf := some (fileOf pool0 8 #[] #[{ accessFlags := 1, nameIndex := 5, descriptorIndex := 6, attributes := #[] }] 33 0 #[] #[])
  fields := #[]
  methods := #[k0m0]
  instanceTypes := #[]
  staticTypes := #[]
  resolved := Array.replicate 124 none
  statics := none }

def pool1 : Array CpInfo := pool [(2, .class_ 4), (0, .nameAndType 5 6), (0, u "java/lang/Object"), (0, u "<init>"), (0, u "()V"), (0, .class_ 8), (0, u "com/example/handoff/handoff/WorkerTurns"), (0, .methodref 7 3), (0, .methodref 7 11), (0, .nameAndType 12 13), (0, u "slotFirst"), (0, u "()Z"), (0, .methodref 7 15), (0, .nameAndType 16 13), (0, u "sharedFirst"), (0, .methodref 18 19), (0, .class_ 20), (0, .nameAndType 21 22), (0, u "com/example/handoff/handoff/WorkerTurnsTookPinLaw"), (0, u "step"), (0, u "(Lcom/example/handoff/handoff/WorkerTurns;III)I"), (0, .methodref 7 24), (0, .nameAndType 25 26), (0, u "took"), (0, u "(Z)V"), (2, u "law"), (0, u "(I)Z")] 3

def k1m0 : Method := { name := "<init>", desc := "()V", sig := { parameters := [], returnType := none }, accessFlags := 1, code := none }
def k1c1 : Code := { maxStack := 4, maxLocals := 3, code := code, exceptionTable := #[], attributes := #[] }
def k1m1 : Method := { name := "law", desc := "(I)Z", sig := { parameters := [.int], returnType := some .boolean }, accessFlags := 9, code := some k1c1 }
def k1c2 : Code := { maxStack := 3, maxLocals := 7, code := method_3_code, exceptionTable := #[], attributes := #[] }
def k1m2 : Method := { name := "step", desc := "(Lcom/example/handoff/handoff/WorkerTurns;III)I", sig := { parameters := [(.object "com/example/handoff/handoff/WorkerTurns"), .int, .int, .int], returnType := some .int }, accessFlags := 10, code := some k1c2 }
/-- com/example/handoff/handoff/WorkerTurnsTookPinLaw -/
def k1 : Class := { plain "com/example/handoff/handoff/WorkerTurnsTookPinLaw" (some 0) with
  accessFlags := 49
  interfaces := #[]
  cf := some (fileOf pool1 18 #[] #[{ accessFlags := 1, nameIndex := 5, descriptorIndex := 6, attributes := #[] }, { accessFlags := 9, nameIndex := 29, descriptorIndex := 30, attributes := #[] }, { accessFlags := 10, nameIndex := 21, descriptorIndex := 22, attributes := #[] }] 49 2 #[] #[])
  fields := #[]
  methods := #[k1m0, k1m1, k1m2]
  instanceTypes := #[]
  staticTypes := #[]
  resolved := Array.replicate 34 none
  statics := none }

def pool2 : Array CpInfo := pool [(1, .methodref 2 3), (0, .class_ 4), (0, .nameAndType 5 6), (0, u "java/lang/Object"), (0, u "<init>"), (0, u "()V"), (0, .class_ 8), (0, u "com/example/handoff/handoff/WorkerTurns"), (0, .double 4677104761256804352), (1, .fieldref 7 12), (0, .nameAndType 13 14), (0, u "average"), (0, u "D"), (0, .methodref 7 16), (0, .nameAndType 17 18), (0, u "interval"), (0, u "(D)I"), (0, .fieldref 7 20), (0, .nameAndType 17 21), (0, u "I"), (0, .fieldref 7 23), (0, .nameAndType 24 21), (0, u "polls"), (0, .methodref 26 27), (0, .class_ 28), (0, .nameAndType 29 30), (0, u "java/lang/Math"), (0, u "min"), (0, u "(II)I"), (0, .fieldref 7 32), (0, .nameAndType 33 21), (0, u "slotRuns"), (2, u "tickStart"), (0, u "J"), (5, u "(DD)D"), (2, u "took"), (0, u "(Z)V"), (0, .double 4620693217682128896), (1, .double 4643176031446892544), (1, .double 4696837146684686336), (1, .methodref 26 55), (0, .nameAndType 29 43), (0, .methodref 26 57), (0, .nameAndType 58 43), (0, u "max"), (0, u "TICK_POLLS"), (2, u "MAX_SLOT_RUNS"), (1, u "TARGET_NANOS"), (0, u "MIN_INTERVAL"), (1, u "MAX_INTERVAL"), (1, u "INITIAL_AVERAGE_NANOS"), (0, u "WEIGHT"), (4, u "sharedFirst"), (0, u "()Z"), (1, u "slotFirst")] 5

def k2c0 : Code := { maxStack := 3, maxLocals := 1, code := prog_29_method_1_code, exceptionTable := #[], attributes := #[] }
def k2m0 : Method := { name := "<init>", desc := "()V", sig := { parameters := [], returnType := none }, accessFlags := 0, code := some k2c0 }
def k2c1 : Code := { maxStack := 3, maxLocals := 1, code := prog_29_method_2_code, exceptionTable := #[], attributes := #[] }
def k2m1 : Method := { name := "sharedFirst", desc := "()Z", sig := { parameters := [], returnType := some .boolean }, accessFlags := 0, code := some k2c1 }
def k2c2 : Code := { maxStack := 2, maxLocals := 1, code := prog_29_method_3_code, exceptionTable := #[], attributes := #[] }
def k2m2 : Method := { name := "slotFirst", desc := "()Z", sig := { parameters := [], returnType := some .boolean }, accessFlags := 0, code := some k2c2 }
def k2c3 : Code := { maxStack := 3, maxLocals := 2, code := prog_29_method_4_code, exceptionTable := #[], attributes := #[] }
def k2m3 : Method := { name := "took", desc := "(Z)V", sig := { parameters := [.boolean], returnType := none }, accessFlags := 0, code := some k2c3 }
def k2c4 : Code := { maxStack := 8, maxLocals := 2, code := prog_29_method_7_code, exceptionTable := #[], attributes := #[] }
def k2m4 : Method := { name := "interval", desc := "(D)I", sig := { parameters := [.double], returnType := some .int }, accessFlags := 10, code := some k2c4 }
/-- com/example/handoff/handoff/WorkerTurns -/
def k2 : Class := { plain "com/example/handoff/handoff/WorkerTurns" (some 0) with
  accessFlags := 48
  interfaces := #[]
  cf := some (fileOf pool2 7 #[] #[{ accessFlags := 0, nameIndex := 5, descriptorIndex := 6, attributes := #[] }, { accessFlags := 0, nameIndex := 75, descriptorIndex := 76, attributes := #[] }, { accessFlags := 0, nameIndex := 78, descriptorIndex := 76, attributes := #[] }, { accessFlags := 0, nameIndex := 46, descriptorIndex := 47, attributes := #[] }, { accessFlags := 10, nameIndex := 17, descriptorIndex := 18, attributes := #[] }] 48 2 #[] #[{ accessFlags := 24, nameIndex := 59, descriptorIndex := 21, attributes := #[] }, { accessFlags := 24, nameIndex := 62, descriptorIndex := 21, attributes := #[] }, { accessFlags := 26, nameIndex := 64, descriptorIndex := 14, attributes := #[] }, { accessFlags := 26, nameIndex := 65, descriptorIndex := 21, attributes := #[] }, { accessFlags := 26, nameIndex := 67, descriptorIndex := 21, attributes := #[] }, { accessFlags := 26, nameIndex := 69, descriptorIndex := 14, attributes := #[] }, { accessFlags := 26, nameIndex := 70, descriptorIndex := 14, attributes := #[] }, { accessFlags := 2, nameIndex := 13, descriptorIndex := 14, attributes := #[] }, { accessFlags := 2, nameIndex := 17, descriptorIndex := 21, attributes := #[] }, { accessFlags := 2, nameIndex := 24, descriptorIndex := 21, attributes := #[] }, { accessFlags := 2, nameIndex := 36, descriptorIndex := 37, attributes := #[] }, { accessFlags := 2, nameIndex := 33, descriptorIndex := 21, attributes := #[] }])
  fields := #[{ name := "TICK_POLLS", type := .int, accessFlags := 24, slot := 0, constantValue := 0 }, { name := "MAX_SLOT_RUNS", type := .int, accessFlags := 24, slot := 1, constantValue := 0 }, { name := "TARGET_NANOS", type := .double, accessFlags := 26, slot := 2, constantValue := 0 }, { name := "MIN_INTERVAL", type := .int, accessFlags := 26, slot := 3, constantValue := 0 }, { name := "MAX_INTERVAL", type := .int, accessFlags := 26, slot := 4, constantValue := 0 }, { name := "INITIAL_AVERAGE_NANOS", type := .double, accessFlags := 26, slot := 5, constantValue := 0 }, { name := "WEIGHT", type := .double, accessFlags := 26, slot := 6, constantValue := 0 }, { name := "average", type := .double, accessFlags := 2, slot := 0, constantValue := 0 }, { name := "interval", type := .int, accessFlags := 2, slot := 1, constantValue := 0 }, { name := "polls", type := .int, accessFlags := 2, slot := 2, constantValue := 0 }, { name := "tickStart", type := .long, accessFlags := 2, slot := 3, constantValue := 0 }, { name := "slotRuns", type := .int, accessFlags := 2, slot := 4, constantValue := 0 }]
  methods := #[k2m0, k2m1, k2m2, k2m3, k2m4]
  instanceTypes := #[.double, .int, .int, .long, .int]
  staticTypes := #[.int, .int, .double, .int, .int, .double, .double]
  resolved := Array.replicate 84 none
  statics := none }

def pool3 : Array CpInfo := pool [(1, .class_ 2), (0, u "java/lang/Math"), (1, .class_ 6), (1, u "java/lang/Object"), (0, u "<init>"), (0, u "()V"), (43, u "(DD)D"), (45, .class_ 100), (1, u "java/lang/Math$RandomNumberGeneratorHolder"), (71, u "negativeZeroFloatBits"), (0, u "J"), (2, u "negativeZeroDoubleBits"), (21, u "max"), (2, u "min"), (43, u "$assertionsDisabled"), (0, u "Z"), (88, u "(II)I"), (2, u "twoToTheDoubleScaleDown"), (0, u "D"), (4, u "twoToTheDoubleScaleUp"), (9, u "E"), (3, u "PI"), (2, u "TAU"), (2, u "DEGREES_TO_RADIANS"), (0, u "RADIANS_TO_DEGREES")] 94

def k3m0 : Method := { name := "<init>", desc := "()V", sig := { parameters := [], returnType := none }, accessFlags := 2, code := none }
def k3c1 : Code := { maxStack := 4, maxLocals := 4, code := jdk_29_method_68_code, exceptionTable := #[], attributes := #[] }
def k3m1 : Method := { name := "max", desc := "(DD)D", sig := { parameters := [.double, .double], returnType := some .double }, accessFlags := 9, code := some k3c1 }
def k3c2 : Code := { maxStack := 2, maxLocals := 2, code := jdk_29_method_69_code, exceptionTable := #[], attributes := #[] }
def k3m2 : Method := { name := "min", desc := "(II)I", sig := { parameters := [.int, .int], returnType := some .int }, accessFlags := 9, code := some k3c2 }
def k3c3 : Code := { maxStack := 4, maxLocals := 4, code := jdk_29_method_72_code, exceptionTable := #[], attributes := #[] }
def k3m3 : Method := { name := "min", desc := "(DD)D", sig := { parameters := [.double, .double], returnType := some .double }, accessFlags := 9, code := some k3c3 }
/-- java/lang/Math -/
def k3 : Class := { plain "java/lang/Math" (some 0) with
  accessFlags := 49
  interfaces := #[]
  cf := some (fileOf pool3 1 #[.nestMembers #[98]] #[{ accessFlags := 2, nameIndex := 7, descriptorIndex := 8, attributes := #[] }, { accessFlags := 9, nameIndex := 198, descriptorIndex := 52, attributes := #[] }, { accessFlags := 9, nameIndex := 201, descriptorIndex := 335, attributes := #[] }, { accessFlags := 9, nameIndex := 201, descriptorIndex := 52, attributes := #[] }] 49 4 #[] #[{ accessFlags := 25, nameIndex := 354, descriptorIndex := 339, attributes := #[] }, { accessFlags := 25, nameIndex := 358, descriptorIndex := 339, attributes := #[] }, { accessFlags := 25, nameIndex := 361, descriptorIndex := 339, attributes := #[] }, { accessFlags := 26, nameIndex := 364, descriptorIndex := 339, attributes := #[] }, { accessFlags := 26, nameIndex := 365, descriptorIndex := 339, attributes := #[] }, { accessFlags := 26, nameIndex := 172, descriptorIndex := 173, attributes := #[] }, { accessFlags := 26, nameIndex := 176, descriptorIndex := 173, attributes := #[] }, { accessFlags := 8, nameIndex := 344, descriptorIndex := 339, attributes := #[] }, { accessFlags := 8, nameIndex := 338, descriptorIndex := 339, attributes := #[] }, { accessFlags := 4120, nameIndex := 245, descriptorIndex := 246, attributes := #[] }])
  fields := #[{ name := "E", type := .double, accessFlags := 25, slot := 0, constantValue := 0 }, { name := "PI", type := .double, accessFlags := 25, slot := 1, constantValue := 0 }, { name := "TAU", type := .double, accessFlags := 25, slot := 2, constantValue := 0 }, { name := "DEGREES_TO_RADIANS", type := .double, accessFlags := 26, slot := 3, constantValue := 0 }, { name := "RADIANS_TO_DEGREES", type := .double, accessFlags := 26, slot := 4, constantValue := 0 }, { name := "negativeZeroFloatBits", type := .long, accessFlags := 26, slot := 5, constantValue := 0 }, { name := "negativeZeroDoubleBits", type := .long, accessFlags := 26, slot := 6, constantValue := 0 }, { name := "twoToTheDoubleScaleUp", type := .double, accessFlags := 8, slot := 7, constantValue := 0 }, { name := "twoToTheDoubleScaleDown", type := .double, accessFlags := 8, slot := 8, constantValue := 0 }, { name := "$assertionsDisabled", type := .boolean, accessFlags := 4120, slot := 9, constantValue := 0 }]
  methods := #[k3m0, k3m1, k3m2, k3m3]
  instanceTypes := #[]
  staticTypes := #[.double, .double, .double, .double, .double, .long, .long, .double, .double, .boolean]
  resolved := Array.replicate 460 none
  statics := none }

def pool4 : Array CpInfo := pool [(1, u "java/lang/Cloneable"), (0, .class_ 1), (0, u "java/lang/Object"), (0, .class_ 3)] 3

/-- java/lang/Cloneable -/
def k4 : Class := { plain "java/lang/Cloneable" (some 0) with
  accessFlags := 1537
  interfaces := #[]
  cf := some (fileOf pool4 2 #[] #[] 1537 4 #[] #[])
  fields := #[]
  methods := #[]
  instanceTypes := #[]
  staticTypes := #[]
  resolved := Array.replicate 8 none
  statics := none }

def pool5 : Array CpInfo := pool [(1, u "java/io/Serializable"), (0, .class_ 1), (0, u "java/lang/Object"), (0, .class_ 3)] 3

/-- java/io/Serializable -/
def k5 : Class := { plain "java/io/Serializable" (some 0) with
  accessFlags := 1537
  interfaces := #[]
  cf := some (fileOf pool5 2 #[] #[] 1537 4 #[] #[])
  fields := #[]
  methods := #[]
  instanceTypes := #[]
  staticTypes := #[]
  resolved := Array.replicate 8 none
  statics := none }

/-- the primitive byte -/
def k6 : Class := { plain "byte" none with kind := .primitive 'B', accessFlags := 0x411 }
/-- [B -/
def k7 : Class := { plain "[B" (some 0) with kind := .array 6 .byte, interfaces := #[4, 5], accessFlags := 1041 }

/-- the primitive int -/
def k8 : Class := { plain "int" none with kind := .primitive 'I', accessFlags := 0x411 }
/-- [I -/
def k9 : Class := { plain "[I" (some 0) with kind := .array 8 .int, interfaces := #[4, 5], accessFlags := 1041 }

def heap : Heap := #[]
def classes : Array Class := #[k0, k1, k2, k3, k4, k5, k6, k7, k8, k9]
def interned : List (Array UInt16 × Addr) := []
def slotsUsed : Nat := 0
def theMethod : MethodId := ⟨1, 1⟩
def args0 : Array Value := #[.int 5]
def aboutOver (below : List Frame) : State where
  vm := { classes := classes, interned := interned.toArray }
  heap := heap
  slotsUsed := slotsUsed
  threads := #[{ frames := .invoking theMethod args0 :: below }]
def below0 : List Frame := [.native { method := ⟨0, 0⟩, args := #[] }]
def about1 : State := aboutOver below0
def p0 : Program := .bare "" "" ""
def e0 : Env := launch0.env 0 0 0
theorem w_frames : about1.frames = Frame.invoking theMethod args0 :: below0 := rfl
set_option maxRecDepth 65536 in
theorem w_args : argsFit about1.vm theMethod args0 = true := by decide +kernel
set_option maxRecDepth 65536 in
theorem w_heap : heapFits about1 = true := by decide +kernel
set_option maxRecDepth 65536 in
theorem w_runnable : about1.curStatus? = some .runnable := by decide +kernel
set_option maxRecDepth 65536 in
theorem w_alone : about1.alone = true := by decide +kernel
set_option maxRecDepth 65536 in
theorem w_named : about1.methodNamed? x = some theMethod := by decide +kernel
set_option maxRecDepth 65536 in
theorem w_hears : about1.hears theMethod below0 = true := by decide +kernel
set_option maxRecDepth 65536 in
theorem w_ripe : about1.ripe theMethod args0 below0 = true := by decide +kernel
theorem w_running : about1.status = .running := rfl
set_option maxRecDepth 65536 in
theorem w_room : about1.hasRoom e0.platform room_1 = true :=
  launch0.hasRoom_least _ room_1 (by decide +kernel) (by decide +kernel) (by decide +kernel) (by decide +kernel) (by decide +kernel) (by decide +kernel)
theorem allAtoms_all (ts : List Jvm.Cond) (a : Array Jvm.Value) (st : Jvm.State) : (allAtoms ts).before a st = ts.all (fun c => c.before a st) := by
  induction ts with
  | nil => rfl
  | cons c t ih =>
    show (Jvm.Cond.and c (allAtoms t)).before a st = _
    rw [Jvm.Cond.before_and, ih, List.all_cons]
def words1 : List Jvm.Cond := Jvm.Cond.code x code maxLocals ret :: tables_1
/-- a 'code' word, met by the world's own term for the bytes: nothing is compared byte by byte -/
theorem code_word {y : MethodName} {bytes : ByteArray} {mx : Nat} {rt : Option FieldType} {a : Array Value} {s : State} {m : MethodId} {meth : Method} {c : Code} (h1 : s.methodNamed? y = some m) (h2 : s.vm.method? m = some meth) (h3 : meth.code = some c) (h4 : c.code = bytes)
    (h5 : (c.maxLocals == mx && c.exceptionTable.isEmpty && decide (c.maxStack ≤ mostOperands) && decide (meth.sig.returnType = rt) && !meth.locks && decide (parseMethodDescriptor y.desc = some meth.sig)) = true) : (Jvm.Cond.code y bytes mx rt).before a s = true := by
  simp only [Bool.and_eq_true, beq_iff_eq, Bool.not_eq_true', decide_eq_true_eq] at h5
  obtain ⟨⟨⟨⟨⟨g1, g2⟩, g3⟩, g4⟩, g5⟩, g6⟩ := h5
  simp [Cond.before, Cond.holds, Cond.value, h1, h2, h3, h4, g1, g2, g3, g4, g5, g6]
def isCode : Jvm.Cond → Bool
  | .code _ _ _ _ => true
  | _ => false
theorem all_split {L : List Jvm.Cond} {P : Jvm.Cond → Bool} (h1 : L.all (fun c => isCode c || P c) = true) (h2 : ∀ c ∈ L.filter isCode, P c = true) : L.all P = true := by
  refine List.all_eq_true.mpr fun c hc => ?_
  have h := List.all_eq_true.mp h1 c hc
  rcases Bool.eq_false_or_eq_true (isCode c) with hi | hi
  · exact h2 c (List.mem_filter.mpr ⟨hc, hi⟩)
  · simpa [hi] using h
set_option maxRecDepth 65536 in
theorem w_c0 : (Jvm.Cond.code x code maxLocals ret).before args0 about1 = true := code_word (m := ⟨1, 1⟩) (meth := k1m1) (c := k1c1) (by decide +kernel) rfl rfl rfl (by decide +kernel)
set_option maxRecDepth 65536 in
theorem w_c1 : (Jvm.Cond.code ({ cls := "com/example/handoff/handoff/WorkerTurns", name := "<init>", desc := "()V" } : Jvm.MethodName) prog_29_method_1_code (1 : Nat) (Option.none : Option Jvm.ClassFile.FieldType)).before args0 about1 = true := code_word (m := ⟨2, 0⟩) (meth := k2m0) (c := k2c0) (by decide +kernel) rfl rfl rfl (by decide +kernel)
set_option maxRecDepth 65536 in
theorem w_c2 : (Jvm.Cond.code ({ cls := "java/lang/Object", name := "<init>", desc := "()V" } : Jvm.MethodName) object_method_1_code (1 : Nat) (Option.none : Option Jvm.ClassFile.FieldType)).before args0 about1 = true := code_word (m := ⟨0, 0⟩) (meth := k0m0) (c := k0c0) (by decide +kernel) rfl rfl rfl (by decide +kernel)
set_option maxRecDepth 65536 in
theorem w_c3 : (Jvm.Cond.code ({ cls := "com/example/handoff/handoff/WorkerTurns", name := "interval", desc := "(D)I" } : Jvm.MethodName) prog_29_method_7_code (2 : Nat) (Option.some Jvm.ClassFile.FieldType.int)).before args0 about1 = true := code_word (m := ⟨2, 4⟩) (meth := k2m4) (c := k2c4) (by decide +kernel) rfl rfl rfl (by decide +kernel)
set_option maxRecDepth 65536 in
theorem w_c4 : (Jvm.Cond.code ({ cls := "java/lang/Math", name := "min", desc := "(DD)D" } : Jvm.MethodName) jdk_29_method_72_code (4 : Nat) (Option.some Jvm.ClassFile.FieldType.double)).before args0 about1 = true := code_word (m := ⟨3, 3⟩) (meth := k3m3) (c := k3c3) (by decide +kernel) rfl rfl rfl (by decide +kernel)
set_option maxRecDepth 65536 in
theorem w_c5 : (Jvm.Cond.code ({ cls := "java/lang/Math", name := "max", desc := "(DD)D" } : Jvm.MethodName) jdk_29_method_68_code (4 : Nat) (Option.some Jvm.ClassFile.FieldType.double)).before args0 about1 = true := code_word (m := ⟨3, 1⟩) (meth := k3m1) (c := k3c1) (by decide +kernel) rfl rfl rfl (by decide +kernel)
set_option maxRecDepth 65536 in
theorem w_c6 : (Jvm.Cond.code ({ cls := "com/example/handoff/handoff/WorkerTurns", name := "slotFirst", desc := "()Z" } : Jvm.MethodName) prog_29_method_3_code (1 : Nat) (Option.some Jvm.ClassFile.FieldType.boolean)).before args0 about1 = true := code_word (m := ⟨2, 2⟩) (meth := k2m2) (c := k2c2) (by decide +kernel) rfl rfl rfl (by decide +kernel)
set_option maxRecDepth 65536 in
theorem w_c7 : (Jvm.Cond.code ({ cls := "com/example/handoff/handoff/WorkerTurns", name := "sharedFirst", desc := "()Z" } : Jvm.MethodName) prog_29_method_2_code (1 : Nat) (Option.some Jvm.ClassFile.FieldType.boolean)).before args0 about1 = true := code_word (m := ⟨2, 1⟩) (meth := k2m1) (c := k2c1) (by decide +kernel) rfl rfl rfl (by decide +kernel)
set_option maxRecDepth 65536 in
theorem w_c8 : (Jvm.Cond.code ({ cls := "java/lang/Math", name := "min", desc := "(II)I" } : Jvm.MethodName) jdk_29_method_69_code (2 : Nat) (Option.some Jvm.ClassFile.FieldType.int)).before args0 about1 = true := code_word (m := ⟨3, 2⟩) (meth := k3m2) (c := k3c2) (by decide +kernel) rfl rfl rfl (by decide +kernel)
set_option maxRecDepth 65536 in
theorem w_c9 : (Jvm.Cond.code ({ cls := "com/example/handoff/handoff/WorkerTurnsTookPinLaw", name := "step", desc := "(Lcom/example/handoff/handoff/WorkerTurns;III)I" } : Jvm.MethodName) method_3_code (7 : Nat) (Option.some Jvm.ClassFile.FieldType.int)).before args0 about1 = true := code_word (m := ⟨1, 2⟩) (meth := k1m2) (c := k1c2) (by decide +kernel) rfl rfl rfl (by decide +kernel)
set_option maxRecDepth 65536 in
theorem w_c10 : (Jvm.Cond.code ({ cls := "com/example/handoff/handoff/WorkerTurns", name := "took", desc := "(Z)V" } : Jvm.MethodName) prog_29_method_4_code (2 : Nat) (Option.none : Option Jvm.ClassFile.FieldType)).before args0 about1 = true := code_word (m := ⟨2, 3⟩) (meth := k2m3) (c := k2c3) (by decide +kernel) rfl rfl rfl (by decide +kernel)
def codes1 : List Jvm.Cond := [Jvm.Cond.code x code maxLocals ret, Jvm.Cond.code ({ cls := "com/example/handoff/handoff/WorkerTurns", name := "<init>", desc := "()V" } : Jvm.MethodName) prog_29_method_1_code (1 : Nat) (Option.none : Option Jvm.ClassFile.FieldType), Jvm.Cond.code ({ cls := "java/lang/Object", name := "<init>", desc := "()V" } : Jvm.MethodName) object_method_1_code (1 : Nat) (Option.none : Option Jvm.ClassFile.FieldType), Jvm.Cond.code ({ cls := "com/example/handoff/handoff/WorkerTurns", name := "interval", desc := "(D)I" } : Jvm.MethodName) prog_29_method_7_code (2 : Nat) (Option.some Jvm.ClassFile.FieldType.int), Jvm.Cond.code ({ cls := "java/lang/Math", name := "min", desc := "(DD)D" } : Jvm.MethodName) jdk_29_method_72_code (4 : Nat) (Option.some Jvm.ClassFile.FieldType.double), Jvm.Cond.code ({ cls := "java/lang/Math", name := "max", desc := "(DD)D" } : Jvm.MethodName) jdk_29_method_68_code (4 : Nat) (Option.some Jvm.ClassFile.FieldType.double), Jvm.Cond.code ({ cls := "com/example/handoff/handoff/WorkerTurns", name := "slotFirst", desc := "()Z" } : Jvm.MethodName) prog_29_method_3_code (1 : Nat) (Option.some Jvm.ClassFile.FieldType.boolean), Jvm.Cond.code ({ cls := "com/example/handoff/handoff/WorkerTurns", name := "sharedFirst", desc := "()Z" } : Jvm.MethodName) prog_29_method_2_code (1 : Nat) (Option.some Jvm.ClassFile.FieldType.boolean), Jvm.Cond.code ({ cls := "java/lang/Math", name := "min", desc := "(II)I" } : Jvm.MethodName) jdk_29_method_69_code (2 : Nat) (Option.some Jvm.ClassFile.FieldType.int), Jvm.Cond.code ({ cls := "com/example/handoff/handoff/WorkerTurnsTookPinLaw", name := "step", desc := "(Lcom/example/handoff/handoff/WorkerTurns;III)I" } : Jvm.MethodName) method_3_code (7 : Nat) (Option.some Jvm.ClassFile.FieldType.int), Jvm.Cond.code ({ cls := "com/example/handoff/handoff/WorkerTurns", name := "took", desc := "(Z)V" } : Jvm.MethodName) prog_29_method_4_code (2 : Nat) (Option.none : Option Jvm.ClassFile.FieldType)]
set_option maxRecDepth 65536 in
theorem codes_eq : words1.filter isCode = codes1 := rfl
theorem w_codes : ∀ c ∈ words1.filter isCode, c.before args0 about1 = true := by
  rw [codes_eq]
  intro c hc
  simp only [codes1, List.mem_cons, List.not_mem_nil, or_false] at hc
  rcases hc with rfl | rfl | rfl | rfl | rfl | rfl | rfl | rfl | rfl | rfl | rfl
  · exact w_c0
  · exact w_c1
  · exact w_c2
  · exact w_c3
  · exact w_c4
  · exact w_c5
  · exact w_c6
  · exact w_c7
  · exact w_c8
  · exact w_c9
  · exact w_c10
set_option maxRecDepth 65536 in
theorem w_t1 : (words1.take 24).all (fun c => isCode c || c.before args0 about1) = true := by decide +kernel
set_option maxRecDepth 65536 in
theorem w_t2 : ((words1.drop 24).take 24).all (fun c => isCode c || c.before args0 about1) = true := by decide +kernel
set_option maxRecDepth 65536 in
theorem w_t3 : ((words1.drop 24).drop 24).all (fun c => isCode c || c.before args0 about1) = true := by decide +kernel
theorem w_tables : (allAtoms (Jvm.Cond.code x code maxLocals ret :: tables_1)).before args0 about1 = true := by
  rw [allAtoms_all]
  show words1.all (fun c => c.before args0 about1) = true
  refine all_split ?_ w_codes
  rw [← List.take_append_drop 24 words1, List.all_append, w_t1, ← List.take_append_drop 24 (words1.drop 24), List.all_append, w_t2, w_t3]
  rfl
set_option maxRecDepth 65536 in
theorem w_case : (Jvm.Cond.and given_1 narrow_1).before args0 about1 = true := by decide +kernel
theorem w_applies : (headSpec (Jvm.Cond.code x code maxLocals ret :: tables_1) room_1).applies x e0.platform about1 = true :=
  (Spec.applies_iff w_frames).mpr ⟨w_running, w_runnable, w_alone, w_named, w_hears, w_ripe, w_room, w_tables⟩
theorem atStart : AtStart classFile x code maxLocals ret World_1 tables_1 room_1 Calls_1 rest_1 Pre_1 launch0 p0 e0 about1 theMethod args0 below0 :=
  ⟨lists_1, trivial, launch0.admits_env _ _ _, launch0.least_env, fairChoices_fair.cas, fairChoices_fair.clock, w_frames, w_args, w_heap, w_applies, trivial, trivial, w_case⟩
end start1
theorem witness_1 : WitnessClaimed_1 := ⟨start1.p0, start1.e0, start1.about1, start1.theMethod, start1.args0, start1.below0, start1.atStart⟩
end Jvm.Pilot.@@N@@
